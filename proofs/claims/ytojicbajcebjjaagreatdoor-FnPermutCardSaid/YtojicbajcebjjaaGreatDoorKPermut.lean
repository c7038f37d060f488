/-
  laws.FnPermut: for every two numbers the call returns true, and the arguments read as they did. The card: the row with its listed variables tied to the program's text.
  Conditions: none beyond the given row's own (its listed package-level variables, tied by the given Tie).
-/
import Derived.Test.YtojicbajcebjjaaGreatDoorCards
import Derived.Test.YtojicbajcebjjaaGreatDoorTie
import Derived.Test.YtojicbajcebjjaaGreatDoorR
import Derived.ProofKit
import Derived.OpenShut
import Derived.LaidMore
import Derived.Lay
import Derived.SevenTiedAt
import Derived.Stop.Joined
namespace Go.Proofs.YtojicbajcebjjaaGreatDoor.FnPermut
open Go.ChangeShapes Go.WideShapes Go.ChangeAt Go.RowKit

-- the row's closed facts, one by one
theorem and_tt {a b : Bool} (h : a = true) (k : b = true) : (a && b) = true := by rw [h, k]; rfl
theorem k0 : (Rows.fnPermutRow.wf (OpenSpec.ofChange Rows.fnPermutSpec) : Bool) = true := by kernel_rfl
theorem k1 : (laidOutB Tryz.prog : Bool) = true := by kernel_rfl
theorem k2 : (mapsRowed Tryz.prog : Bool) = true := by kernel_rfl
theorem k3 : (Tryz.f9.params.all (Tryz.prog.readableRec ·) : Bool) = true := by kernel_rfl
theorem k4 : (namedTie Tryz.prog Rows.fnPermutRow.named Rows.fnPermutSpec.vars : Bool) = true := by kernel_rfl
theorem k5 : ((Rows.fnPermutRow.stops == []) : Bool) = true := by kernel_rfl
theorem k6 : ((Tryz.prog.stops == []) : Bool) = true := by kernel_rfl
theorem k7 : ((Rows.fnPermutRow.knobs == []) : Bool) = true := by kernel_rfl
theorem k8 : ((Tryz.prog.stopKnobs == []) : Bool) = true := by kernel_rfl
theorem k9 : ((Rows.fnPermutRow.inPlace == Tryz.prog.inPlace 9) : Bool) = true := by kernel_rfl
theorem k10 : ((Rows.fnPermutRow.unfollowed == Tryz.prog.unfollowed 9) : Bool) = true := by kernel_rfl
theorem k11 : ((Rows.fnPermutRow.recurses == Tryz.prog.recurses 9) : Bool) = true := by kernel_rfl
theorem k12 : ((Rows.fnPermutRow.named == Tryz.prog.varsNamed 9) : Bool) = true := by kernel_rfl
theorem k13 : ((Rows.fnPermutRow.maps == (Tryz.f9.params.toList ++ Rows.fnPermutSpec.plain.varTypes Tryz.prog).any (Tryz.prog.mapsRec ·)) : Bool) = true := by kernel_rfl
theorem k14 : ((Rows.fnPermutRow.ifaces == (Tryz.f9.params.toList ++ Rows.fnPermutSpec.plain.varTypes Tryz.prog).any (Tryz.prog.ifacesRec ·)) : Bool) = true := by kernel_rfl
theorem k15 : ((Rows.fnPermutRow.mapsOut == Tryz.prog.mapsAmong Tryz.f9.resultTypes.toList) : Bool) = true := by kernel_rfl
theorem k16 : ((Rows.fnPermutRow.loops == (Tryz.f9.params.toList ++ Rows.fnPermutSpec.plain.varTypes Tryz.prog).any (Tryz.prog.loopsFrom ·)) : Bool) = true := by kernel_rfl
theorem k17 : ((Rows.fnPermutRow.wideKeys == (Tryz.f9.params.toList ++ Rows.fnPermutSpec.plain.varTypes Tryz.prog ++ Tryz.f9.resultTypes.toList).any (Tryz.prog.wideKeysFrom ·)) : Bool) = true := by kernel_rfl
theorem k18 : (Rows.fnPermutSpec.vars.all (Tryz.prog.varReadable ·) : Bool) = true := by kernel_rfl
theorem k19 : (Tryz.f9.resultTypes.all (fun t => Tryz.prog.readableRec t && decide (t < Tryz.prog.types.size)) : Bool) = true := by kernel_rfl
theorem k20 : ((Rows.fnPermutRow.ifacesOut == Tryz.f9.resultTypes.toList.any (Tryz.prog.ifacesRec ·)) : Bool) = true := by kernel_rfl
theorem k21 : ((Rows.fnPermutRow.loopsOut == Tryz.f9.resultTypes.toList.any (Tryz.prog.loopsFrom ·)) : Bool) = true := by kernel_rfl
theorem k22 : ((Rows.fnPermutRow.plainKeys == Tryz.prog.plainKeys) : Bool) = true := by kernel_rfl
theorem k23 : (Rows.fnPermutRow.shortTexts.isNone : Bool) = true := by kernel_rfl
theorem k24 : (Tryz.prog.stopsHeard : Bool) = true := by kernel_rfl
theorem k25 : (Tryz.prog.mayEnter : Bool) = true := by kernel_rfl
theorem k26 : ((Rows.fnPermutRow.lifted == Tryz.prog.liftsFinal) : Bool) = true := by kernel_rfl
theorem k27 : ((Tryz.prog.make == some Rows.fnPermutRow.make) : Bool) = true := by kernel_rfl
theorem k28 : ((Rows.fnPermutRow.kinds == (if Rows.fnPermutRow.domain.isEmpty then [] else Tryz.f9.params.toList.map fun t => match Tryz.prog.underlying t with | some (.int k) => some k | _ => none)) : Bool) = true := by kernel_rfl
theorem k29 : ((Rows.fnPermutRow.pinned == Rows.fnPermutRow.pinnedBy) : Bool) = true := by kernel_rfl
theorem k30 : ((Rows.fnPermutRow.veiled == (Tryz.f9.params.toList ++ Rows.fnPermutSpec.plain.varTypes Tryz.prog ++ Tryz.f9.resultTypes.toList).any (Tryz.prog.veiledRec ·)) : Bool) = true := by kernel_rfl
theorem k31 : (Rows.fnPermutRow.veiledFits Tryz.prog Tryz.f9.params.toList (Tryz.f9.params.toList ++ Rows.fnPermutSpec.plain.varTypes Tryz.prog ++ Tryz.f9.resultTypes.toList) : Bool) = true := by kernel_rfl
set_option maxRecDepth 100000 in
theorem closed : joinedFacts Tryz.prog 9 Tryz.f9 Rows.fnPermutSpec Rows.fnPermutRow = true := by
  unfold joinedFacts
  exact (and_tt (and_tt (and_tt (and_tt (and_tt (and_tt (and_tt (and_tt (and_tt (and_tt (and_tt (and_tt (and_tt (and_tt (and_tt (and_tt (and_tt (and_tt (and_tt (and_tt (and_tt (and_tt (and_tt (and_tt (and_tt (and_tt (and_tt (and_tt (and_tt (and_tt (and_tt k0 k1) k2) k3) k4) k5) k6) k7) k8) k9) k10) k11) k12) k13) k14) k15) k16) k17) k18) k19) k20) k21) k22) k23) k24) k25) k26) k27) k28) k29) k30) k31)

theorem own : ownKnob Tryz.prog.godebug = none := by kernel_rfl

set_option maxRecDepth 100000 in
theorem lifted (os : Os) (started : os.Started) (H : Type) (enc : TypeId × Value → H) :
    ReturnsInHanded {} Tryz.checked os 9 .any (fun w args => (Rows.fnPermutSpec.pre enc Tryz.prog Tryz.f9 Rows.fnPermutRow.domain false w args ∧ laidMetH Tryz.prog Rows.fnPermutRow.laid w) ∧ sizedMet enc Tryz.prog Tryz.f9 (OpenSpec.ofChange Rows.fnPermutSpec) false w args)
      (Rows.fnPermutSpec.post enc Tryz.prog Tryz.f9 false true false false) := by
  refine returnsInHanded_of_change_and (C := Tryz.checked) (X := fun w _ => laidMetH Tryz.prog Rows.fnPermutRow.laid w) (fun _ _ _ hh h => h.of_heap hh) own started (by kernel_rfl) Tryz.func9
    (ChangeSpec.witness_shaped (enc := enc) (C := Tryz.checked) (os := os) (X := fun w _ => laidMetH Tryz.prog Rows.fnPermutRow.laid w) false (World.laidAll Tryz.prog os Rows.fnPermutRow.laid) #[.int .i64 0, .int .i64 0] 8 (World.laidAll_os _ _ _)
      (World.shaped_of_ZipB (by kernel_rfl) (by kernel_rfl)) (by kernel_rfl) (by kernel_rfl) (by kernel_rfl)
      (by rw [MakeChecks.laidMetH_plain _ _ _ (by kernel_rfl)]; exact laidMet_laidAll _ (by kernel_rfl) (by kernel_rfl))) ?_
  intro W base args ds gs before hval0 hW hc _ _hL _
  have hval : ∀ (j : Nat) t v, Tryz.f9.params[j]? = some t → args[j]? = some v → Value.okWide Tryz.prog W .any base t v := hval0
  have hW' := hW
  obtain ⟨p, q, hA0, hV, rfl, _, _⟩ := hW
  have hA : DataW.TrodAll enc Tryz.prog W 0 (fun _ => true) true Tryz.f9.params.toList args.toList ds p := hA0
  rw [Tryz.params9] at hA hval
  obtain ⟨v0, v1, d0, d1, p0, p1, rfl, rfl, rfl, h0, h1⟩ := trodAll_two hA
  obtain ⟨rfl, rfl⟩ := trodVars_none hV
  obtain ⟨x, rfl, rfl, rfl, wx⟩ := open_int Tryz.underlying3 (hval 0 3 v0 rfl rfl) h0
  obtain ⟨y, rfl, rfl, rfl, wy⟩ := open_int Tryz.underlying3 (hval 1 3 v1 rfl rfl) h1
  have bx : -9223372036854775808 ≤ x ∧ x ≤ 9223372036854775807 := bounds_i64 wx
  have by_ : -9223372036854775808 ≤ y ∧ y ≤ 9223372036854775807 := bounds_i64 wy
  simp only [List.append_nil] at hW'
  refine (fnPermut_walk x y W bx by_).mono fun e W' ⟨he, hb⟩ => ?_
  subst he
  refine ⟨_, rfl, _, _, _, [], [], [], hW', ?_, ?_, ?_, hb.frame _, fun h => by cases h⟩
  · exact trodAll_mk1 (shut_bool Tryz.underlying4 true)
  · exact trodAll_mk2 (shut_int Tryz.underlying3 wx) (shut_int Tryz.underlying3 wy)
  · exact rfl

theorem said : Rows.FnPermutSaid :=
  OpenClaim.holds_of_wide 9 Tryz.f9 rfl rfl rfl rfl rfl rfl rfl ⟨rfl, rfl, rfl, rfl, rfl⟩ rfl rfl rfl rfl rfl (by kernel_rfl) Tryz.func9 closed
    (of_decide_eq_true (by kernel_rfl)) (by unfold Func.isWrapper; first | (rw [if_pos (by decide +kernel)]; kernel_rfl) | (rw [if_neg (by decide +kernel)]; exact ⟨rfl, rfl⟩))
    (fun os started H enc _ => lifted os started H enc)

theorem plain (f : FuncId) (fn : Func) (hf : Tryz.pinned.checked.prog.funcNamed "pub-gridwork/laws.FnPermut" = some f) (hfn : Tryz.pinned.checked.prog.funcs[f]? = some fn) :
    true = Tryz.pinned.checked.prog.looks [] ∧ ∀ (j : Nat) t, fn.params[j]? = some t → Tryz.pinned.checked.prog.wantsStandIn t = false := by
  obtain rfl : f = 9 := Option.some.inj ((show Tryz.prog.funcNamed "pub-gridwork/laws.FnPermut" = some 9 by kernel_rfl).symm.trans hf) |>.symm
  obtain rfl : fn = Tryz.f9 := (Option.some.inj (Tryz.func9.symm.trans hfn)).symm
  refine ⟨by kernel_rfl, fun j t ht => ?_⟩
  rw [Tryz.params9] at ht
  obtain rfl : t = 3 := by
    have := Array.mem_of_getElem? ht
    simpa using this
  exact (show Tryz.prog.wantsStandIn 3 = false by kernel_rfl)

theorem holds : Rows.FnPermutCardSaid :=
  Claim7.holds_tied_plain_at .later [] _ _ _ _ said (fun _ h => by cases h) (by kernel_rfl) (fun _ h => by cases h) fnPermut_row_tie rfl ⟨rfl, rfl⟩ (by kernel_rfl) rfl plain (by kernel_rfl)
end Go.Proofs.YtojicbajcebjjaaGreatDoor.FnPermut
namespace Go.Proofs.YtojicbajcebjjaaGreatDoor
/-- The statement. -/
theorem fnPermut_holds : Rows.FnPermutCardSaid := FnPermut.holds
#print axioms fnPermut_holds
end Go.Proofs.YtojicbajcebjjaaGreatDoor
