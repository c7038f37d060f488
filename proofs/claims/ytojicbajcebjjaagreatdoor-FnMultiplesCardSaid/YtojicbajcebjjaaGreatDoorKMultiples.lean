/-
  laws.FnMultiples: for every two numbers the call returns true, and the arguments read as they did. The card: the row with its listed variables tied to the program's text.
  Conditions: none beyond the given row's own (its listed package-level variables, tied by the given Tie).
-/
import Derived.Test.YtojicbajcebjjaaGreatDoorCards
import Derived.Test.YtojicbajcebjjaaGreatDoorTie
import Derived.Test.YtojicbajcebjjaaGreatDoorMs
import Derived.ProofKit
import Derived.OpenShut
import Derived.LaidMore
import Derived.Lay
import Derived.SevenTiedAt
import Derived.Stop.Joined
namespace Go.Proofs.YtojicbajcebjjaaGreatDoor.FnMultiples
open Go.ChangeShapes Go.WideShapes Go.ChangeAt Go.RowKit

-- the row's closed facts, one by one
theorem and_tt {a b : Bool} (h : a = true) (k : b = true) : (a && b) = true := by rw [h, k]; rfl
theorem k0 : (Rows.fnMultiplesRow.wf (OpenSpec.ofChange Rows.fnMultiplesSpec) : Bool) = true := by kernel_rfl
theorem k1 : (laidOutB Tryz.prog : Bool) = true := by kernel_rfl
theorem k2 : (mapsRowed Tryz.prog : Bool) = true := by kernel_rfl
theorem k3 : (Tryz.f8.params.all (Tryz.prog.readableRec ·) : Bool) = true := by kernel_rfl
theorem k4 : (namedTie Tryz.prog Rows.fnMultiplesRow.named Rows.fnMultiplesSpec.vars : Bool) = true := by kernel_rfl
theorem k5 : ((Rows.fnMultiplesRow.stops == []) : Bool) = true := by kernel_rfl
theorem k6 : ((Tryz.prog.stops == []) : Bool) = true := by kernel_rfl
theorem k7 : ((Rows.fnMultiplesRow.knobs == []) : Bool) = true := by kernel_rfl
theorem k8 : ((Tryz.prog.stopKnobs == []) : Bool) = true := by kernel_rfl
theorem k9 : ((Rows.fnMultiplesRow.inPlace == Tryz.prog.inPlace 8) : Bool) = true := by kernel_rfl
theorem k10 : ((Rows.fnMultiplesRow.unfollowed == Tryz.prog.unfollowed 8) : Bool) = true := by kernel_rfl
theorem k11 : ((Rows.fnMultiplesRow.recurses == Tryz.prog.recurses 8) : Bool) = true := by kernel_rfl
theorem k12 : ((Rows.fnMultiplesRow.named == Tryz.prog.varsNamed 8) : Bool) = true := by kernel_rfl
theorem k13 : ((Rows.fnMultiplesRow.maps == (Tryz.f8.params.toList ++ Rows.fnMultiplesSpec.plain.varTypes Tryz.prog).any (Tryz.prog.mapsRec ·)) : Bool) = true := by kernel_rfl
theorem k14 : ((Rows.fnMultiplesRow.ifaces == (Tryz.f8.params.toList ++ Rows.fnMultiplesSpec.plain.varTypes Tryz.prog).any (Tryz.prog.ifacesRec ·)) : Bool) = true := by kernel_rfl
theorem k15 : ((Rows.fnMultiplesRow.mapsOut == Tryz.prog.mapsAmong Tryz.f8.resultTypes.toList) : Bool) = true := by kernel_rfl
theorem k16 : ((Rows.fnMultiplesRow.loops == (Tryz.f8.params.toList ++ Rows.fnMultiplesSpec.plain.varTypes Tryz.prog).any (Tryz.prog.loopsFrom ·)) : Bool) = true := by kernel_rfl
theorem k17 : ((Rows.fnMultiplesRow.wideKeys == (Tryz.f8.params.toList ++ Rows.fnMultiplesSpec.plain.varTypes Tryz.prog ++ Tryz.f8.resultTypes.toList).any (Tryz.prog.wideKeysFrom ·)) : Bool) = true := by kernel_rfl
theorem k18 : (Rows.fnMultiplesSpec.vars.all (Tryz.prog.varReadable ·) : Bool) = true := by kernel_rfl
theorem k19 : (Tryz.f8.resultTypes.all (fun t => Tryz.prog.readableRec t && decide (t < Tryz.prog.types.size)) : Bool) = true := by kernel_rfl
theorem k20 : ((Rows.fnMultiplesRow.ifacesOut == Tryz.f8.resultTypes.toList.any (Tryz.prog.ifacesRec ·)) : Bool) = true := by kernel_rfl
theorem k21 : ((Rows.fnMultiplesRow.loopsOut == Tryz.f8.resultTypes.toList.any (Tryz.prog.loopsFrom ·)) : Bool) = true := by kernel_rfl
theorem k22 : ((Rows.fnMultiplesRow.plainKeys == Tryz.prog.plainKeys) : Bool) = true := by kernel_rfl
theorem k23 : (Rows.fnMultiplesRow.shortTexts.isNone : Bool) = true := by kernel_rfl
theorem k24 : (Tryz.prog.stopsHeard : Bool) = true := by kernel_rfl
theorem k25 : (Tryz.prog.mayEnter : Bool) = true := by kernel_rfl
theorem k26 : ((Rows.fnMultiplesRow.lifted == Tryz.prog.liftsFinal) : Bool) = true := by kernel_rfl
theorem k27 : ((Tryz.prog.make == some Rows.fnMultiplesRow.make) : Bool) = true := by kernel_rfl
theorem k28 : ((Rows.fnMultiplesRow.kinds == (if Rows.fnMultiplesRow.domain.isEmpty then [] else Tryz.f8.params.toList.map fun t => match Tryz.prog.underlying t with | some (.int k) => some k | _ => none)) : Bool) = true := by kernel_rfl
theorem k29 : ((Rows.fnMultiplesRow.pinned == Rows.fnMultiplesRow.pinnedBy) : Bool) = true := by kernel_rfl
theorem k30 : ((Rows.fnMultiplesRow.veiled == (Tryz.f8.params.toList ++ Rows.fnMultiplesSpec.plain.varTypes Tryz.prog ++ Tryz.f8.resultTypes.toList).any (Tryz.prog.veiledRec ·)) : Bool) = true := by kernel_rfl
theorem k31 : (Rows.fnMultiplesRow.veiledFits Tryz.prog Tryz.f8.params.toList (Tryz.f8.params.toList ++ Rows.fnMultiplesSpec.plain.varTypes Tryz.prog ++ Tryz.f8.resultTypes.toList) : Bool) = true := by kernel_rfl
set_option maxRecDepth 100000 in
theorem closed : joinedFacts Tryz.prog 8 Tryz.f8 Rows.fnMultiplesSpec Rows.fnMultiplesRow = true := by
  unfold joinedFacts
  exact (and_tt (and_tt (and_tt (and_tt (and_tt (and_tt (and_tt (and_tt (and_tt (and_tt (and_tt (and_tt (and_tt (and_tt (and_tt (and_tt (and_tt (and_tt (and_tt (and_tt (and_tt (and_tt (and_tt (and_tt (and_tt (and_tt (and_tt (and_tt (and_tt (and_tt (and_tt k0 k1) k2) k3) k4) k5) k6) k7) k8) k9) k10) k11) k12) k13) k14) k15) k16) k17) k18) k19) k20) k21) k22) k23) k24) k25) k26) k27) k28) k29) k30) k31)

theorem own : ownKnob Tryz.prog.godebug = none := by kernel_rfl

set_option maxRecDepth 100000 in
theorem lifted (os : Os) (started : os.Started) (H : Type) (enc : TypeId × Value → H) :
    ReturnsInHanded {} Tryz.checked os 8 .any (fun w args => (Rows.fnMultiplesSpec.pre enc Tryz.prog Tryz.f8 Rows.fnMultiplesRow.domain false w args ∧ laidMetH Tryz.prog Rows.fnMultiplesRow.laid w) ∧ sizedMet enc Tryz.prog Tryz.f8 (OpenSpec.ofChange Rows.fnMultiplesSpec) false w args)
      (Rows.fnMultiplesSpec.post enc Tryz.prog Tryz.f8 false true false false) := by
  refine returnsInHanded_of_change_and (C := Tryz.checked) (X := fun w _ => laidMetH Tryz.prog Rows.fnMultiplesRow.laid w) (fun _ _ _ hh h => h.of_heap hh) own started (by kernel_rfl) Tryz.func8
    (ChangeSpec.witness_shaped (enc := enc) (C := Tryz.checked) (os := os) (X := fun w _ => laidMetH Tryz.prog Rows.fnMultiplesRow.laid w) false (World.laidAll Tryz.prog os Rows.fnMultiplesRow.laid) #[.int .i64 0, .int .i64 0] 8 (World.laidAll_os _ _ _)
      (World.shaped_of_ZipB (by kernel_rfl) (by kernel_rfl)) (by kernel_rfl) (by kernel_rfl) (by kernel_rfl)
      (by rw [MakeChecks.laidMetH_plain _ _ _ (by kernel_rfl)]; exact laidMet_laidAll _ (by kernel_rfl) (by kernel_rfl))) ?_
  intro W base args ds gs before hval0 hW hc _ _hL _
  have hval : ∀ (j : Nat) t v, Tryz.f8.params[j]? = some t → args[j]? = some v → Value.okWide Tryz.prog W .any base t v := hval0
  have hW' := hW
  obtain ⟨p, q, hA0, hV, rfl, _, _⟩ := hW
  have hA : DataW.TrodAll enc Tryz.prog W 0 (fun _ => true) true Tryz.f8.params.toList args.toList ds p := hA0
  rw [Tryz.params8] at hA hval
  obtain ⟨v0, v1, d0, d1, p0, p1, rfl, rfl, rfl, h0, h1⟩ := trodAll_two hA
  obtain ⟨rfl, rfl⟩ := trodVars_none hV
  obtain ⟨x, rfl, rfl, rfl, wx⟩ := open_int Tryz.underlying3 (hval 0 3 v0 rfl rfl) h0
  obtain ⟨y, rfl, rfl, rfl, wy⟩ := open_int Tryz.underlying3 (hval 1 3 v1 rfl rfl) h1
  have bx : -9223372036854775808 ≤ x ∧ x ≤ 9223372036854775807 := bounds_i64 wx
  have by_ : -9223372036854775808 ≤ y ∧ y ≤ 9223372036854775807 := bounds_i64 wy
  simp only [List.append_nil] at hW'
  refine (fnMultiples_walk x y W bx by_).mono fun e W' ⟨he, hb⟩ => ?_
  subst he
  refine ⟨_, rfl, _, _, _, [], [], [], hW', ?_, ?_, ?_, hb.frame _, fun h => by cases h⟩
  · exact trodAll_mk1 (shut_bool Tryz.underlying4 true)
  · exact trodAll_mk2 (shut_int Tryz.underlying3 wx) (shut_int Tryz.underlying3 wy)
  · exact rfl

theorem said : Rows.FnMultiplesSaid :=
  OpenClaim.holds_of_wide 8 Tryz.f8 rfl rfl rfl rfl rfl rfl rfl ⟨rfl, rfl, rfl, rfl, rfl⟩ rfl rfl rfl rfl rfl (by kernel_rfl) Tryz.func8 closed
    (of_decide_eq_true (by kernel_rfl)) (by unfold Func.isWrapper; first | (rw [if_pos (by decide +kernel)]; kernel_rfl) | (rw [if_neg (by decide +kernel)]; exact ⟨rfl, rfl⟩))
    (fun os started H enc _ => lifted os started H enc)

theorem plain (f : FuncId) (fn : Func) (hf : Tryz.pinned.checked.prog.funcNamed "pub-gridwork/laws.FnMultiples" = some f) (hfn : Tryz.pinned.checked.prog.funcs[f]? = some fn) :
    true = Tryz.pinned.checked.prog.looks [] ∧ ∀ (j : Nat) t, fn.params[j]? = some t → Tryz.pinned.checked.prog.wantsStandIn t = false := by
  obtain rfl : f = 8 := Option.some.inj ((show Tryz.prog.funcNamed "pub-gridwork/laws.FnMultiples" = some 8 by kernel_rfl).symm.trans hf) |>.symm
  obtain rfl : fn = Tryz.f8 := (Option.some.inj (Tryz.func8.symm.trans hfn)).symm
  refine ⟨by kernel_rfl, fun j t ht => ?_⟩
  rw [Tryz.params8] at ht
  obtain rfl : t = 3 := by
    have := Array.mem_of_getElem? ht
    simpa using this
  exact (show Tryz.prog.wantsStandIn 3 = false by kernel_rfl)

theorem holds : Rows.FnMultiplesCardSaid :=
  Claim7.holds_tied_plain_at .later [] _ _ _ _ said (fun _ h => by cases h) (by kernel_rfl) (fun _ h => by cases h) fnMultiples_row_tie rfl ⟨rfl, rfl⟩ (by kernel_rfl) rfl plain (by kernel_rfl)
end Go.Proofs.YtojicbajcebjjaaGreatDoor.FnMultiples
namespace Go.Proofs.YtojicbajcebjjaaGreatDoor
/-- The statement. -/
theorem fnMultiples_holds : Rows.FnMultiplesCardSaid := FnMultiples.holds
#print axioms fnMultiples_holds
end Go.Proofs.YtojicbajcebjjaaGreatDoor
