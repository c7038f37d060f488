/-
  laws.FnRoman: for every number the call returns true, and the argument reads as it did. The card: the row with its listed variables tied to the program's text.
  Conditions: none beyond the given row's own (its listed package-level variables, tied by the given Tie).
-/
import Derived.Test.YtojicbajcebjjaaGreatDoorCards
import Derived.Test.YtojicbajcebjjaaGreatDoorTie
import Derived.Test.YtojicbajcebjjaaGreatDoorRy
import Derived.ProofKit
import Derived.OpenShut
import Derived.LaidMore
import Derived.Lay
import Derived.SevenTiedAt
import Derived.Stop.Joined
namespace Go.Proofs.YtojicbajcebjjaaGreatDoor.FnRoman
open Go.ChangeShapes Go.WideShapes Go.ChangeAt Go.RowKit

-- the row's closed facts, one by one
theorem and_tt {a b : Bool} (h : a = true) (k : b = true) : (a && b) = true := by rw [h, k]; rfl
theorem k0 : (Rows.fnRomanRow.wf (OpenSpec.ofChange Rows.fnRomanSpec) : Bool) = true := by kernel_rfl
theorem k1 : (laidOutB Tryz.prog : Bool) = true := by kernel_rfl
theorem k2 : (mapsRowed Tryz.prog : Bool) = true := by kernel_rfl
theorem k3 : (Tryz.f7.params.all (Tryz.prog.readableRec ·) : Bool) = true := by kernel_rfl
theorem k4 : (namedTie Tryz.prog Rows.fnRomanRow.named Rows.fnRomanSpec.vars : Bool) = true := by kernel_rfl
theorem k5 : ((Rows.fnRomanRow.stops == []) : Bool) = true := by kernel_rfl
theorem k6 : ((Tryz.prog.stops == []) : Bool) = true := by kernel_rfl
theorem k7 : ((Rows.fnRomanRow.knobs == []) : Bool) = true := by kernel_rfl
theorem k8 : ((Tryz.prog.stopKnobs == []) : Bool) = true := by kernel_rfl
theorem k9 : ((Rows.fnRomanRow.inPlace == Tryz.prog.inPlace 7) : Bool) = true := by kernel_rfl
theorem k10 : ((Rows.fnRomanRow.unfollowed == Tryz.prog.unfollowed 7) : Bool) = true := by kernel_rfl
theorem k11 : ((Rows.fnRomanRow.recurses == Tryz.prog.recurses 7) : Bool) = true := by kernel_rfl
theorem k12 : ((Rows.fnRomanRow.named == Tryz.prog.varsNamed 7) : Bool) = true := by kernel_rfl
theorem k13 : ((Rows.fnRomanRow.maps == (Tryz.f7.params.toList ++ Rows.fnRomanSpec.plain.varTypes Tryz.prog).any (Tryz.prog.mapsRec ·)) : Bool) = true := by kernel_rfl
theorem k14 : ((Rows.fnRomanRow.ifaces == (Tryz.f7.params.toList ++ Rows.fnRomanSpec.plain.varTypes Tryz.prog).any (Tryz.prog.ifacesRec ·)) : Bool) = true := by kernel_rfl
theorem k15 : ((Rows.fnRomanRow.mapsOut == Tryz.prog.mapsAmong Tryz.f7.resultTypes.toList) : Bool) = true := by kernel_rfl
theorem k16 : ((Rows.fnRomanRow.loops == (Tryz.f7.params.toList ++ Rows.fnRomanSpec.plain.varTypes Tryz.prog).any (Tryz.prog.loopsFrom ·)) : Bool) = true := by kernel_rfl
theorem k17 : ((Rows.fnRomanRow.wideKeys == (Tryz.f7.params.toList ++ Rows.fnRomanSpec.plain.varTypes Tryz.prog ++ Tryz.f7.resultTypes.toList).any (Tryz.prog.wideKeysFrom ·)) : Bool) = true := by kernel_rfl
theorem k18 : (Rows.fnRomanSpec.vars.all (Tryz.prog.varReadable ·) : Bool) = true := by kernel_rfl
theorem k19 : (Tryz.f7.resultTypes.all (fun t => Tryz.prog.readableRec t && decide (t < Tryz.prog.types.size)) : Bool) = true := by kernel_rfl
theorem k20 : ((Rows.fnRomanRow.ifacesOut == Tryz.f7.resultTypes.toList.any (Tryz.prog.ifacesRec ·)) : Bool) = true := by kernel_rfl
theorem k21 : ((Rows.fnRomanRow.loopsOut == Tryz.f7.resultTypes.toList.any (Tryz.prog.loopsFrom ·)) : Bool) = true := by kernel_rfl
theorem k22 : ((Rows.fnRomanRow.plainKeys == Tryz.prog.plainKeys) : Bool) = true := by kernel_rfl
theorem k23 : (Rows.fnRomanRow.shortTexts.isNone : Bool) = true := by kernel_rfl
theorem k24 : (Tryz.prog.stopsHeard : Bool) = true := by kernel_rfl
theorem k25 : (Tryz.prog.mayEnter : Bool) = true := by kernel_rfl
theorem k26 : ((Rows.fnRomanRow.lifted == Tryz.prog.liftsFinal) : Bool) = true := by kernel_rfl
theorem k27 : ((Tryz.prog.make == some Rows.fnRomanRow.make) : Bool) = true := by kernel_rfl
theorem k28 : ((Rows.fnRomanRow.kinds == (if Rows.fnRomanRow.domain.isEmpty then [] else Tryz.f7.params.toList.map fun t => match Tryz.prog.underlying t with | some (.int k) => some k | _ => none)) : Bool) = true := by kernel_rfl
theorem k29 : ((Rows.fnRomanRow.pinned == Rows.fnRomanRow.pinnedBy) : Bool) = true := by kernel_rfl
theorem k30 : ((Rows.fnRomanRow.veiled == (Tryz.f7.params.toList ++ Rows.fnRomanSpec.plain.varTypes Tryz.prog ++ Tryz.f7.resultTypes.toList).any (Tryz.prog.veiledRec ·)) : Bool) = true := by kernel_rfl
theorem k31 : (Rows.fnRomanRow.veiledFits Tryz.prog Tryz.f7.params.toList (Tryz.f7.params.toList ++ Rows.fnRomanSpec.plain.varTypes Tryz.prog ++ Tryz.f7.resultTypes.toList) : Bool) = true := by kernel_rfl
set_option maxRecDepth 100000 in
theorem closed : joinedFacts Tryz.prog 7 Tryz.f7 Rows.fnRomanSpec Rows.fnRomanRow = true := by
  unfold joinedFacts
  exact (and_tt (and_tt (and_tt (and_tt (and_tt (and_tt (and_tt (and_tt (and_tt (and_tt (and_tt (and_tt (and_tt (and_tt (and_tt (and_tt (and_tt (and_tt (and_tt (and_tt (and_tt (and_tt (and_tt (and_tt (and_tt (and_tt (and_tt (and_tt (and_tt (and_tt (and_tt k0 k1) k2) k3) k4) k5) k6) k7) k8) k9) k10) k11) k12) k13) k14) k15) k16) k17) k18) k19) k20) k21) k22) k23) k24) k25) k26) k27) k28) k29) k30) k31)

theorem own : ownKnob Tryz.prog.godebug = none := by kernel_rfl

set_option maxRecDepth 100000 in
theorem lifted (os : Os) (started : os.Started) (H : Type) (enc : TypeId × Value → H) :
    ReturnsInHanded {} Tryz.checked os 7 .any (fun w args => (Rows.fnRomanSpec.pre enc Tryz.prog Tryz.f7 Rows.fnRomanRow.domain false w args ∧ laidMetH Tryz.prog Rows.fnRomanRow.laid w) ∧ sizedMet enc Tryz.prog Tryz.f7 (OpenSpec.ofChange Rows.fnRomanSpec) false w args)
      (Rows.fnRomanSpec.post enc Tryz.prog Tryz.f7 false true false false) := by
  refine returnsInHanded_of_change_and (C := Tryz.checked) (X := fun w _ => laidMetH Tryz.prog Rows.fnRomanRow.laid w) (fun _ _ _ hh h => h.of_heap hh) own started (by kernel_rfl) Tryz.func7
    (ChangeSpec.witness_shaped (enc := enc) (C := Tryz.checked) (os := os) (X := fun w _ => laidMetH Tryz.prog Rows.fnRomanRow.laid w) false (World.laidAll Tryz.prog os Rows.fnRomanRow.laid) #[.int .i64 0] 8 (World.laidAll_os _ _ _)
      (World.shaped_of_ZipB (by kernel_rfl) (by kernel_rfl)) (by kernel_rfl) (by kernel_rfl) (by kernel_rfl)
      (by rw [MakeChecks.laidMetH_plain _ _ _ (by kernel_rfl)]; exact laidMet_laidAll _ (by kernel_rfl) (by kernel_rfl))) ?_
  intro W base args ds gs before hval0 hW hc _ hL _
  have hT := rom_tab W (by rw [MakeChecks.laidMetH_plain _ _ _ (by kernel_rfl)] at hL; exact hL)
  have hval : ∀ (j : Nat) t v, Tryz.f7.params[j]? = some t → args[j]? = some v → Value.okWide Tryz.prog W .any base t v := hval0
  have hW' := hW
  obtain ⟨p, q, hA0, hV, rfl, _, _⟩ := hW
  have hA : DataW.TrodAll enc Tryz.prog W 0 (fun _ => true) true Tryz.f7.params.toList args.toList ds p := hA0
  rw [Tryz.params7] at hA hval
  obtain ⟨v0, d0, rfl, rfl, h0⟩ := trodAll_one hA
  obtain ⟨rfl, rfl⟩ := trodVars_none hV
  obtain ⟨x, rfl, rfl, rfl, wx⟩ := open_int Tryz.underlying3 (hval 0 3 v0 rfl rfl) h0
  simp only [List.append_nil] at hW'
  refine (fnRoman_walk x W hT).mono fun e W' ⟨he, hb⟩ => ?_
  subst he
  refine ⟨_, rfl, _, _, _, [], [], [], hW', ?_, ?_, ?_, hb.frame _, fun h => by cases h⟩
  · exact trodAll_mk1 (shut_bool Tryz.underlying4 true)
  · exact trodAll_mk1 (shut_int Tryz.underlying3 wx)
  · exact rfl

theorem said : Rows.FnRomanSaid :=
  OpenClaim.holds_of_wide 7 Tryz.f7 rfl rfl rfl rfl rfl rfl rfl ⟨rfl, rfl, rfl, rfl, rfl⟩ rfl rfl rfl rfl rfl (by kernel_rfl) Tryz.func7 closed
    (of_decide_eq_true (by kernel_rfl)) (by unfold Func.isWrapper; first | (rw [if_pos (by decide +kernel)]; kernel_rfl) | (rw [if_neg (by decide +kernel)]; exact ⟨rfl, rfl⟩))
    (fun os started H enc _ => lifted os started H enc)

theorem plain (f : FuncId) (fn : Func) (hf : Tryz.pinned.checked.prog.funcNamed "pub-gridwork/laws.FnRoman" = some f) (hfn : Tryz.pinned.checked.prog.funcs[f]? = some fn) :
    true = Tryz.pinned.checked.prog.looks [] ∧ ∀ (j : Nat) t, fn.params[j]? = some t → Tryz.pinned.checked.prog.wantsStandIn t = false := by
  obtain rfl : f = 7 := Option.some.inj ((show Tryz.prog.funcNamed "pub-gridwork/laws.FnRoman" = some 7 by kernel_rfl).symm.trans hf) |>.symm
  obtain rfl : fn = Tryz.f7 := (Option.some.inj (Tryz.func7.symm.trans hfn)).symm
  refine ⟨by kernel_rfl, fun j t ht => ?_⟩
  rw [Tryz.params7] at ht
  obtain rfl : t = 3 := by
    have := Array.mem_of_getElem? ht
    simpa using this
  exact (show Tryz.prog.wantsStandIn 3 = false by kernel_rfl)

theorem holds : Rows.FnRomanCardSaid :=
  Claim7.holds_tied_plain_at .later [] _ _ _ _ said (fun _ h => by cases h) (by kernel_rfl) (fun _ h => by cases h) fnRoman_row_tie rfl ⟨rfl, rfl⟩ (by kernel_rfl) rfl plain (by kernel_rfl)
end Go.Proofs.YtojicbajcebjjaaGreatDoor.FnRoman
namespace Go.Proofs.YtojicbajcebjjaaGreatDoor
/-- The statement. -/
theorem fnRoman_holds : Rows.FnRomanCardSaid := FnRoman.holds
#print axioms fnRoman_holds
end Go.Proofs.YtojicbajcebjjaaGreatDoor
