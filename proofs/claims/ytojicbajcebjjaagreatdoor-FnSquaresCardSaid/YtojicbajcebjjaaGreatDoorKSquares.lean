/-
  laws.FnSquares: for every list of numbers the call returns true, and the arguments read as they did. The card: the row with its listed variables tied to the program's text.
  Conditions: none beyond the given row's own (its listed package-level variables, tied by the given Tie).
-/
import Derived.Test.YtojicbajcebjjaaGreatDoorCards
import Derived.Test.YtojicbajcebjjaaGreatDoorTie
import Derived.Test.YtojicbajcebjjaaGreatDoorSn
import Derived.ProofKit
import Derived.OpenShut
import Derived.LaidMore
import Derived.Lay
import Derived.SevenTiedAt
import Derived.Carry
import Derived.ChangeSlices
import Derived.Stop.Joined
namespace Go.Proofs.YtojicbajcebjjaaGreatDoor.FnSquares
open Go.ChangeShapes Go.WideShapes Go.ChangeAt Go.RowKit

-- the row's closed facts, one by one
theorem and_tt {a b : Bool} (h : a = true) (k : b = true) : (a && b) = true := by rw [h, k]; rfl
theorem k0 : (Rows.fnSquaresRow.wf (OpenSpec.ofChange Rows.fnSquaresSpec) : Bool) = true := by kernel_rfl
theorem k1 : (laidOutB Tryz.prog : Bool) = true := by kernel_rfl
theorem k2 : (mapsRowed Tryz.prog : Bool) = true := by kernel_rfl
theorem k3 : (Tryz.f3.params.all (Tryz.prog.readableRec ·) : Bool) = true := by kernel_rfl
theorem k4 : (namedTie Tryz.prog Rows.fnSquaresRow.named Rows.fnSquaresSpec.vars : Bool) = true := by kernel_rfl
theorem k5 : ((Rows.fnSquaresRow.stops == []) : Bool) = true := by kernel_rfl
theorem k6 : ((Tryz.prog.stops == []) : Bool) = true := by kernel_rfl
theorem k7 : ((Rows.fnSquaresRow.knobs == []) : Bool) = true := by kernel_rfl
theorem k8 : ((Tryz.prog.stopKnobs == []) : Bool) = true := by kernel_rfl
theorem k9 : ((Rows.fnSquaresRow.inPlace == Tryz.prog.inPlace 3) : Bool) = true := by kernel_rfl
theorem k10 : ((Rows.fnSquaresRow.unfollowed == Tryz.prog.unfollowed 3) : Bool) = true := by kernel_rfl
theorem k11 : ((Rows.fnSquaresRow.recurses == Tryz.prog.recurses 3) : Bool) = true := by kernel_rfl
theorem k12 : ((Rows.fnSquaresRow.named == Tryz.prog.varsNamed 3) : Bool) = true := by kernel_rfl
theorem k13 : ((Rows.fnSquaresRow.maps == (Tryz.f3.params.toList ++ Rows.fnSquaresSpec.plain.varTypes Tryz.prog).any (Tryz.prog.mapsRec ·)) : Bool) = true := by kernel_rfl
theorem k14 : ((Rows.fnSquaresRow.ifaces == (Tryz.f3.params.toList ++ Rows.fnSquaresSpec.plain.varTypes Tryz.prog).any (Tryz.prog.ifacesRec ·)) : Bool) = true := by kernel_rfl
theorem k15 : ((Rows.fnSquaresRow.mapsOut == Tryz.prog.mapsAmong Tryz.f3.resultTypes.toList) : Bool) = true := by kernel_rfl
theorem k16 : ((Rows.fnSquaresRow.loops == (Tryz.f3.params.toList ++ Rows.fnSquaresSpec.plain.varTypes Tryz.prog).any (Tryz.prog.loopsFrom ·)) : Bool) = true := by kernel_rfl
theorem k17 : ((Rows.fnSquaresRow.wideKeys == (Tryz.f3.params.toList ++ Rows.fnSquaresSpec.plain.varTypes Tryz.prog ++ Tryz.f3.resultTypes.toList).any (Tryz.prog.wideKeysFrom ·)) : Bool) = true := by kernel_rfl
theorem k18 : (Rows.fnSquaresSpec.vars.all (Tryz.prog.varReadable ·) : Bool) = true := by kernel_rfl
theorem k19 : (Tryz.f3.resultTypes.all (fun t => Tryz.prog.readableRec t && decide (t < Tryz.prog.types.size)) : Bool) = true := by kernel_rfl
theorem k20 : ((Rows.fnSquaresRow.ifacesOut == Tryz.f3.resultTypes.toList.any (Tryz.prog.ifacesRec ·)) : Bool) = true := by kernel_rfl
theorem k21 : ((Rows.fnSquaresRow.loopsOut == Tryz.f3.resultTypes.toList.any (Tryz.prog.loopsFrom ·)) : Bool) = true := by kernel_rfl
theorem k22 : ((Rows.fnSquaresRow.plainKeys == Tryz.prog.plainKeys) : Bool) = true := by kernel_rfl
theorem k23 : (Rows.fnSquaresRow.shortTexts.isNone : Bool) = true := by kernel_rfl
theorem k24 : (Tryz.prog.stopsHeard : Bool) = true := by kernel_rfl
theorem k25 : (Tryz.prog.mayEnter : Bool) = true := by kernel_rfl
theorem k26 : ((Rows.fnSquaresRow.lifted == Tryz.prog.liftsFinal) : Bool) = true := by kernel_rfl
theorem k27 : ((Tryz.prog.make == some Rows.fnSquaresRow.make) : Bool) = true := by kernel_rfl
theorem k28 : ((Rows.fnSquaresRow.kinds == (if Rows.fnSquaresRow.domain.isEmpty then [] else Tryz.f3.params.toList.map fun t => match Tryz.prog.underlying t with | some (.int k) => some k | _ => none)) : Bool) = true := by kernel_rfl
theorem k29 : ((Rows.fnSquaresRow.pinned == Rows.fnSquaresRow.pinnedBy) : Bool) = true := by kernel_rfl
theorem k30 : ((Rows.fnSquaresRow.veiled == (Tryz.f3.params.toList ++ Rows.fnSquaresSpec.plain.varTypes Tryz.prog ++ Tryz.f3.resultTypes.toList).any (Tryz.prog.veiledRec ·)) : Bool) = true := by kernel_rfl
theorem k31 : (Rows.fnSquaresRow.veiledFits Tryz.prog Tryz.f3.params.toList (Tryz.f3.params.toList ++ Rows.fnSquaresSpec.plain.varTypes Tryz.prog ++ Tryz.f3.resultTypes.toList) : Bool) = true := by kernel_rfl
set_option maxRecDepth 100000 in
theorem closed : joinedFacts Tryz.prog 3 Tryz.f3 Rows.fnSquaresSpec Rows.fnSquaresRow = true := by
  unfold joinedFacts
  exact (and_tt (and_tt (and_tt (and_tt (and_tt (and_tt (and_tt (and_tt (and_tt (and_tt (and_tt (and_tt (and_tt (and_tt (and_tt (and_tt (and_tt (and_tt (and_tt (and_tt (and_tt (and_tt (and_tt (and_tt (and_tt (and_tt (and_tt (and_tt (and_tt (and_tt (and_tt k0 k1) k2) k3) k4) k5) k6) k7) k8) k9) k10) k11) k12) k13) k14) k15) k16) k17) k18) k19) k20) k21) k22) k23) k24) k25) k26) k27) k28) k29) k30) k31)

theorem own : ownKnob Tryz.prog.godebug = none := by kernel_rfl

set_option maxRecDepth 100000 in
theorem lifted (os : Os) (started : os.Started) (H : Type) (enc : TypeId × Value → H) :
    ReturnsInHanded {} Tryz.checked os 3 .any (fun w args => (Rows.fnSquaresSpec.pre enc Tryz.prog Tryz.f3 Rows.fnSquaresRow.domain false w args ∧ laidMetH Tryz.prog Rows.fnSquaresRow.laid w) ∧ sizedMet enc Tryz.prog Tryz.f3 (OpenSpec.ofChange Rows.fnSquaresSpec) false w args)
      (Rows.fnSquaresSpec.post enc Tryz.prog Tryz.f3 false true false false) := by
  refine returnsInHanded_of_change_and (C := Tryz.checked) (X := fun w _ => laidMetH Tryz.prog Rows.fnSquaresRow.laid w) (fun _ _ _ hh h => h.of_heap hh) own started (by kernel_rfl) Tryz.func3
    (ChangeSpec.witness_shaped (enc := enc) (C := Tryz.checked) (os := os) (X := fun w _ => laidMetH Tryz.prog Rows.fnSquaresRow.laid w) false (World.laidAll Tryz.prog os Rows.fnSquaresRow.laid) #[.slice none 0 0, .slice none 0 0] 8 (World.laidAll_os _ _ _)
      (World.shaped_of_ZipB (by kernel_rfl) (by kernel_rfl)) (by kernel_rfl) (by kernel_rfl) (by kernel_rfl)
      (by rw [MakeChecks.laidMetH_plain _ _ _ (by kernel_rfl)]; exact laidMet_laidAll _ (by kernel_rfl) (by kernel_rfl))) ?_
  intro W base args ds gs before hval0 hW hc _ _hL _
  have hval : ∀ (j : Nat) t v, Tryz.f3.params[j]? = some t → args[j]? = some v → Value.okWide Tryz.prog W .any base t v := hval0
  have hW' := hW
  obtain ⟨p, q, hA0, hV, rfl, _, _⟩ := hW
  have hA : DataW.TrodAll enc Tryz.prog W 0 (fun _ => true) true Tryz.f3.params.toList args.toList ds p := hA0
  rw [Tryz.params3] at hA hval
  obtain ⟨v0, v1, d0, d1, p0, p1, rfl, rfl, rfl, h0, h1⟩ := trodAll_two hA
  obtain ⟨rfl, rfl⟩ := trodVars_none hV
  obtain ⟨a0, len0, cap0, rfl⟩ := okWide_slice Tryz.underlying22 (hval 0 22 v0 rfl rfl)
  obtain ⟨a1, len1, cap1, rfl⟩ := okWide_slice Tryz.underlying22 (hval 1 22 v1 rfl rfl)
  clear hA0 hval0
  simp only [List.append_nil] at hW'
  have hlt : ∀ x ∈ p0 ++ p1, x.block < W.heap.size := fun x hx => by simpa using hW'.lt x hx
  have hargs0 : ∀ (W' : World), Below W.heap.size W W' → DataW.Trod enc Tryz.prog W' 0 (fun b => decide (b < W.heap.size)) true 22 (.slice a0 len0 cap0) d0 p0 :=
    fun W' hn => Below.trod k1 (by kernel_rfl) (of_decide_eq_true (by kernel_rfl)) h0 hn (fun x hx => hlt x (List.mem_append_left _ hx))
  have hargs1 : ∀ (W' : World), Below W.heap.size W W' → DataW.Trod enc Tryz.prog W' 0 (fun b => decide (b < W.heap.size)) true 22 (.slice a1 len1 cap1) d1 p1 :=
    fun W' hn => Below.trod k1 (by kernel_rfl) (of_decide_eq_true (by kernel_rfl)) h1 hn (fun x hx => hlt x (List.mem_append_right _ hx))
  have sl : ∀ (a : Option Addr) (len cap : Nat) (d : DataW H) (p : List MemPlace), DataW.Trod enc Tryz.prog W 0 (fun _ => true) true 22 (.slice a len cap) d p → ∃ l : List Int, l.length = len ∧ Rd W W.heap.size a (cellI l) ∧ (len : Int) ≤ 9223372036854775807 := by
    intro a0 len cap d p hd
    obtain ⟨fuel, hf⟩ := hd
    rcases open_ints Tryz.underlying22 Tryz.underlying3 (by kernel_rfl) hf with ⟨hcs, hx⟩ | ⟨a, len', cap', zs, hcs, _, hl, hm, hz, hx, hcell, hwz⟩
    · simp [Value.cells] at hcs
      obtain ⟨rfl, rfl, rfl⟩ := hcs
      exact ⟨[], rfl, .inl rfl, by decide⟩
    · simp [Value.cells] at hcs
      obtain ⟨rfl, rfl, rfl⟩ := hcs
      simp only [if_true] at hz
      have hmax : (len : Int) ≤ 9223372036854775807 := by unfold maxLen at hm; omega
      refine ⟨zs.take len, by rw [List.length_take]; omega, ?_, hmax⟩
      unfold cellI
      rcases Nat.eq_zero_or_pos len with h0 | h0
      · left; subst h0; simp
      · obtain ⟨b, off, spot⟩ := a
        have hspot : spot = none := by simpa [Addr.add] using World.cell?_spot (hcell 0 (by omega))
        subst hspot
        have hb : b < W.heap.size := by
          have h := hcell 0 (by omega)
          rw [add_plain] at h
          rcases Nat.lt_or_ge b W.heap.size with hb | hb
          · exact hb
          · simp [World.cell?, Array.getElem?_eq_none hb] at h
        refine .inr ⟨b, off, rfl, hb, fun j u hu => ?_⟩
        have hj : j < len ∧ zs.getD j 0 = zs.getD j 0 := by
          have := (List.getElem?_eq_some_iff.1 hu).1
          simp at this
          exact ⟨by omega, rfl⟩
        have h := hcell j (by omega)
        rw [add_plain] at h
        rw [h]
        rw [List.getElem?_map, List.getElem?_take, if_pos hj.1] at hu
        rw [List.getD_eq_getElem?_getD]
        cases hq : zs[j]? with
        | none => rw [hq] at hu; simp at hu
        | some z => rw [hq] at hu; simpa using hu
  obtain ⟨l0, e0, r0, m0⟩ := sl _ _ _ _ _ h0
  obtain ⟨l1, e1, r1, m1⟩ := sl _ _ _ _ _ h1
  refine (fnSquares_walk W.heap.size a0 a1 len0 len1 cap0 cap1 l0 l1 W e0 e1 r0 r1 (Nat.le_refl _) m0 m1).mono fun e W' ⟨he, hb⟩ => ?_
  subst he
  refine ⟨_, rfl, _, _, _, [], _, [], hW', ?_, trodAll_mk2 (hargs0 _ hb) (hargs1 _ hb), ?_, hb.frame _, fun h => by cases h⟩
  · exact trodAll_mk1 (shut_bool Tryz.underlying4 true)
  · exact rfl

theorem said : Rows.FnSquaresSaid :=
  OpenClaim.holds_of_wide 3 Tryz.f3 rfl rfl rfl rfl rfl rfl rfl ⟨rfl, rfl, rfl, rfl, rfl⟩ rfl rfl rfl rfl rfl (by kernel_rfl) Tryz.func3 closed
    (of_decide_eq_true (by kernel_rfl)) (by unfold Func.isWrapper; first | (rw [if_pos (by decide +kernel)]; kernel_rfl) | (rw [if_neg (by decide +kernel)]; exact ⟨rfl, rfl⟩))
    (fun os started H enc _ => lifted os started H enc)

theorem plain (f : FuncId) (fn : Func) (hf : Tryz.pinned.checked.prog.funcNamed "pub-gridwork/laws.FnSquares" = some f) (hfn : Tryz.pinned.checked.prog.funcs[f]? = some fn) :
    true = Tryz.pinned.checked.prog.looks [] ∧ ∀ (j : Nat) t, fn.params[j]? = some t → Tryz.pinned.checked.prog.wantsStandIn t = false := by
  obtain rfl : f = 3 := Option.some.inj ((show Tryz.prog.funcNamed "pub-gridwork/laws.FnSquares" = some 3 by kernel_rfl).symm.trans hf) |>.symm
  obtain rfl : fn = Tryz.f3 := (Option.some.inj (Tryz.func3.symm.trans hfn)).symm
  refine ⟨by kernel_rfl, fun j t ht => ?_⟩
  rw [Tryz.params3] at ht
  obtain rfl : t = 22 := by
    have := Array.mem_of_getElem? ht
    simpa using this
  exact (show Tryz.prog.wantsStandIn 22 = false by kernel_rfl)

theorem holds : Rows.FnSquaresCardSaid :=
  Claim7.holds_tied_plain_at .later [] _ _ _ _ said (fun _ h => by cases h) (by kernel_rfl) (fun _ h => by cases h) fnSquares_row_tie rfl ⟨rfl, rfl⟩ (by kernel_rfl) rfl plain (by kernel_rfl)
end Go.Proofs.YtojicbajcebjjaaGreatDoor.FnSquares
namespace Go.Proofs.YtojicbajcebjjaaGreatDoor
/-- The statement. -/
theorem fnSquares_holds : Rows.FnSquaresCardSaid := FnSquares.holds
#print axioms fnSquares_holds
end Go.Proofs.YtojicbajcebjjaaGreatDoor
