/-
  laws.FnRankEqual: for every list of numbers, number and truth the call returns true, and the arguments read as they did. The card: the row with its listed variables tied to the program's text.
  Conditions: none beyond the given row's own (its listed package-level variables, tied by the given Tie).
-/
import Derived.Test.YtojicbajcebjjaaGreatDoorCards
import Derived.Test.YtojicbajcebjjaaGreatDoorTie
import Derived.Test.YtojicbajcebjjaaGreatDoorYn
import Derived.ProofKit
import Derived.OpenShut
import Derived.LaidMore
import Derived.Lay
import Derived.SevenTiedAt
import Derived.Carry
import Derived.ChangeSlices
import Derived.Stop.Joined
namespace Go.Proofs.YtojicbajcebjjaaGreatDoor.FnRankEqual
open Go.ChangeShapes Go.WideShapes Go.ChangeAt Go.RowKit

-- the row's closed facts, one by one
theorem and_tt {a b : Bool} (h : a = true) (k : b = true) : (a && b) = true := by rw [h, k]; rfl
theorem k0 : (Rows.fnRankEqualRow.wf (OpenSpec.ofChange Rows.fnRankEqualSpec) : Bool) = true := by kernel_rfl
theorem k1 : (laidOutB Tryz.prog : Bool) = true := by kernel_rfl
theorem k2 : (mapsRowed Tryz.prog : Bool) = true := by kernel_rfl
theorem k3 : (Tryz.f10.params.all (Tryz.prog.readableRec ·) : Bool) = true := by kernel_rfl
theorem k4 : (namedTie Tryz.prog Rows.fnRankEqualRow.named Rows.fnRankEqualSpec.vars : Bool) = true := by kernel_rfl
theorem k5 : ((Rows.fnRankEqualRow.stops == []) : Bool) = true := by kernel_rfl
theorem k6 : ((Tryz.prog.stops == []) : Bool) = true := by kernel_rfl
theorem k7 : ((Rows.fnRankEqualRow.knobs == []) : Bool) = true := by kernel_rfl
theorem k8 : ((Tryz.prog.stopKnobs == []) : Bool) = true := by kernel_rfl
theorem k9 : ((Rows.fnRankEqualRow.inPlace == Tryz.prog.inPlace 10) : Bool) = true := by kernel_rfl
theorem k10 : ((Rows.fnRankEqualRow.unfollowed == Tryz.prog.unfollowed 10) : Bool) = true := by kernel_rfl
theorem k11 : ((Rows.fnRankEqualRow.recurses == Tryz.prog.recurses 10) : Bool) = true := by kernel_rfl
theorem k12 : ((Rows.fnRankEqualRow.named == Tryz.prog.varsNamed 10) : Bool) = true := by kernel_rfl
theorem k13 : ((Rows.fnRankEqualRow.maps == (Tryz.f10.params.toList ++ Rows.fnRankEqualSpec.plain.varTypes Tryz.prog).any (Tryz.prog.mapsRec ·)) : Bool) = true := by kernel_rfl
theorem k14 : ((Rows.fnRankEqualRow.ifaces == (Tryz.f10.params.toList ++ Rows.fnRankEqualSpec.plain.varTypes Tryz.prog).any (Tryz.prog.ifacesRec ·)) : Bool) = true := by kernel_rfl
theorem k15 : ((Rows.fnRankEqualRow.mapsOut == Tryz.prog.mapsAmong Tryz.f10.resultTypes.toList) : Bool) = true := by kernel_rfl
theorem k16 : ((Rows.fnRankEqualRow.loops == (Tryz.f10.params.toList ++ Rows.fnRankEqualSpec.plain.varTypes Tryz.prog).any (Tryz.prog.loopsFrom ·)) : Bool) = true := by kernel_rfl
theorem k17 : ((Rows.fnRankEqualRow.wideKeys == (Tryz.f10.params.toList ++ Rows.fnRankEqualSpec.plain.varTypes Tryz.prog ++ Tryz.f10.resultTypes.toList).any (Tryz.prog.wideKeysFrom ·)) : Bool) = true := by kernel_rfl
theorem k18 : (Rows.fnRankEqualSpec.vars.all (Tryz.prog.varReadable ·) : Bool) = true := by kernel_rfl
theorem k19 : (Tryz.f10.resultTypes.all (fun t => Tryz.prog.readableRec t && decide (t < Tryz.prog.types.size)) : Bool) = true := by kernel_rfl
theorem k20 : ((Rows.fnRankEqualRow.ifacesOut == Tryz.f10.resultTypes.toList.any (Tryz.prog.ifacesRec ·)) : Bool) = true := by kernel_rfl
theorem k21 : ((Rows.fnRankEqualRow.loopsOut == Tryz.f10.resultTypes.toList.any (Tryz.prog.loopsFrom ·)) : Bool) = true := by kernel_rfl
theorem k22 : ((Rows.fnRankEqualRow.plainKeys == Tryz.prog.plainKeys) : Bool) = true := by kernel_rfl
theorem k23 : (Rows.fnRankEqualRow.shortTexts.isNone : Bool) = true := by kernel_rfl
theorem k24 : (Tryz.prog.stopsHeard : Bool) = true := by kernel_rfl
theorem k25 : (Tryz.prog.mayEnter : Bool) = true := by kernel_rfl
theorem k26 : ((Rows.fnRankEqualRow.lifted == Tryz.prog.liftsFinal) : Bool) = true := by kernel_rfl
theorem k27 : ((Tryz.prog.make == some Rows.fnRankEqualRow.make) : Bool) = true := by kernel_rfl
theorem k28 : ((Rows.fnRankEqualRow.kinds == (if Rows.fnRankEqualRow.domain.isEmpty then [] else Tryz.f10.params.toList.map fun t => match Tryz.prog.underlying t with | some (.int k) => some k | _ => none)) : Bool) = true := by kernel_rfl
theorem k29 : ((Rows.fnRankEqualRow.pinned == Rows.fnRankEqualRow.pinnedBy) : Bool) = true := by kernel_rfl
theorem k30 : ((Rows.fnRankEqualRow.veiled == (Tryz.f10.params.toList ++ Rows.fnRankEqualSpec.plain.varTypes Tryz.prog ++ Tryz.f10.resultTypes.toList).any (Tryz.prog.veiledRec ·)) : Bool) = true := by kernel_rfl
theorem k31 : (Rows.fnRankEqualRow.veiledFits Tryz.prog Tryz.f10.params.toList (Tryz.f10.params.toList ++ Rows.fnRankEqualSpec.plain.varTypes Tryz.prog ++ Tryz.f10.resultTypes.toList) : Bool) = true := by kernel_rfl
set_option maxRecDepth 100000 in
theorem closed : joinedFacts Tryz.prog 10 Tryz.f10 Rows.fnRankEqualSpec Rows.fnRankEqualRow = true := by
  unfold joinedFacts
  exact (and_tt (and_tt (and_tt (and_tt (and_tt (and_tt (and_tt (and_tt (and_tt (and_tt (and_tt (and_tt (and_tt (and_tt (and_tt (and_tt (and_tt (and_tt (and_tt (and_tt (and_tt (and_tt (and_tt (and_tt (and_tt (and_tt (and_tt (and_tt (and_tt (and_tt (and_tt k0 k1) k2) k3) k4) k5) k6) k7) k8) k9) k10) k11) k12) k13) k14) k15) k16) k17) k18) k19) k20) k21) k22) k23) k24) k25) k26) k27) k28) k29) k30) k31)

theorem own : ownKnob Tryz.prog.godebug = none := by kernel_rfl

set_option maxRecDepth 100000 in
theorem lifted (os : Os) (started : os.Started) (H : Type) (enc : TypeId × Value → H) :
    ReturnsInHanded {} Tryz.checked os 10 .any (fun w args => (Rows.fnRankEqualSpec.pre enc Tryz.prog Tryz.f10 Rows.fnRankEqualRow.domain false w args ∧ laidMetH Tryz.prog Rows.fnRankEqualRow.laid w) ∧ sizedMet enc Tryz.prog Tryz.f10 (OpenSpec.ofChange Rows.fnRankEqualSpec) false w args)
      (Rows.fnRankEqualSpec.post enc Tryz.prog Tryz.f10 false true false false) := by
  refine returnsInHanded_of_change_and (C := Tryz.checked) (X := fun w _ => laidMetH Tryz.prog Rows.fnRankEqualRow.laid w) (fun _ _ _ hh h => h.of_heap hh) own started (by kernel_rfl) Tryz.func10
    (ChangeSpec.witness_shaped (enc := enc) (C := Tryz.checked) (os := os) (X := fun w _ => laidMetH Tryz.prog Rows.fnRankEqualRow.laid w) false (World.laidAll Tryz.prog os Rows.fnRankEqualRow.laid) #[.slice none 0 0, .int .i64 0, .bool false] 8 (World.laidAll_os _ _ _)
      (World.shaped_of_ZipB (by kernel_rfl) (by kernel_rfl)) (by kernel_rfl) (by kernel_rfl) (by kernel_rfl)
      (by rw [MakeChecks.laidMetH_plain _ _ _ (by kernel_rfl)]; exact laidMet_laidAll _ (by kernel_rfl) (by kernel_rfl))) ?_
  intro W base args ds gs before hval0 hW hc _ _hL _
  have hval : ∀ (j : Nat) t v, Tryz.f10.params[j]? = some t → args[j]? = some v → Value.okWide Tryz.prog W .any base t v := hval0
  have hW' := hW
  obtain ⟨p, q, hA0, hV, rfl, _, _⟩ := hW
  have hA : DataW.TrodAll enc Tryz.prog W 0 (fun _ => true) true Tryz.f10.params.toList args.toList ds p := hA0
  rw [Tryz.params10] at hA hval
  obtain ⟨v0, v1, v2, d0, d1, d2, p0, p1, p2, rfl, rfl, rfl, h0, h1, h2⟩ := trodAll_three hA
  obtain ⟨rfl, rfl⟩ := trodVars_none hV
  obtain ⟨a0, len0, cap0, rfl⟩ := okWide_slice Tryz.underlying22 (hval 0 22 v0 rfl rfl)
  obtain ⟨x, rfl, rfl, rfl, wx⟩ := open_int Tryz.underlying3 (hval 1 3 v1 rfl rfl) h1
  obtain ⟨up, rfl, rfl, rfl⟩ := open_bool Tryz.underlying4 (hval 2 4 v2 rfl rfl) h2
  have bx : -9223372036854775808 ≤ x ∧ x ≤ 9223372036854775807 := bounds_i64 wx
  clear hA0 hval0
  simp only [List.append_nil] at hW'
  have hlt : ∀ x ∈ p0, x.block < W.heap.size := fun x hx => by simpa using hW'.lt x (by simpa using hx)
  have hargs0 : ∀ (W' : World), Below W.heap.size W W' → DataW.Trod enc Tryz.prog W' 0 (fun b => decide (b < W.heap.size)) true 22 (.slice a0 len0 cap0) d0 p0 :=
    fun W' hn => Below.trod k1 (by kernel_rfl) (of_decide_eq_true (by kernel_rfl)) h0 hn (fun x hx => hlt x hx)
  have sl : ∀ (a : Option Addr) (len cap : Nat) (d : DataW H) (p : List MemPlace), DataW.Trod enc Tryz.prog W 0 (fun _ => true) true 22 (.slice a len cap) d p → ∃ l : List Int, l.length = len ∧ Rd W W.heap.size a (cellI l) ∧ (len : Int) ≤ 9223372036854775807 := by
    intro a0 len cap d p hd
    obtain ⟨fuel, hf⟩ := hd
    rcases open_ints Tryz.underlying22 Tryz.underlying3 (by kernel_rfl) hf with ⟨hcs, hx⟩ | ⟨a, len', cap', zs, hcs, _, hl, hm, hz, hx, hcell, hwz⟩
    · simp [Value.cells] at hcs
      obtain ⟨rfl, rfl, rfl⟩ := hcs
      exact ⟨[], rfl, .inl rfl, by decide⟩
    · simp [Value.cells] at hcs
      obtain ⟨rfl, rfl, rfl⟩ := hcs
      simp only [if_true] at hz
      have hmax : (len : Int) ≤ 9223372036854775807 := by unfold maxLen at hm; omega
      refine ⟨zs.take len, by rw [List.length_take]; omega, ?_, hmax⟩
      unfold cellI
      rcases Nat.eq_zero_or_pos len with h0 | h0
      · left; subst h0; simp
      · obtain ⟨b, off, spot⟩ := a
        have hspot : spot = none := by simpa [Addr.add] using World.cell?_spot (hcell 0 (by omega))
        subst hspot
        have hb : b < W.heap.size := by
          have h := hcell 0 (by omega)
          rw [add_plain] at h
          rcases Nat.lt_or_ge b W.heap.size with hb | hb
          · exact hb
          · simp [World.cell?, Array.getElem?_eq_none hb] at h
        refine .inr ⟨b, off, rfl, hb, fun j u hu => ?_⟩
        have hj : j < len ∧ zs.getD j 0 = zs.getD j 0 := by
          have := (List.getElem?_eq_some_iff.1 hu).1
          simp at this
          exact ⟨by omega, rfl⟩
        have h := hcell j (by omega)
        rw [add_plain] at h
        rw [h]
        rw [List.getElem?_map, List.getElem?_take, if_pos hj.1] at hu
        rw [List.getD_eq_getElem?_getD]
        cases hq : zs[j]? with
        | none => rw [hq] at hu; simp at hu
        | some z => rw [hq] at hu; simpa using hu
  obtain ⟨l0, e0, r0, m0⟩ := sl _ _ _ _ _ h0
  refine (fnRankEqual_walk W.heap.size a0 len0 cap0 l0 x up W e0 r0 (Nat.le_refl _) m0 bx).mono fun e W' ⟨he, hb⟩ => ?_
  subst he
  refine ⟨_, rfl, _, _, _, [], _, [], hW', ?_, trodAll_mk3 (hargs0 _ hb) (shut_int Tryz.underlying3 wx) (shut_bool Tryz.underlying4 up), ?_, hb.frame _, fun h => by cases h⟩
  · exact trodAll_mk1 (shut_bool Tryz.underlying4 true)
  · exact rfl

theorem said : Rows.FnRankEqualSaid :=
  OpenClaim.holds_of_wide 10 Tryz.f10 rfl rfl rfl rfl rfl rfl rfl ⟨rfl, rfl, rfl, rfl, rfl⟩ rfl rfl rfl rfl rfl (by kernel_rfl) Tryz.func10 closed
    (of_decide_eq_true (by kernel_rfl)) (by unfold Func.isWrapper; first | (rw [if_pos (by decide +kernel)]; kernel_rfl) | (rw [if_neg (by decide +kernel)]; exact ⟨rfl, rfl⟩))
    (fun os started H enc _ => lifted os started H enc)

theorem plain (f : FuncId) (fn : Func) (hf : Tryz.pinned.checked.prog.funcNamed "pub-gridwork/laws.FnRankEqual" = some f) (hfn : Tryz.pinned.checked.prog.funcs[f]? = some fn) :
    true = Tryz.pinned.checked.prog.looks [] ∧ ∀ (j : Nat) t, fn.params[j]? = some t → Tryz.pinned.checked.prog.wantsStandIn t = false := by
  obtain rfl : f = 10 := Option.some.inj ((show Tryz.prog.funcNamed "pub-gridwork/laws.FnRankEqual" = some 10 by kernel_rfl).symm.trans hf) |>.symm
  obtain rfl : fn = Tryz.f10 := (Option.some.inj (Tryz.func10.symm.trans hfn)).symm
  refine ⟨by kernel_rfl, fun j t ht => ?_⟩
  rw [Tryz.params10] at ht
  have hm : t = 22 ∨ t = 3 ∨ t = 4 := by
    have := Array.mem_of_getElem? ht
    simpa using this
  rcases hm with rfl | rfl | rfl
  · exact (show Tryz.prog.wantsStandIn 22 = false by kernel_rfl)
  · exact (show Tryz.prog.wantsStandIn 3 = false by kernel_rfl)
  · exact (show Tryz.prog.wantsStandIn 4 = false by kernel_rfl)

theorem holds : Rows.FnRankEqualCardSaid :=
  Claim7.holds_tied_plain_at .later [] _ _ _ _ said (fun _ h => by cases h) (by kernel_rfl) (fun _ h => by cases h) fnRankEqual_row_tie rfl ⟨rfl, rfl⟩ (by kernel_rfl) rfl plain (by kernel_rfl)
end Go.Proofs.YtojicbajcebjjaaGreatDoor.FnRankEqual
namespace Go.Proofs.YtojicbajcebjjaaGreatDoor
/-- The statement. -/
theorem fnRankEqual_holds : Rows.FnRankEqualCardSaid := FnRankEqual.holds
#print axioms fnRankEqual_holds
end Go.Proofs.YtojicbajcebjjaaGreatDoor
