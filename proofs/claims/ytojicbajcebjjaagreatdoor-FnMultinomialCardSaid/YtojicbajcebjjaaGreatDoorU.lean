/-
  MULTINOMIAL.
-/
import Derived.Test.YtojicbajcebjjaaGreatDoorT
namespace Go.Proofs.YtojicbajcebjjaaGreatDoor
open Go.RowKit
attribute [local go_sem] run_store_float

abbrev castN (l : List Nat) : List Int := l.map fun n : Nat => (n : Int)

theorem facs_le (l : List Nat) (h5 : ∀ x ∈ l, x ≤ 5) (hs : l.sum ≤ 16) (hl : l.length ≤ 4) (i : Nat) (hi : i ≤ l.length) : facs (l.take i) < 2 ^ 53 := by
  have h1 := mul_facs l h5 hs i hi
  have h2 := (mul_le l h5 hl i hi).2
  have h3 := sumTo_mono l i
  have h4 := (fac_lt (sumTo l i) (by omega)).2
  have h6 : facs (l.take i) ≤ mulN l i * facs (l.take i) := Nat.le_mul_of_pos_left _ h2
  omega

/-- what is left of a list behind the element that the slot points to -/
def leftOf (top : Nat) : Value → Nat
  | .pointer (some a) => top - a.block
  | _ => 0

/-- The measure of a loop over a list falls. -/
theorem left_falls {w : World} {L : Nat} {es : List Nat} {vs : List Value} (h : IsList w L es vs) {i e : Nat} (he : es[i]? = some e) :
    leftOf w.heap.size (.pointer ((es[i + 1]?).map fun g => ⟨g, 0, none⟩)) < leftOf w.heap.size (.pointer (some ⟨e, 0, none⟩)) := by
  have hlt : ∀ k g, es[k]? = some g → g < w.heap.size := fun k g hg => by
    obtain ⟨hk, _⟩ := List.getElem?_eq_some_iff.1 hg
    obtain ⟨v, hv⟩ : ∃ v, vs[k]? = some v := ⟨_, List.getElem?_eq_getElem (by rw [← h.len]; exact hk)⟩
    obtain ⟨p, hp⟩ := h.elem k g v hg hv
    exact hp.lt
  have h1 := hlt i e he
  cases hn : es[i + 1]? with
  | none => simp only [Option.map_none, leftOf]; omega
  | some g =>
    have h2 := hlt (i + 1) g hn
    have h3 : e < g := by
      obtain ⟨hi, rfl⟩ := List.getElem?_eq_some_iff.1 he
      obtain ⟨hj, rfl⟩ := List.getElem?_eq_some_iff.1 hn
      exact List.pairwise_iff_getElem.1 h.up i (i + 1) hi hj (by omega)
    simp only [Option.map_some, leftOf]; omega

theorem castN_get {l : List Nat} {i x : Nat} (h : l[i]? = some x) : ((castN l).map fa)[i]? = some (fa (x : Int)) := by
  simp [castN, h]

set_option maxRecDepth 100000 in
set_option maxHeartbeats 1600000 in
theorem multinomial_method (g L : Nat) (es : List Nat) (l : List Nat) (w : World) (hl : IsList w L es ((castN l).map fa)) (h5 : ∀ x ∈ l, x ≤ 5) (hs : l.sum ≤ 16) (hlen : l.length ≤ 4) (hne : 1 ≤ l.length) :
    Calls Tryz.prog 70 #[.pointer (some ⟨g, 0, none⟩), .pointer (some ⟨L, 0, none⟩)] w fun e w' => e = .returned (.agg #[.string ⟨#[]⟩, .float .f64 (fi (mulN l l.length : Nat)), .string ⟨#[]⟩, .slice none 0 0, .slice none 0 0, .bool false, .string ⟨#[]⟩, .int .u8 1, .pointer none, .pointer none]) ∧ Below w.heap.size w w' := by
  have hel : es.length = l.length := by have := hl.len; simpa using this
  obtain ⟨e0, er, rfl⟩ : ∃ e0 er, es = e0 :: er := by
    match es, hel with
    | [], h => simp at h; omega
    | a :: b, _ => exact ⟨a, b, rfl⟩
  have hta := assert73
  have HEL := Lib.hid hel
  clear hel
  go_enter Tryz.func70, Tryz.ntmps70
  go_wp2_with fail
  have R1 := Bk.new w 73 #[.string ⟨#[]⟩, .float .f64 0, .string ⟨#[]⟩, .slice none 0 0, .slice none 0 0, .bool false, .string ⟨#[]⟩, .int .u8 0, .pointer none, .pointer none]
  have bz := (Below.refl _ w).alloc (Nat.le_refl _) (.cells #[.string ⟨#[]⟩, .float .f64 0, .string ⟨#[]⟩, .slice none 0 0, .slice none 0 0, .bool false, .string ⟨#[]⟩, .int .u8 0, .pointer none, .pointer none] 73)
  have s0 : w.heap.size < (w.alloc (.cells #[.string ⟨#[]⟩, .float .f64 0, .string ⟨#[]⟩, .slice none 0 0, .slice none 0 0, .bool false, .string ⟨#[]⟩, .int .u8 0, .pointer none, .pointer none] 73)).heap.size := by simp
  generalize w.alloc (.cells #[.string ⟨#[]⟩, .float .f64 0, .string ⟨#[]⟩, .slice none 0 0, .slice none 0 0, .bool false, .string ⟨#[]⟩, .int .u8 0, .pointer none, .pointer none] 73) = W at *
  have hl1 := hl.below bz
  refine (list_front L e0 er _ _ hl1).mono ?_
  rintro e w1 ⟨rfl, rfl⟩
  clear hl1
  go_wp2_with fail
  go_loopw [5, 6, 7, 9] (fun v n d a wr => ∃ i : Nat, i ≤ l.length ∧ (∃ x, v = .float .f64 x) ∧ n = .float .f64 (fi (sumTo l i : Nat)) ∧ d = .float .f64 (fi (facs (l.take i) : Nat)) ∧ a = .pointer (((e0 :: er)[i]?).map fun g => ⟨g, 0, none⟩) ∧ Below w.heap.size w wr ∧ Bk wr w.heap.size 73 #[.string ⟨#[]⟩, .float .f64 0, .string ⟨#[]⟩, .slice none 0 0, .slice none 0 0, .bool false, .string ⟨#[]⟩, .int .u8 0, .pointer none, .pointer none] ∧ w.heap.size < wr.heap.size)
    (fun _ _ _ a _ => leftOf w.heap.size a)
  case atStart => exact ⟨0, Nat.zero_le _, ⟨0, rfl⟩, rfl, by show Value.float FloatKind.f64 4607182418800017408 = _; rw [← fi_one]; rfl, rfl, bz, R1, s0⟩
  case round =>
    obtain ⟨i, hi, ⟨x0, rfl⟩, rfl, rfl, rfl, hbel, hR, hsz⟩ := hrel
    have hlw := hl.below hbel
    by_cases hlt : i < l.length
    · obtain ⟨x, hx⟩ : ∃ x, l[i]? = some x := ⟨_, List.getElem?_eq_getElem hlt⟩
      obtain ⟨e, he⟩ : ∃ e, (e0 :: er)[i]? = some e := ⟨_, List.getElem?_eq_getElem (by rw [HEL.out]; exact hlt)⟩
      obtain ⟨p, B0⟩ := hlw.elem i e _ he (castN_get hx)
      have c0 := B0.cell 3
      simp [fa] at c0
      have hx5 := h5 x (List.mem_of_getElem? hx)
      have hfx := fac_lt x (by omega)
      have d1 := facs_le l h5 hs hlen i (by omega)
      have d2 := facs_le l h5 hs hlen (i + 1) (by omega)
      have s1 := sumTo_mono l i
      have e1 := sumTo_succ l i x hx
      have e2 := facs_succ l i x hx
      have lte := B0.lt
      rw [he]
      simp only [Option.map_some]
      have hadd : ∀ w : World, (binOp .add 33 (.float .f64 (fi (sumTo l i : Nat))) (.float .f64 (fi (x : Nat)))).run Tryz.prog w = .ok (.float .f64 (fi (sumTo l (i + 1) : Nat))) w := fun w => run_float_arith w .add 33 .f64 _ _ _ (by rw [e1, Int.natCast_add]; exact add_fi _ _ (by omega) (by omega) (by omega))
      have hmul : ∀ w : World, (binOp .mul 33 (.float .f64 (fi (facs (l.take i) : Nat))) (.float .f64 (fi (facN x : Nat)))).run Tryz.prog w = .ok (.float .f64 (fi (facs (l.take (i + 1)) : Nat))) w := fun w => run_float_arith w .mul 33 .f64 _ _ _ (by
        rw [e2, Int.natCast_mul]
        exact mul_fi _ _ (by omega) (by omega) (by rw [← Int.natCast_mul, ← e2]; omega) (.inr ⟨by omega, by omega⟩))
      have hbel2 := hbel.alloc (by omega) (.cells #[.string ⟨#[]⟩, .float .f64 (fi x), .string ⟨#[]⟩, .slice none 0 0, .slice none 0 0, .bool false, .string ⟨#[]⟩, .int .u8 1, .pointer none, .pointer none] 73)
      have hR2 := hR.alloc (.cells #[.string ⟨#[]⟩, .float .f64 (fi x), .string ⟨#[]⟩, .slice none 0 0, .slice none 0 0, .bool false, .string ⟨#[]⟩, .int .u8 1, .pointer none, .pointer none] 73)
      have hl2 := hl.below hbel2
      have HE := Lib.hid he
      clear d1 d2 s1 e1 e2 hlw B0 hbel hR he hx
      have hs2 : w.heap.size < (wr.alloc (.cells #[.string ⟨#[]⟩, .float .f64 (fi x), .string ⟨#[]⟩, .slice none 0 0, .slice none 0 0, .bool false, .string ⟨#[]⟩, .int .u8 1, .pointer none, .pointer none] 73)).heap.size := by simp; omega
      go_wp2_with fail
      generalize wr.alloc (.cells #[.string ⟨#[]⟩, .float .f64 (fi x), .string ⟨#[]⟩, .slice none 0 0, .slice none 0 0, .bool false, .string ⟨#[]⟩, .int .u8 1, .pointer none, .pointer none] 73) = W2 at *
      go_wp2_with fail
      refine (fact_any x _ (by omega)).mono ?_
      rintro e w4 ⟨rfl, rfl⟩
      clear c0
      go_wp2_with fail
      refine (list_next L _ _ i _ _ hl2 HE.out).mono ?_
      rintro r w4 ⟨rfl, rfl⟩
      have hms : leftOf w.heap.size (.pointer (((e0 :: er)[i + 1]?).map fun g => ⟨g, 0, none⟩)) < leftOf w.heap.size (.pointer (some ⟨e, 0, none⟩)) := left_falls hl HE.out
      have HMS := Lib.hid hms
      clear hms
      go_wp2
      go_roundw
      case rel => exact ⟨i + 1, by omega, ⟨_, rfl⟩, rfl, rfl, rfl, hbel2, hR2, hs2⟩
      case measure => exact HMS.out
    · obtain rfl : i = l.length := by omega
      have hnone : (e0 :: er)[l.length]? = none := by rw [List.getElem?_eq_none_iff, HEL.out]; exact Nat.le_refl _
      rw [hnone]
      have q1 := mul_facs l h5 hs l.length (Nat.le_refl _)
      have q2 := mul_le l h5 hlen l.length (Nat.le_refl _)
      have q3 := facs_le l h5 hs hlen l.length (Nat.le_refl _)
      have q4 := facs_pos (l.take l.length)
      have q5 := sumTo_mono l l.length
      have q6 := fac_lt (sumTo l l.length) (by omega)
      have q7 := mB_le l.length
      have hdiv : ∀ w : World, (binOp .quo 33 (.float .f64 (fi (facN (sumTo l l.length) : Nat))) (.float .f64 (fi (facs (l.take l.length) : Nat)))).run Tryz.prog w = .ok (.float .f64 (fi (mulN l l.length : Nat))) w := fun w => run_float_arith w .quo 33 .f64 _ _ _ (div_fi _ _ _ (by rw [← q1, Int.natCast_mul]) (by omega) (by omega) (by omega))
      rw [List.take_length] at hdiv ⊢
      clear q1 q3 q4 q6 hl hlw
      go_wp2_with fail
      refine (fact_any (sumTo l l.length) _ (by omega)).mono ?_
      rintro e w4 ⟨rfl, rfl⟩
      go_wp2_with fail
      refine (newNum (mulN l l.length : Nat) _ (by omega)).mono ?_
      rintro e w4 ⟨rfl, b4⟩
      have R4 := hR.below b4 hsz
      have r4 := fun i => R4.cell i
      have q4 := fun i => R4.frozen i
      have hb4 := hbel.trans (b4.mono (by omega))
      clear b4 hbel hR
      go_wp2
      refine bodyPost_ret (v := (.agg #[.string ⟨#[]⟩, .float .f64 (fi (mulN l l.length : Nat)), .string ⟨#[]⟩, .slice none 0 0, .slice none 0 0, .bool false, .string ⟨#[]⟩, .int .u8 1, .pointer none, .pointer none])) (by simp [results, Tryz.results70, go_sem, r4]) rfl ⟨rfl, ?_⟩
      repeat refine Below.setCell ?_ (by simp) _
      exact hb4

set_option maxRecDepth 100000 in
set_option maxHeartbeats 800000 in
theorem door_MULTINOMIAL (B : Nat) (A : Option Addr) (len c : Nat) (ns : List Int) (r : Int) (w : World) (hlen : ns.length = len) (hl : len ≤ 1000) (hr : Rd w B A (nvs ns)) (hB : B ≤ w.heap.size) (hs : ∀ n ∈ ns, n.natAbs < 2 ^ 53)
    (hM : ∀ (g L : Nat) (es : List Nat) (w : World), IsList w L es (ns.map fa) → Calls Tryz.prog 70 #[.pointer (some ⟨g, 0, none⟩), .pointer (some ⟨L, 0, none⟩)] w fun e w' => e = .returned (.agg #[.string ⟨#[]⟩, .float .f64 (fi r), .string ⟨#[]⟩, .slice none 0 0, .slice none 0 0, .bool false, .string ⟨#[]⟩, .int .u8 1, .pointer none, .pointer none]) ∧ Below w.heap.size w w') :
    Calls Tryz.prog 53 #[.slice A len c] w fun e w' => e = .returned (.agg #[.int .i64 1, .float .f64 (fi r), .string ⟨#[]⟩, .slice none 0 0]) ∧ Below w.heap.size w w' := by
  have HL := Lib.hid hlen
  have HM := Lib.hid hM
  have HS := Lib.hid hs
  clear hlen hM hs
  go_enter Tryz.func53, Tryz.ntmps53
  go_wp2_with fail
  have R1 := Bk.new w 59 #[.int .i64 0, .float .f64 0, .string ⟨#[]⟩, .slice none 0 0]
  have bz := (Below.refl _ w).alloc (Nat.le_refl _) (.cells #[.int .i64 0, .float .f64 0, .string ⟨#[]⟩, .slice none 0 0] 59)
  have s0 : w.heap.size < (w.alloc (.cells #[.int .i64 0, .float .f64 0, .string ⟨#[]⟩, .slice none 0 0] 59)).heap.size := by simp
  generalize w.alloc (.cells #[.int .i64 0, .float .f64 0, .string ⟨#[]⟩, .slice none 0 0] 59) = w0 at *
  refine (doorFuncs_any _).mono ?_
  rintro e w1 ⟨rfl, b1, _⟩
  have hr1 := (hr.below (bz.mono hB)).below (b1.mono (by omega))
  have s1 := b1.size
  go_wp2_with fail
  refine (innerList_nums B A len c ns _ HL.out hl hr1 (by omega) HS.out).mono ?_
  rintro e w2 ⟨L, es, rfl, hlist, hLL, b2⟩
  have s2 := b2.size
  go_wp2_with fail
  refine (HM.out _ L es _ hlist).mono ?_
  rintro e w3 ⟨rfl, b3⟩
  have s3 := b3.size
  go_wp2_with fail
  refine (doorArg_num r _).mono ?_
  rintro e w4 ⟨rfl, b4⟩
  have R4 := (((R1.later b1).later b2).later b3).later b4
  have r4 := fun i => R4.cell i
  have q4 := fun i => R4.frozen i
  have b := (((bz.trans (b1.mono (by omega))).trans (b2.mono (by omega))).trans (b3.mono (by omega))).trans (b4.mono (by omega))
  clear bz b1 b2 b3 b4 hlist hr1 hr
  go_wp2
  refine bodyPost_ret (v := (.agg #[.int .i64 1, .float .f64 (fi r), .string ⟨#[]⟩, .slice none 0 0])) (by simp [results, Tryz.results53, go_sem, r4]) rfl ⟨rfl, ?_⟩
  repeat refine Below.setCell ?_ (by simp) _
  exact b

set_option maxRecDepth 100000 in
set_option maxHeartbeats 800000 in
theorem impl_MULTINOMIAL (B : Nat) (A : Option Addr) (len c : Nat) (ns : List Int) (r : Int) (w : World) (hlen : ns.length = len) (hl : len ≤ 1000) (hr : Rd w B A (nvs ns)) (hB : B ≤ w.heap.size) (hs : ∀ n ∈ ns, n.natAbs < 2 ^ 53)
    (hM : ∀ (g L : Nat) (es : List Nat) (w : World), IsList w L es (ns.map fa) → Calls Tryz.prog 70 #[.pointer (some ⟨g, 0, none⟩), .pointer (some ⟨L, 0, none⟩)] w fun e w' => e = .returned (.agg #[.string ⟨#[]⟩, .float .f64 (fi r), .string ⟨#[]⟩, .slice none 0 0, .slice none 0 0, .bool false, .string ⟨#[]⟩, .int .u8 1, .pointer none, .pointer none]) ∧ Below w.heap.size w w') :
    Calls Tryz.prog 28 #[.slice A len c] w fun e w' => e = .returned (.agg #[.int .i64 1, .float .f64 (fi r), .string ⟨#[]⟩, .slice none 0 0]) ∧ Below w.heap.size w w' := by
  have HL := Lib.hid hlen
  have HM := Lib.hid hM
  have HS := Lib.hid hs
  clear hlen hM hs
  go_enter Tryz.func28, Tryz.ntmps28
  go_wp2_with fail
  have R1 := Bk.new w 36 #[.int .i64 0, .float .f64 0, .string ⟨#[]⟩, .slice none 0 0]
  have bz := (Below.refl _ w).alloc (Nat.le_refl _) (.cells #[.int .i64 0, .float .f64 0, .string ⟨#[]⟩, .slice none 0 0] 36)
  have s0 : w.heap.size < (w.alloc (.cells #[.int .i64 0, .float .f64 0, .string ⟨#[]⟩, .slice none 0 0] 36)).heap.size := by simp
  generalize w.alloc (.cells #[.int .i64 0, .float .f64 0, .string ⟨#[]⟩, .slice none 0 0] 36) = w0 at *
  have hr0 := hr.below (bz.mono hB)
  refine (in_nums B A len c ns _ HL.out hl hr0 (by omega)).mono ?_
  rintro e w1 ⟨A1, c1, rfl, hr1, b1⟩
  have s1 := b1.size
  go_wp2_with fail
  refine (door_MULTINOMIAL w1.heap.size A1 len c1 ns r _ HL.out hl hr1 (Nat.le_refl _) HS.out HM.out).mono ?_
  rintro e w2 ⟨rfl, b2⟩
  have s2 := b2.size
  go_wp2_with fail
  refine (out_num r _).mono ?_
  rintro e w4 ⟨rfl, b4⟩
  have R4 := ((R1.later b1).later b2).later b4
  have r4 := fun i => R4.cell i
  have q4 := fun i => R4.frozen i
  have b := ((bz.trans (b1.mono (by omega))).trans (b2.mono (by omega))).trans (b4.mono (by omega))
  clear bz b1 b2 b4 hr1 hr hr0
  go_wp2
  refine bodyPost_ret (v := (.agg #[.int .i64 1, .float .f64 (fi r), .string ⟨#[]⟩, .slice none 0 0])) (by simp [results, Tryz.results28, go_sem, r4]) rfl ⟨rfl, ?_⟩
  repeat refine Below.setCell ?_ (by simp) _
  exact b


theorem castN_len (l : List Nat) : (castN l).length = l.length := by simp [castN]
theorem castN_small (l : List Nat) (h5 : ∀ x ∈ l, x ≤ 5) : ∀ n ∈ castN l, n.natAbs < 2 ^ 53 := by
  intro n hn
  simp only [castN, List.mem_map] at hn
  obtain ⟨x, hx, rfl⟩ := hn
  have := h5 x hx
  omega
theorem castN_fits (l : List Nat) (h5 : ∀ x ∈ l, x ≤ 5) : Fits (castN l) := by
  intro n hn
  simp only [castN, List.mem_map] at hn
  obtain ⟨x, hx, rfl⟩ := hn
  have := h5 x hx
  omega

/-- MULTINOMIAL of numbers, from the numbers. -/
theorem multinomial_nums (B : Nat) (A : Option Addr) (len c : Nat) (l : List Nat) (w : World) (hlen : l.length = len) (hr : Rd w B A (nvs (castN l))) (hB : B ≤ w.heap.size) (h5 : ∀ x ∈ l, x ≤ 5) (hs : l.sum ≤ 16) (h4 : len ≤ 4) (h1 : 1 ≤ len) :
    Calls Tryz.prog 28 #[.slice A len c] w fun e w' => e = .returned (.agg #[.int .i64 1, .float .f64 (fi (mulN l len : Nat)), .string ⟨#[]⟩, .slice none 0 0]) ∧ Below w.heap.size w w' := by
  subst hlen
  exact impl_MULTINOMIAL B A l.length c (castN l) (mulN l l.length : Nat) w (castN_len l) (by omega) hr hB (castN_small l h5) fun g L es w h => multinomial_method g L es l w h h5 hs h4 h1
end Go.Proofs.YtojicbajcebjjaaGreatDoor
