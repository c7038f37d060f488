/-
  CEILING of two whole numbers.
-/
import Derived.Test.YtojicbajcebjjaaGreatDoorMa
namespace Go.Proofs.YtojicbajcebjjaaGreatDoor
open Go.RowKit
attribute [local go_sem] run_store_float

theorem not_neg (n : Nat) (h : n ≤ 1000000) : (FloatKind.f64.format.order (fi (n : Int)) 0 == some .lt) = false := by
  rw [ord_zero n (by omega)]
  rcases Nat.eq_zero_or_pos n with rfl | h1
  · rfl
  · rw [cmp_gt (by omega)]; rfl

set_option maxRecDepth 100000 in
set_option maxHeartbeats 1600000 in
theorem ceiling_method (g L : Nat) (es : List Nat) (a b q r y z s up : Nat) (w : World) (hl : IsList w L es [fa a, fa b]) (ha : a ≤ 1000000) (hb : b ≤ 1000) (hq : q ≤ 1000000) (hup : up = if r = 0 then q else q + 1) (hub : up * b ≤ 2000000)
    (hp : Parts a b q r y z s) :
    Calls Tryz.prog 72 #[.pointer (some ⟨g, 0, none⟩), .pointer (some ⟨L, 0, none⟩)] w fun e w' => e = .returned (.agg #[.string ⟨#[]⟩, .float .f64 (fi ((up * b : Nat) : Int)), .string ⟨#[]⟩, .slice none 0 0, .slice none 0 0, .bool false, .string ⟨#[]⟩, .int .u8 1, .pointer none, .pointer none]) ∧ Below w.heap.size w w' := by
  obtain ⟨e0, e1, p0, p1, rfl, B0, B1⟩ := two_cells hl
  have l0 := B0.lt
  have l1 := B1.lt
  have lL := hl.root.lt
  have hta := assert73
  have n1 := not_neg a ha
  have n2 := not_neg b (by omega)
  obtain ⟨c1, c2, ⟨m, p, c3⟩, c4, c5, c6, c7, c8, _⟩ := hp
  have hdiv := fun (w : World) => run_float_arith (P := Tryz.prog) w .quo 33 .f64 _ _ _ c1
  have HN : Hid (isNum y = true) := Lib.hid (by unfold isNum; rw [show FloatKind.f64.decode y = .number false m p from c3])
  have HQ : Hid (cutF .zero y = fi (q : Int)) := Lib.hid c4
  have HS := Lib.hid c5
  have H7 := Lib.hid c7
  have H8 := Lib.hid c8
  have HU := Lib.hid hup
  clear c1 c3 c4 c5 c7 c8 hup
  go_enter Tryz.func72, Tryz.ntmps72
  go_wp2_with fail
  have R1 := Bk.new w 73 #[.string ⟨#[]⟩, .float .f64 0, .string ⟨#[]⟩, .slice none 0 0, .slice none 0 0, .bool false, .string ⟨#[]⟩, .int .u8 0, .pointer none, .pointer none]
  have bz := (Below.refl _ w).alloc (Nat.le_refl _) (.cells #[.string ⟨#[]⟩, .float .f64 0, .string ⟨#[]⟩, .slice none 0 0, .slice none 0 0, .bool false, .string ⟨#[]⟩, .int .u8 0, .pointer none, .pointer none] 73)
  have hl1 := hl.below bz
  refine (list_len L _ _ _ hl1).mono ?_
  rintro e w1 ⟨rfl, rfl⟩
  go_wp2_with fail
  refine (list_len L _ _ _ hl1).mono ?_
  rintro e w1 ⟨rfl, rfl⟩
  go_wp2_with fail
  refine (list_front L e0 [e1] _ _ hl1).mono ?_
  rintro e w1 ⟨rfl, rfl⟩
  have c0 := fun i => (B0.alloc (.cells #[.string ⟨#[]⟩, .float .f64 0, .string ⟨#[]⟩, .slice none 0 0, .slice none 0 0, .bool false, .string ⟨#[]⟩, .int .u8 0, .pointer none, .pointer none] 73)).cell i
  simp only [fa] at c0
  go_wp2_with fail
  refine (toNumber_num a _ (by omega)).mono ?_
  rintro e w1 ⟨rfl, b1⟩
  clear c0
  go_wp2_with fail
  have R2 := (R1.below b1 R1.lt).alloc (.cells #[.string ⟨#[]⟩, .float .f64 (fi a), .string ⟨#[]⟩, .slice none 0 0, .slice none 0 0, .bool false, .string ⟨#[]⟩, .int .u8 1, .pointer none, .pointer none] 73)
  have C2 := ((B1.below bz l1).below b1 (by simp; omega)).alloc (.cells #[.string ⟨#[]⟩, .float .f64 (fi a), .string ⟨#[]⟩, .slice none 0 0, .slice none 0 0, .bool false, .string ⟨#[]⟩, .int .u8 1, .pointer none, .pointer none] 73)
  have hl2 := (hl1.below b1).below ((Below.refl _ w1).alloc (Nat.le_refl _) (.cells #[.string ⟨#[]⟩, .float .f64 (fi a), .string ⟨#[]⟩, .slice none 0 0, .slice none 0 0, .bool false, .string ⟨#[]⟩, .int .u8 1, .pointer none, .pointer none] 73))
  have s2 : w.heap.size < w1.heap.size := by have := b1.size; simp at this; omega
  refine (list_len L _ _ _ hl2).mono ?_
  rintro e w2 ⟨rfl, rfl⟩
  go_wp2_with fail
  refine (list_back L e1 [e0] _ _ hl2).mono ?_
  rintro e w2 ⟨rfl, rfl⟩
  have c1 := fun i => C2.cell i
  simp only [fa] at c1
  go_wp2_with fail
  refine (toNumber_num b _ (by omega)).mono ?_
  rintro e w2 ⟨rfl, b2⟩
  clear c1
  go_wp2_with fail
  have hl3 := (hl2.below b2).below ((Below.refl _ w2).alloc (Nat.le_refl _) (.cells #[.string ⟨#[]⟩, .float .f64 (fi b), .string ⟨#[]⟩, .slice none 0 0, .slice none 0 0, .bool false, .string ⟨#[]⟩, .int .u8 1, .pointer none, .pointer none] 73))
  refine (list_len L _ _ _ hl3).mono ?_
  rintro e w3 ⟨rfl, rfl⟩
  have R3 := (R2.below b2 R2.lt).alloc (.cells #[.string ⟨#[]⟩, .float .f64 (fi b), .string ⟨#[]⟩, .slice none 0 0, .slice none 0 0, .bool false, .string ⟨#[]⟩, .int .u8 1, .pointer none, .pointer none] 73)
  have bW : Below w.heap.size w (w2.alloc (.cells #[.string ⟨#[]⟩, .float .f64 (fi b), .string ⟨#[]⟩, .slice none 0 0, .slice none 0 0, .bool false, .string ⟨#[]⟩, .int .u8 1, .pointer none, .pointer none] 73)) := (((((Below.refl _ w).alloc (Nat.le_refl _) (.cells #[.string ⟨#[]⟩, .float .f64 0, .string ⟨#[]⟩, .slice none 0 0, .slice none 0 0, .bool false, .string ⟨#[]⟩, .int .u8 0, .pointer none, .pointer none] 73)).trans (b1.mono (by simp))).alloc (by omega) (.cells #[.string ⟨#[]⟩, .float .f64 (fi a), .string ⟨#[]⟩, .slice none 0 0, .slice none 0 0, .bool false, .string ⟨#[]⟩, .int .u8 1, .pointer none, .pointer none] 73)).trans (b2.mono (by simp; omega))).alloc (by have := b2.size; simp at this; omega) _
  have sW := R3.lt
  clear R1 R2 b1 b2 s2 l0 l1 lL B1 hl hl1 hl2 hl3 B0 C2 bz
  generalize w2.alloc (.cells #[.string ⟨#[]⟩, .float .f64 (fi b), .string ⟨#[]⟩, .slice none 0 0, .slice none 0 0, .bool false, .string ⟨#[]⟩, .int .u8 1, .pointer none, .pointer none] 73) = W at *
  go_wp2_with fail
  refine (modf_any y (fi q) z _ HN.out HQ.out HS.out c6 c2).mono ?_
  rintro e w3 ⟨rfl, rfl⟩
  by_cases hr0 : r = 0
  · obtain rfl : z = 0 := H7.out hr0
    have hz : (FloatKind.f64.format.order 0 0 == some .gt) = false := by decide
    have hu := HU.out
    rw [if_pos hr0] at hu
    have hmul := fun (w : World) => run_float_arith (P := Tryz.prog) w .mul 33 .f64 _ _ _ (mul_fi (q : Int) (b : Int) (by omega) (by omega) (by rw [← Int.natCast_mul, Int.natAbs_natCast, ← hu]; omega) (.inr ⟨by omega, by omega⟩))
    rw [show (q : Int) * (b : Int) = ((up * b : Nat) : Int) by rw [hu, Int.natCast_mul]] at hmul
    clear hr0 hu
    go_wp2_with fail
    refine (newNum ((up * b : Nat) : Int) _ (by rw [Int.natAbs_natCast]; omega)).mono ?_
    rintro e w4 ⟨rfl, b4⟩
    have R4 := R3.below b4 sW
    have r4 := fun i => R4.cell i
    have q4 := fun i => R4.frozen i
    go_wp2
    refine bodyPost_ret (v := (.agg #[.string ⟨#[]⟩, .float .f64 (fi ((up * b : Nat) : Int)), .string ⟨#[]⟩, .slice none 0 0, .slice none 0 0, .bool false, .string ⟨#[]⟩, .int .u8 1, .pointer none, .pointer none])) (by simp [results, Tryz.results72, go_sem, r4]) rfl ⟨rfl, ?_⟩
    repeat refine Below.setCell ?_ (by simp) _
    exact bW.trans (b4.mono (by omega))
  · have hz : (FloatKind.f64.format.order z 0 == some .gt) = true := by rw [show FloatKind.f64.format.order z 0 = some .gt from H8.out (by omega)]; rfl
    have hu := HU.out
    rw [if_neg hr0] at hu
    have hadd := fun (w : World) => run_float_arith (P := Tryz.prog) w .add 33 .f64 _ _ _ (add_fi (q : Int) 1 (by omega) (by omega) (by omega))
    rw [fi_one] at hadd
    have hmul := fun (w : World) => run_float_arith (P := Tryz.prog) w .mul 33 .f64 _ _ _ (mul_fi ((q : Int) + 1) (b : Int) (by omega) (by omega) (by rw [show (q : Int) + 1 = ((q + 1 : Nat) : Int) from rfl, ← Int.natCast_mul, Int.natAbs_natCast, ← hu]; omega) (.inr ⟨by omega, by omega⟩))
    rw [show ((q : Int) + 1) * (b : Int) = ((up * b : Nat) : Int) by rw [hu, Int.natCast_mul]; rfl] at hmul
    clear hr0 hu
    go_wp2_with fail
    refine (newNum ((up * b : Nat) : Int) _ (by rw [Int.natAbs_natCast]; omega)).mono ?_
    rintro e w4 ⟨rfl, b4⟩
    have R4 := R3.below b4 sW
    have r4 := fun i => R4.cell i
    have q4 := fun i => R4.frozen i
    go_wp2
    refine bodyPost_ret (v := (.agg #[.string ⟨#[]⟩, .float .f64 (fi ((up * b : Nat) : Int)), .string ⟨#[]⟩, .slice none 0 0, .slice none 0 0, .bool false, .string ⟨#[]⟩, .int .u8 1, .pointer none, .pointer none])) (by simp [results, Tryz.results72, go_sem, r4]) rfl ⟨rfl, ?_⟩
    repeat refine Below.setCell ?_ (by simp) _
    exact bW.trans (b4.mono (by omega))
end Go.Proofs.YtojicbajcebjjaaGreatDoor
