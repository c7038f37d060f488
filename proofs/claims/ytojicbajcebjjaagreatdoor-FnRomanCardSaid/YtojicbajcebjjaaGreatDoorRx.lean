/-
  ROMAN from the program's values to the program's values; the law FnRoman, walked.
-/
import Derived.Test.YtojicbajcebjjaaGreatDoorRw
namespace Go.Proofs.YtojicbajcebjjaaGreatDoor
open Go.RowKit
attribute [local go_sem] run_store_float

set_option maxRecDepth 100000 in
set_option maxHeartbeats 800000 in
theorem door_ROMAN (B : Nat) (A : Option Addr) (c n : Nat) (w : World) (hr : Rd w B A (nvs [(n : Int)])) (hB : B ≤ w.heap.size) (hT : RomTab w.heap.size w) (hn : n ≤ 3999) :
    Calls Tryz.prog 54 #[.slice A 1 c] w fun e w' => e = .returned (.agg #[.int .i64 2, .float .f64 0, .string (⟨(romR 0 n).toArray⟩), .slice none 0 0]) ∧ Below w.heap.size w w' := by
  have HS : Hid (∀ x ∈ [(n : Int)], x.natAbs < 2 ^ 53) := Lib.hid (by intro x hx; simp at hx; omega)
  go_enter Tryz.func54, Tryz.ntmps54
  go_wp2_with fail
  have R1 := Bk.new w 59 #[.int .i64 0, .float .f64 0, .string ⟨#[]⟩, .slice none 0 0]
  have bz := (Below.refl _ w).alloc (Nat.le_refl _) (.cells #[.int .i64 0, .float .f64 0, .string ⟨#[]⟩, .slice none 0 0] 59)
  have s0 : w.heap.size < (w.alloc (.cells #[.int .i64 0, .float .f64 0, .string ⟨#[]⟩, .slice none 0 0] 59)).heap.size := by simp
  generalize w.alloc (.cells #[.int .i64 0, .float .f64 0, .string ⟨#[]⟩, .slice none 0 0] 59) = w0 at *
  refine (doorFuncs_any _).mono ?_
  rintro e w1 ⟨rfl, b1, _⟩
  have hr1 := (hr.below (bz.mono hB)).below (b1.mono (by omega))
  have s1 := b1.size
  go_wp2_with fail
  refine (innerList_nums B A 1 c [(n : Int)] _ rfl (by omega) hr1 (by omega) HS.out).mono ?_
  rintro e w2 ⟨L, es, rfl, hlist, hLL, b2⟩
  have s2 := b2.size
  have bT := (bz.trans (b1.mono (by omega))).trans (b2.mono (by omega))
  have hT2 := (hT.below bT).more bT.size
  go_wp2_with fail
  refine (roman_method _ L es n _ hlist hT2 hn).mono ?_
  rintro e w3 ⟨rfl, b3⟩
  have s3 := b3.size
  go_wp2_with fail
  refine (doorArg_str _ _).mono ?_
  rintro e w4 ⟨rfl, b4⟩
  have R4 := (((R1.later b1).later b2).later b3).later b4
  have r4 := fun i => R4.cell i
  have q4 := fun i => R4.frozen i
  have b := (bT.trans (b3.mono (by omega))).trans (b4.mono (by omega))
  clear bz b1 b2 b3 b4 hlist hr1 hr bT hT2 hT
  go_wp2
  refine bodyPost_ret (v := (.agg #[.int .i64 2, .float .f64 0, .string (⟨(romR 0 n).toArray⟩), .slice none 0 0])) (by simp [results, Tryz.results54, go_sem, r4]) rfl ⟨rfl, ?_⟩
  repeat refine Below.setCell ?_ (by simp) _
  exact b

set_option maxRecDepth 100000 in
set_option maxHeartbeats 800000 in
theorem impl_ROMAN (B : Nat) (A : Option Addr) (c n : Nat) (w : World) (hr : Rd w B A (nvs [(n : Int)])) (hB : B ≤ w.heap.size) (hT : RomTab w.heap.size w) (hn : n ≤ 3999) :
    Calls Tryz.prog 29 #[.slice A 1 c] w fun e w' => e = .returned (.agg #[.int .i64 2, .float .f64 0, .string (⟨(romR 0 n).toArray⟩), .slice none 0 0]) ∧ Below w.heap.size w w' := by
  go_enter Tryz.func29, Tryz.ntmps29
  go_wp2_with fail
  have R1 := Bk.new w 36 #[.int .i64 0, .float .f64 0, .string ⟨#[]⟩, .slice none 0 0]
  have bz := (Below.refl _ w).alloc (Nat.le_refl _) (.cells #[.int .i64 0, .float .f64 0, .string ⟨#[]⟩, .slice none 0 0] 36)
  have s0 : w.heap.size < (w.alloc (.cells #[.int .i64 0, .float .f64 0, .string ⟨#[]⟩, .slice none 0 0] 36)).heap.size := by simp
  generalize w.alloc (.cells #[.int .i64 0, .float .f64 0, .string ⟨#[]⟩, .slice none 0 0] 36) = w0 at *
  have hr0 := hr.below (bz.mono hB)
  refine (in_nums B A 1 c [(n : Int)] _ rfl (by omega) hr0 (by omega)).mono ?_
  rintro e w1 ⟨A1, c1, rfl, hr1, b1⟩
  have s1 := b1.size
  have bT := bz.trans (b1.mono (by omega))
  have hT2 := (hT.below bT).more bT.size
  go_wp2_with fail
  refine (door_ROMAN w1.heap.size A1 c1 n _ hr1 (Nat.le_refl _) hT2 hn).mono ?_
  rintro e w2 ⟨rfl, b2⟩
  have s2 := b2.size
  go_wp2_with fail
  refine (out_str _ _).mono ?_
  rintro e w4 ⟨rfl, b4⟩
  have R4 := ((R1.later b1).later b2).later b4
  have r4 := fun i => R4.cell i
  have q4 := fun i => R4.frozen i
  have b := (bT.trans (b2.mono (by omega))).trans (b4.mono (by omega))
  clear bz b1 b2 b4 hr1 hr hr0 bT hT2 hT
  go_wp2
  refine bodyPost_ret (v := (.agg #[.int .i64 2, .float .f64 0, .string (⟨(romR 0 n).toArray⟩), .slice none 0 0])) (by simp [results, Tryz.results29, go_sem, r4]) rfl ⟨rfl, ?_⟩
  repeat refine Below.setCell ?_ (by simp) _
  exact b

theorem rem_eq (n : Int) : (wrap64 (n.tmod 3999 + 3999)).tmod 3999 = n % 3999 := by
  have b1 := Int.tmod_lt_of_pos n (show (0 : Int) < 3999 by omega)
  have b2 : -(3999 : Int) < n.tmod 3999 := by
    have := Int.tmod_lt_of_pos (-n) (show (0 : Int) < 3999 by omega)
    rw [Int.neg_tmod] at this; omega
  rw [IntWalk.wrap64_in _ ⟨by omega, by omega⟩, Int.tmod_eq_emod_of_nonneg (by omega), Int.add_emod_right]
  have e3 := Int.tmod_add_mul_tdiv n 3999
  have e4 : n.tmod 3999 = n - 3999 * n.tdiv 3999 := by omega
  rw [e4, Int.sub_mul_emod_self_left]
theorem rem_bd (n : Int) : ∃ N : Nat, n % 3999 + 1 = (N : Int) ∧ 1 ≤ N ∧ N ≤ 3999 := ⟨(n % 3999).toNat + 1, by omega, by omega, by omega⟩

set_option maxRecDepth 100000 in
set_option maxHeartbeats 1600000 in
theorem fnRoman_walk (n : Int) (w : World) (hT : RomTab w.heap.size w) :
    Calls Tryz.prog 7 #[.int .i64 n] w fun e w' => e = .returned (.bool true) ∧ Below w.heap.size w w' := by
  obtain ⟨N, hN, hN1, hN2⟩ := rem_bd n
  have h1 := rem_eq n
  go_enter Tryz.func7, Tryz.ntmps7
  go_wp2_with fail
  have b0 := (Below.refl _ w).alloc (Nat.le_refl _) (.cells #[.int .i64 N] 3)
  have r0 := Rd.of_bk (Bk.new w 3 #[.int .i64 N]) ([(N : Int)].map (.int .i64)) rfl
  have s0 := b0.size
  generalize w.alloc (.cells #[.int .i64 N] 3) = W at *
  refine (numArgs_any _ _ 1 1 [(N : Int)] _ rfl (by omega) r0 (Nat.le_refl _) (by intro x hx; simp at hx; omega)).mono ?_
  rintro e w1 ⟨A1, c1, rfl, r1, b1⟩
  have bb := b0.trans (b1.mono s0)
  have s := bb.size
  have hT2 := (hT.below bb).more s
  clear b0 b1 r0 s0 hT h1
  go_wp2_with fail
  refine (impl_ROMAN _ A1 c1 N _ r1 (Nat.le_refl _) hT2 hN2).mono ?_
  rintro e w2 ⟨rfl, b2⟩
  go_wp2_with fail
  refine (numeral_any N _ hN2).mono ?_
  rintro e w3 ⟨rfl, b3⟩
  go_wp2_with fail
  refine (str_any _ _).mono ?_
  rintro e w4 ⟨rfl, b4⟩
  go_wp2_with fail
  refine (same_str _ _).mono ?_
  rintro e w5 ⟨rfl, b5⟩
  have s2 := b2.size
  have s3 := b3.size
  have s4 := b4.size
  have be := (((bb.trans (b2.mono (by omega))).trans (b3.mono (by omega))).trans (b4.mono (by omega))).trans (b5.mono (by omega))
  clear b2 b3 b4 b5 bb r1 hT2
  go_wp2
  go_ret
  exact ⟨rfl, be⟩
end Go.Proofs.YtojicbajcebjjaaGreatDoor
