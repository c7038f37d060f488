/-
  combNum (a number of the program as a whole number), and the law FnPascal, walked.
-/
import Derived.Test.YtojicbajcebjjaaGreatDoorJ
namespace Go.Proofs.YtojicbajcebjjaaGreatDoor
open Go.RowKit
attribute [local go_sem] run_store_float

theorem fi_low : fi (-1000000000000000) = 14054727237768577024 := by decide +kernel
theorem fi_top : fi 1000000000000000 = 4831355200913801216 := by decide +kernel

set_option maxHeartbeats 800000 in
theorem combNum_any (n : Int) (w : World) (h0 : n ≤ 100000000000) (h1 : -100000000000 ≤ n) :
    Calls Tryz.prog 25 #[(.agg #[.int .i64 1, .float .f64 (fi n), .string ⟨#[]⟩, .slice none 0 0])] w fun e w' => e = .returned (.tuple #[.int .i64 n, .bool true]) ∧ Below w.heap.size w w' := by
  have o1 : (FloatKind.f64.format.order (fi n) 14054727237768577024 == some .lt) = false := by
    rw [← fi_low, ord_fi _ _ (by omega) (by decide), cmp_gt (by omega)]; rfl
  have o2 : (FloatKind.f64.format.order (fi n) 4831355200913801216 == some .gt) = false := by
    rw [← fi_top, ord_fi _ _ (by omega) (by decide), cmp_lt (by omega)]; rfl
  have o3 : (FloatKind.f64.format.order (fi n) (fi n) != some .eq) = false := by
    rw [ord_fi _ _ (by omega) (by omega), cmp_eq]; rfl
  have ht : floatToIntVal .f64 (fi n) .i64 = some n := by
    unfold floatToIntVal
    have := toInt_fi n (by omega) .zero
    rw [show FloatKind.f64.decode (fi n) = D.read (fi n) from rfl]
    simp only [this]
    have e1 : IntKind.i64.min = -9223372036854775808 := by decide
    have e2 : IntKind.i64.max = 9223372036854775807 := by decide
    rw [e1, e2, if_pos (by omega)]
  have hc1 : ∀ w, (convert 33 3 (.float .f64 (fi n))).run Tryz.prog w = .ok (.int .i64 n) w := fun w => run_convert_float_int w 33 3 .f64 .i64 _ n (by rw [Tryz.underlying33]; rfl) Tryz.underlying3 ht
  have hc2 : ∀ w, (convert 3 33 (.int .i64 n)).run Tryz.prog w = .ok (.float .f64 (fi n)) w := fun w => run_convert_int_float w 3 33 .i64 .f64 n (by rw [Tryz.underlying3]; rfl) Tryz.underlying33
  clear ht h0 h1
  go_enter Tryz.func25, Tryz.ntmps25
  go_wp2
  go_ret2
  exact ⟨rfl, (Below.refl _ _).alloc (Nat.le_refl _) _⟩

theorem combin_ints (B : Nat) (A : Option Addr) (c : Nat) (x y : Int) (n k : Nat) (w : World) (hr : Rd w B A (nvs [x, y])) (hB : B ≤ w.heap.size) (hx : x = n) (hy : y = k) (hn : n ≤ 10) (hk : k ≤ n) :
    Calls Tryz.prog 21 #[.slice A 2 c] w fun e w' => e = .returned (.agg #[.int .i64 1, .float .f64 (fi (choose n k)), .string ⟨#[]⟩, .slice none 0 0]) ∧ Below w.heap.size w w' := by
  subst hx hy
  exact combin_nums B A c n k w hr hB hn hk

theorem fitTwoI (a b : Int) (ha : a ≤ 1000) (hb : b ≤ 1000) (ha0 : 0 ≤ a) (hb0 : 0 ≤ b) : Fits [a, b] := by
  intro n hn
  simp at hn
  rcases hn with rfl | rfl <;> omega

theorem sym_tbl : (List.range 11).all (fun n => (List.range (n + 1)).all fun k => decide (choose n (n - k) = choose n k)) = true := by decide +kernel
theorem choose_sym (n k : Nat) (hn : n ≤ 10) (hk : k ≤ n) : choose n (n - k) = choose n k := by
  have := List.all_eq_true.1 sym_tbl n (by simp; omega)
  have := List.all_eq_true.1 this k (by simp; omega)
  exact of_decide_eq_true this

set_option maxRecDepth 100000 in
set_option maxHeartbeats 1600000 in
theorem fnPascal_walk (n k : Int) (w : World) (hn : -9223372036854775808 ≤ n ∧ n ≤ 9223372036854775807) (hk : -9223372036854775808 ≤ k ∧ k ≤ 9223372036854775807) :
    Calls Tryz.prog 5 #[.int .i64 n, .int .i64 k] w fun e w' => e = .returned (.bool true) ∧ Below w.heap.size w w' := by
  obtain ⟨N, hN, hN2⟩ := small_nat n 8 (by omega)
  obtain ⟨M, hM, hM2⟩ := small_nat k N (by omega)
  have HN := Lib.hid hN
  have HM := Lib.hid hM
  have H1 := Lib.hid hn
  have H2 := Lib.hid hk
  clear hN hM hn hk
  have b := Below.refl w.heap.size w
  have s := b.size
  go_enter Tryz.func5, Tryz.ntmps5
  go_wp2_with fail
  refine (combSmall_any n 8 _ (by omega) (by omega) H1.out).mono ?_
  rintro e w1 ⟨rfl, rfl⟩
  rw [HN.out]
  go_wp2_with fail
  refine (combSmall_any k (1 + N - 1) _ (by omega) (by omega) H2.out).mono ?_
  rintro e w1 ⟨rfl, rfl⟩
  rw [show (1 : Int) + N - 1 = N by omega, HM.out]
  go_wp2_with fail
  have b0 := b.alloc s (.cells #[.int .i64 (1 + (N : Int)), .int .i64 ((M : Int))] 3)
  have r0 := Rd.of_bk (Bk.new w 3 #[.int .i64 (1 + (N : Int)), .int .i64 ((M : Int))]) ([(1 + (N : Int) : Int), ((M : Int) : Int)].map (.int .i64)) rfl
  have s := b0.size
  generalize World.alloc w (.cells #[.int .i64 (1 + (N : Int)), .int .i64 ((M : Int))] 3) = W0 at *
  refine (numArgs_any _ _ 2 2 [(1 + (N : Int) : Int), ((M : Int) : Int)] _ rfl (by omega) r0 (Nat.le_refl _) (fitTwoI _ _ (by omega) (by omega) (by omega) (by omega))).mono ?_
  rintro e w1 ⟨A1, c1, rfl, r1, b1⟩
  have b := b0.trans (b1.mono s)
  have s := b.size
  clear b0 b1 r0
  go_wp2_with fail
  refine (combin_ints _ A1 c1 _ _ (1 + N) (M) _ r1 (Nat.le_refl _) (by omega) (by omega) (by omega) (by omega)).mono ?_
  rintro e w2 ⟨rfl, b1⟩
  have b := b.trans (b1.mono s)
  have s := b.size
  clear b1 r1
  go_wp2_with fail
  have hle := choose_lt (1 + N) (M) (by omega) (by omega)
  refine (combNum_any _ _ (by omega) (by omega)).mono ?_
  rintro e v1 ⟨rfl, b1⟩
  have b := b.trans (b1.mono s)
  have s := b.size
  clear b1 hle

  go_wp2_with fail
  have b0 := b.alloc s (.cells #[.int .i64 (1 + (N : Int)), .int .i64 ((M : Int) + 1)] 3)
  have r0 := Rd.of_bk (Bk.new v1 3 #[.int .i64 (1 + (N : Int)), .int .i64 ((M : Int) + 1)]) ([(1 + (N : Int) : Int), ((M : Int) + 1 : Int)].map (.int .i64)) rfl
  have s := b0.size
  generalize World.alloc v1 (.cells #[.int .i64 (1 + (N : Int)), .int .i64 ((M : Int) + 1)] 3) = W0 at *
  refine (numArgs_any _ _ 2 2 [(1 + (N : Int) : Int), ((M : Int) + 1 : Int)] _ rfl (by omega) r0 (Nat.le_refl _) (fitTwoI _ _ (by omega) (by omega) (by omega) (by omega))).mono ?_
  rintro e w1 ⟨A1, c1, rfl, r1, b1⟩
  have b := b0.trans (b1.mono s)
  have s := b.size
  clear b0 b1 r0
  go_wp2_with fail
  refine (combin_ints _ A1 c1 _ _ (1 + N) (M + 1) _ r1 (Nat.le_refl _) (by omega) (by omega) (by omega) (by omega)).mono ?_
  rintro e w2 ⟨rfl, b1⟩
  have b := b.trans (b1.mono s)
  have s := b.size
  clear b1 r1
  go_wp2_with fail
  have hle := choose_lt (1 + N) (M + 1) (by omega) (by omega)
  refine (combNum_any _ _ (by omega) (by omega)).mono ?_
  rintro e v2 ⟨rfl, b1⟩
  have b := b.trans (b1.mono s)
  have s := b.size
  clear b1 hle

  go_wp2_with fail
  have b0 := b.alloc s (.cells #[.int .i64 (1 + (N : Int) + 1), .int .i64 ((M : Int) + 1)] 3)
  have r0 := Rd.of_bk (Bk.new v2 3 #[.int .i64 (1 + (N : Int) + 1), .int .i64 ((M : Int) + 1)]) ([(1 + (N : Int) + 1 : Int), ((M : Int) + 1 : Int)].map (.int .i64)) rfl
  have s := b0.size
  generalize World.alloc v2 (.cells #[.int .i64 (1 + (N : Int) + 1), .int .i64 ((M : Int) + 1)] 3) = W0 at *
  refine (numArgs_any _ _ 2 2 [(1 + (N : Int) + 1 : Int), ((M : Int) + 1 : Int)] _ rfl (by omega) r0 (Nat.le_refl _) (fitTwoI _ _ (by omega) (by omega) (by omega) (by omega))).mono ?_
  rintro e w1 ⟨A1, c1, rfl, r1, b1⟩
  have b := b0.trans (b1.mono s)
  have s := b.size
  clear b0 b1 r0
  go_wp2_with fail
  refine (combin_ints _ A1 c1 _ _ (1 + N + 1) (M + 1) _ r1 (Nat.le_refl _) (by omega) (by omega) (by omega) (by omega)).mono ?_
  rintro e w2 ⟨rfl, b1⟩
  have b := b.trans (b1.mono s)
  have s := b.size
  clear b1 r1
  go_wp2_with fail
  have hle := choose_lt (1 + N + 1) (M + 1) (by omega) (by omega)
  refine (combNum_any _ _ (by omega) (by omega)).mono ?_
  rintro e v3 ⟨rfl, b1⟩
  have b := b.trans (b1.mono s)
  have s := b.size
  clear b1 hle

  go_wp2_with fail
  have b0 := b.alloc s (.cells #[.int .i64 (1 + (N : Int)), .int .i64 (1 + (N : Int) - M)] 3)
  have r0 := Rd.of_bk (Bk.new v3 3 #[.int .i64 (1 + (N : Int)), .int .i64 (1 + (N : Int) - M)]) ([(1 + (N : Int) : Int), (1 + (N : Int) - M : Int)].map (.int .i64)) rfl
  have s := b0.size
  generalize World.alloc v3 (.cells #[.int .i64 (1 + (N : Int)), .int .i64 (1 + (N : Int) - M)] 3) = W0 at *
  refine (numArgs_any _ _ 2 2 [(1 + (N : Int) : Int), (1 + (N : Int) - M : Int)] _ rfl (by omega) r0 (Nat.le_refl _) (fitTwoI _ _ (by omega) (by omega) (by omega) (by omega))).mono ?_
  rintro e w1 ⟨A1, c1, rfl, r1, b1⟩
  have b := b0.trans (b1.mono s)
  have s := b.size
  clear b0 b1 r0
  go_wp2_with fail
  refine (combin_ints _ A1 c1 _ _ (1 + N) (1 + N - M) _ r1 (Nat.le_refl _) (by omega) (by omega) (by omega) (by omega)).mono ?_
  rintro e w2 ⟨rfl, b1⟩
  have b := b.trans (b1.mono s)
  have s := b.size
  clear b1 r1
  go_wp2_with fail
  have hle := choose_lt (1 + N) (1 + N - M) (by omega) (by omega)
  refine (combNum_any _ _ (by omega) (by omega)).mono ?_
  rintro e v4 ⟨rfl, b1⟩
  have b := b.trans (b1.mono s)
  have s := b.size
  clear b1 hle

  have e3 : choose (1 + N + 1) (M + 1) = choose (1 + N) M + choose (1 + N) (M + 1) := rfl
  have e4 := choose_sym (1 + N) M (by omega) (by omega)
  have l1 := choose_lt (1 + N) M (by omega) (by omega)
  have l2 := choose_lt (1 + N) (M + 1) (by omega) (by omega)
  rw [e3, e4]
  generalize choose (1 + N) M = X at *
  generalize choose (1 + N) (M + 1) = Y at *
  clear e3 e4
  go_wp2
  go_ret
  exact ⟨rfl, b⟩
end Go.Proofs.YtojicbajcebjjaaGreatDoor
