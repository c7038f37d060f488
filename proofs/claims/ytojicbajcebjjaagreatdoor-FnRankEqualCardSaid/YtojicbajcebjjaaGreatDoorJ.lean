/-
  The law FnCombin, walked.
-/
import Derived.Test.YtojicbajcebjjaaGreatDoorH
import Derived.Test.YtojicbajcebjjaaGreatDoorI
namespace Go.Proofs.YtojicbajcebjjaaGreatDoor
open Go.RowKit
attribute [local go_sem] run_store_float

theorem Rd.of_bk {w : World} {g : Nat} {t : TypeId} {cs : Array Value} (h : Bk w g t cs) (l : List Value) (hl : cs.toList = l) : Rd w w.heap.size (some ⟨g, 0, none⟩) l := by
  subst hl
  refine .inr ⟨g, 0, rfl, h.lt, fun j u hu => ?_⟩
  rw [Nat.zero_add, h.cell]
  simpa using hu

theorem fitTwo (a b : Nat) (ha : a ≤ 1000) (hb : b ≤ 1000) : Fits [(a : Int), (b : Int)] := by
  intro n hn
  simp at hn
  rcases hn with rfl | rfl <;> omega
theorem fineTwo (a b : Nat) (ha : a ≤ 1000) (hb : b ≤ 1000) : ∀ n ∈ [(a : Int), (b : Int)], n.natAbs < 2 ^ 53 := by
  intro n hn
  simp at hn
  rcases hn with rfl | rfl <;> omega

/-- COMBIN of two numbers, from the numbers. -/
theorem combin_nums (B : Nat) (A : Option Addr) (c : Nat) (n k : Nat) (w : World) (hr : Rd w B A (nvs [(n : Int), (k : Int)])) (hB : B ≤ w.heap.size) (hn : n ≤ 10) (hk : k ≤ n) :
    Calls Tryz.prog 21 #[.slice A 2 c] w fun e w' => e = .returned (.agg #[.int .i64 1, .float .f64 (fi (choose n k)), .string ⟨#[]⟩, .slice none 0 0]) ∧ Below w.heap.size w w' :=
  impl_COMBIN B A 2 c [n, k] (choose n k) w rfl (by omega) hr hB (fineTwo n k (by omega) (by omega)) fun g L es w h => combin_any g L es n k w h hn hk

theorem small_nat (n most : Int) (h : 0 ≤ most) : ∃ N : Nat, small n most = N ∧ (N : Int) ≤ most := by
  obtain ⟨h0, h1⟩ := small_bd n most h
  exact ⟨(small n most).toNat, by omega, by omega⟩

set_option maxRecDepth 100000 in
set_option maxHeartbeats 1600000 in
theorem fnCombin_walk (n k : Int) (w : World) (hn : -9223372036854775808 ≤ n ∧ n ≤ 9223372036854775807) (hk : -9223372036854775808 ≤ k ∧ k ≤ 9223372036854775807) :
    Calls Tryz.prog 4 #[.int .i64 n, .int .i64 k] w fun e w' => e = .returned (.bool true) ∧ Below w.heap.size w w' := by
  obtain ⟨N, hN, hN2⟩ := small_nat n 10 (by omega)
  obtain ⟨M, hM, hM2⟩ := small_nat k N (by omega)
  have HN := Lib.hid hN
  have HM := Lib.hid hM
  have H1 := Lib.hid hn
  have H2 := Lib.hid hk
  clear hN hM hn hk
  go_enter Tryz.func4, Tryz.ntmps4
  go_wp2_with fail
  refine (combSmall_any n 10 _ (by omega) (by omega) H1.out).mono ?_
  rintro e w1 ⟨rfl, rfl⟩
  rw [HN.out]
  go_wp2_with fail
  refine (combSmall_any k N _ (by omega) (by omega) H2.out).mono ?_
  rintro e w1 ⟨rfl, rfl⟩
  rw [HM.out]
  go_wp2_with fail
  have b0 := (Below.refl _ w).alloc (Nat.le_refl _) (.cells #[.int .i64 N, .int .i64 M] 3)
  have r0 := Rd.of_bk (Bk.new w 3 #[.int .i64 N, .int .i64 M]) ([(N : Int), (M : Int)].map (.int .i64)) rfl
  generalize w.alloc (.cells #[.int .i64 N, .int .i64 M] 3) = W at *
  refine (numArgs_any _ _ 2 2 [(N : Int), (M : Int)] _ rfl (by omega) r0 (Nat.le_refl _) (fitTwo N M (by omega) (by omega))).mono ?_
  rintro e w1 ⟨A1, c1, rfl, r1, b1⟩
  go_wp2_with fail
  refine (combin_nums _ A1 c1 N M _ r1 (Nat.le_refl _) (by omega) (by omega)).mono ?_
  rintro e w2 ⟨rfl, b2⟩
  go_wp2_with fail
  refine (combChoose_any N M _ (by omega) (by omega)).mono ?_
  rintro e w3 ⟨rfl, b3⟩
  go_wp2_with fail
  have hc := choose_lt N M (by omega) (by omega)
  refine (same_num _ _ _ (by omega) (by omega) (by omega) true (by simp)).mono ?_
  rintro e w4 ⟨rfl, b4⟩
  have s0 := b0.size
  have s1 := b1.size
  have s2 := b2.size
  have s3 := b3.size
  have s4 := b4.size
  have b := (((b0.trans (b1.mono (by omega))).trans (b2.mono (by omega))).trans (b3.mono (by omega))).trans (b4.mono (by omega))
  have s := b.size
  clear b0 b1 b2 b3 b4 s0 s1 s2 s3 s4 r0 r1
  go_wp2_with fail
  have b0 := b.alloc s (.cells #[.int .i64 5, .int .i64 2] 3)
  have r0 := Rd.of_bk (Bk.new w4 3 #[.int .i64 5, .int .i64 2]) ([((5 : Nat) : Int), ((2 : Nat) : Int)].map (.int .i64)) rfl
  generalize w4.alloc (.cells #[.int .i64 5, .int .i64 2] 3) = W2 at *
  refine (numArgs_any _ _ 2 2 [((5 : Nat) : Int), ((2 : Nat) : Int)] _ rfl (by omega) r0 (Nat.le_refl _) (fitTwo 5 2 (by omega) (by omega))).mono ?_
  rintro e w5 ⟨A2, c2, rfl, r1, b1⟩
  go_wp2_with fail
  refine (combin_nums _ A2 c2 5 2 _ r1 (Nat.le_refl _) (by omega) (by omega)).mono ?_
  rintro e w6 ⟨rfl, b2⟩
  go_wp2_with fail
  refine (int_any 10 _ (by omega) (by omega)).mono ?_
  rintro e w7 ⟨rfl, b3⟩
  go_wp2_with fail
  refine (same_num _ _ _ (by omega) (by omega) (by decide) true (by decide)).mono ?_
  rintro e w8 ⟨rfl, b4⟩
  have s0 := b0.size
  have s1 := b1.size
  have s2 := b2.size
  have s3 := b3.size
  have s4 := b4.size
  have bb := (((b0.trans (b1.mono (by omega))).trans (b2.mono (by omega))).trans (b3.mono (by omega))).trans (b4.mono (by omega))
  clear b0 b1 b2 b3 b4 s0 s1 s2 s3 s4 r0 r1 b s
  go_wp2
  go_ret
  exact ⟨rfl, bb⟩
end Go.Proofs.YtojicbajcebjjaaGreatDoor
