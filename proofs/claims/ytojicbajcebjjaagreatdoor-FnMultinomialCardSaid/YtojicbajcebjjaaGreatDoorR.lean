/-
  The law FnPermut, walked.
-/
import Derived.Test.YtojicbajcebjjaaGreatDoorQ
import Derived.Deep.RegionHeld3
namespace Go.Proofs.YtojicbajcebjjaaGreatDoor
open Go.RowKit
attribute [local go_sem] run_store_float

theorem permut_ints (B : Nat) (A : Option Addr) (c : Nat) (n k : Nat) (w : World) (hr : Rd w B A (nvs [(n : Int), (k : Int)])) (hB : B ≤ w.heap.size) (hn : n ≤ 9) (hk : k ≤ n) :
    Calls Tryz.prog 36 #[.slice A 2 c] w fun e w' => e = .returned (.agg #[.int .i64 1, .float .f64 (fi (fallN n k)), .string ⟨#[]⟩, .slice none 0 0]) ∧ Below w.heap.size w w' :=
  impl_PERMUT B A 2 c [n, k] (fallN n k) w rfl (by omega) hr hB (fineTwo n k (by omega) (by omega)) fun g L es w h => permut_method g L es n k w h hn hk

theorem fact_int (B : Nat) (A : Option Addr) (c : Nat) (n : Nat) (w : World) (hr : Rd w B A (nvs [(n : Int)])) (hB : B ≤ w.heap.size) (hn : n ≤ 17) :
    Calls Tryz.prog 37 #[.slice A 1 c] w fun e w' => e = .returned (.agg #[.int .i64 1, .float .f64 (fi (facN n)), .string ⟨#[]⟩, .slice none 0 0]) ∧ Below w.heap.size w w' :=
  impl_FACT B A 1 c [n] (facN n) w rfl (by omega) hr hB (by intro m hm; simp at hm; subst hm; omega) fun g L es w h => fact_method g L es n w h hn

/-- What stands through the last statement: the reference's number lies in block g. -/
abbrev Holds (w : World) (g : Nat) (n : Int) (w' : World) : Prop :=
  Bk w' g 29 #[.int .i64 1, .int .i64 n, .int .i64 1, .string ⟨#[]⟩, .slice none 0 0] ∧ (Below w.heap.size w w' ∧ w.heap.size ≤ w'.heap.size) ∧
  w'.cell? ⟨g, 0, none⟩ = some (.int .i64 1) ∧ w'.cell? ⟨g, 1, none⟩ = some (.int .i64 n) ∧ w'.cell? ⟨g, 2, none⟩ = some (.int .i64 1) ∧ w'.cell? ⟨g, 3, none⟩ = some (.string ⟨#[]⟩) ∧ w'.cell? ⟨g, 4, none⟩ = some (.slice none 0 0)
theorem Holds.mk' {w w' : World} {g : Nat} {n : Int} (h : Bk w' g 29 #[.int .i64 1, .int .i64 n, .int .i64 1, .string ⟨#[]⟩, .slice none 0 0]) (hb : Below w.heap.size w w') (hs : w.heap.size ≤ w'.heap.size) : Holds w g n w' :=
  ⟨h, ⟨hb, hs⟩, h.cell 0, h.cell 1, h.cell 2, h.cell 3, h.cell 4⟩
theorem Holds.alloc {w w' : World} {g : Nat} {n : Int} (h : Holds w g n w') (o : Obj) : Holds w g n (w'.alloc o) :=
  .mk' (h.1.alloc o) (h.2.1.1.alloc h.2.1.2 o) (by have := h.2.1.2; simp; omega)
theorem Holds.drew {w w' : World} {g : Nat} {n : Int} (h : Holds w g n w') : Holds w g n w'.drew :=
  .mk' h.1 ⟨h.2.1.1.os, h.2.1.1.tape, h.2.1.1.output, h.2.1.1.size, h.2.1.1.block⟩ h.2.1.2
theorem Holds.later {w w1 w2 : World} {g : Nat} {n : Int} (h : Holds w g n w1) (hb : Below w1.heap.size w1 w2) : Holds w g n w2 :=
  .mk' (h.1.later hb) (h.2.1.1.trans (hb.mono h.2.1.2)) (Nat.le_trans h.2.1.2 hb.size)

set_option maxRecDepth 100000 in
set_option maxHeartbeats 1600000 in
theorem fnPermut_walk (n k : Int) (w : World) (hn : -9223372036854775808 ≤ n ∧ n ≤ 9223372036854775807) (hk : -9223372036854775808 ≤ k ∧ k ≤ 9223372036854775807) :
    Calls Tryz.prog 9 #[.int .i64 n, .int .i64 k] w fun e w' => e = .returned (.bool true) ∧ Below w.heap.size w w' := by
  obtain ⟨N, hN, hN2⟩ := small_nat n 9 (by omega)
  obtain ⟨M, hM, hM2⟩ := small_nat k N (by omega)
  have HN := Lib.hid hN
  have HM := Lib.hid hM
  have H1 := Lib.hid hn
  have H2 := Lib.hid hk
  clear hN hM hn hk
  have b := Below.refl w.heap.size w
  have s := b.size
  go_enter Tryz.func9, Tryz.ntmps9
  go_wp2_with fail
  refine (combSmall_any n 9 _ (by omega) (by omega) H1.out).mono ?_
  rintro e w1 ⟨rfl, rfl⟩
  rw [HN.out]
  go_wp2_with fail
  refine (combSmall_any k N _ (by omega) (by omega) H2.out).mono ?_
  rintro e w1 ⟨rfl, rfl⟩
  rw [HM.out]
  obtain ⟨⟨_, g2, g3, g4⟩, _⟩ := fallOk_of N M (by omega) (by omega)
  have gf := fac_lt M (by omega)
  -- PERMUT
  go_wp2_with fail
  have b0 := b.alloc s (.cells #[.int .i64 N, .int .i64 M] 3)
  have r0 := Rd.of_bk (Bk.new w 3 #[.int .i64 N, .int .i64 M]) ([(N : Int), (M : Int)].map (.int .i64)) rfl
  have s := b0.size
  generalize World.alloc w (.cells #[.int .i64 N, .int .i64 M] 3) = W0 at *
  refine (numArgs_any _ _ 2 2 [(N : Int), (M : Int)] _ rfl (by omega) r0 (Nat.le_refl _) (fitTwoI _ _ (by omega) (by omega) (by omega) (by omega))).mono ?_
  rintro e w1 ⟨A1, c1, rfl, r1, b1⟩
  have b := b0.trans (b1.mono s)
  have s := b.size
  clear b0 b1 r0
  go_wp2_with fail
  refine (permut_ints _ A1 c1 N M _ r1 (Nat.le_refl _) (by omega) (by omega)).mono ?_
  rintro e w2 ⟨rfl, b1⟩
  have b := b.trans (b1.mono s)
  have s := b.size
  clear b1 r1
  go_wp2_with fail
  refine (combNum_any _ _ (by omega) (by omega)).mono ?_
  rintro e v1 ⟨rfl, b1⟩
  have b := b.trans (b1.mono s)
  have s := b.size
  clear b1
  -- COMBIN
  go_wp2_with fail
  have b0 := b.alloc s (.cells #[.int .i64 ((N : Int)), .int .i64 ((M : Int))] 3)
  have r0 := Rd.of_bk (Bk.new v1 3 #[.int .i64 ((N : Int)), .int .i64 ((M : Int))]) ([((N : Int) : Int), ((M : Int) : Int)].map (.int .i64)) rfl
  have s := b0.size
  generalize World.alloc v1 (.cells #[.int .i64 ((N : Int)), .int .i64 ((M : Int))] 3) = W0 at *
  refine (numArgs_any _ _ 2 2 [((N : Int) : Int), ((M : Int) : Int)] _ rfl (by omega) r0 (Nat.le_refl _) (fitTwoI _ _ (by omega) (by omega) (by omega) (by omega))).mono ?_
  rintro e w1 ⟨A1, c1, rfl, r1, b1⟩
  have b := b0.trans (b1.mono s)
  have s := b.size
  clear b0 b1 r0
  go_wp2_with fail
  refine (combin_ints _ A1 c1 _ _ (N) (M) _ r1 (Nat.le_refl _) (by omega) (by omega) (by omega) (by omega)).mono ?_
  rintro e w2 ⟨rfl, b1⟩
  have b := b.trans (b1.mono s)
  have s := b.size
  clear b1 r1
  go_wp2_with fail
  have hle := choose_lt (N) (M) (by omega) (by omega)
  refine (combNum_any _ _ (by omega) (by omega)).mono ?_
  rintro e v2 ⟨rfl, b1⟩
  have b := b.trans (b1.mono s)
  have s := b.size
  clear b1 hle

  -- FACT
  go_wp2_with fail
  have b0 := b.alloc s (.cells #[.int .i64 M] 3)
  have r0 := Rd.of_bk (Bk.new v2 3 #[.int .i64 M]) ([(M : Int)].map (.int .i64)) rfl
  have s := b0.size
  generalize World.alloc v2 (.cells #[.int .i64 M] 3) = W0 at *
  refine (numArgs_any _ _ 1 1 [(M : Int)] _ rfl (by omega) r0 (Nat.le_refl _) (by intro m hm; simp at hm; subst hm; omega)).mono ?_
  rintro e w1 ⟨A1, c1, rfl, r1, b1⟩
  have b := b0.trans (b1.mono s)
  have s := b.size
  clear b0 b1 r0
  go_wp2_with fail
  refine (fact_int _ A1 c1 M _ r1 (Nat.le_refl _) (by omega)).mono ?_
  rintro e w2 ⟨rfl, b1⟩
  have b := b.trans (b1.mono s)
  have s := b.size
  clear b1 r1
  have gc := choose_lt N M (by omega) (by omega)
  have gm : facN M ≤ 1000000 := by
    have h0 : 1 ≤ choose N M := by
      rcases Nat.eq_zero_or_pos (choose N M) with h | h
      · rw [h, Nat.zero_mul] at g4; omega
      · exact h
    have : facN M ≤ choose N M * facN M := Nat.le_mul_of_pos_left _ h0
    omega
  go_wp2_with fail
  refine (combNum_any _ _ (by omega) (by omega)).mono ?_
  rintro e v3 ⟨rfl, b1⟩
  have b := b.trans (b1.mono s)
  have s := b.size
  clear b1
  go_wp2_with fail
  refine (combFalling_any N M _ (by omega) (by omega)).mono ?_
  rintro e v4 ⟨rfl, b1⟩
  have b := b.trans (b1.mono s)
  have s := b.size
  clear b1
  have hprod : ((choose N M : Nat) : Int) * (facN M : Nat) = (fallN N M : Nat) := by rw [g4, Int.natCast_mul]
  have hpm := fun (B : Nat) (A : Option Addr) (c : Nat) (w : World) hr hB => permut_ints B A c N M w hr hB (by omega) (by omega)
  have HFT := fitTwoI (N : Int) (M : Int) (by omega) (by omega) (by omega) (by omega)
  clear g4 gm gf gc g2 HN HM H1 H2 hN2 hM2
  generalize choose N M = X at *
  generalize facN M = Y at *
  generalize fallN N M = Z at *
  go_wp2_with fail
  have hh : Holds w v4.heap.size (Z : Nat) (v4.alloc (.cells #[.int .i64 1, .int .i64 (Z : Nat), .int .i64 1, .string ⟨#[]⟩, .slice none 0 0] 29)) :=
    .mk' (Bk.new v4 29 _) (b.alloc s _) (by simp; omega)
  generalize v4.alloc (.cells #[.int .i64 1, .int .i64 (Z : Nat), .int .i64 1, .string ⟨#[]⟩, .slice none 0 0] 29) = W1 at *
  generalize v4.heap.size = g at *
  clear b s
  have hwr : IntKind.i64.wrap ((X : Int) * (Y : Nat)) = (Z : Nat) := by
    rw [hprod]
    exact IntWalk.i64_in _ (by omega)
  clear hprod
  go_region_held3 (fun w' => Bk w' g 29 #[.int .i64 1, .int .i64 (Z : Nat), .int .i64 1, .string ⟨#[]⟩, .slice none 0 0] ∧ (Below w.heap.size w w' ∧ w.heap.size ≤ w'.heap.size) ∧
      w'.cell? ⟨g, 0, none⟩ = some (.int .i64 1) ∧ w'.cell? ⟨g, 1, none⟩ = some (.int .i64 (Z : Nat)) ∧ w'.cell? ⟨g, 2, none⟩ = some (.int .i64 1) ∧ w'.cell? ⟨g, 3, none⟩ = some (.string ⟨#[]⟩) ∧ w'.cell? ⟨g, 4, none⟩ = some (.slice none 0 0))
    (first
      | exact Holds.drew hh
      | exact Holds.alloc (by assumption) _
      | exact Holds.later (by assumption) (by assumption))
    (first
      | (go_at_call 27; refine (doubtful_num _ _).mono ?_; rintro e w2 ⟨rfl, b1⟩)
      | (go_at_call 22; refine (numArgs_any _ _ 2 2 [(N : Int), (M : Int)] _ rfl (by omega) (Rd.of_bk (Bk.new _ 3 _) _ rfl) (Nat.le_refl _) HFT).mono ?_; rintro e w2 ⟨A1, c1, rfl, r1, b1⟩)
      | (go_at_call 36; refine (hpm _ _ _ _ (by assumption) (Nat.le_refl _)).mono ?_; rintro e w2 ⟨rfl, b1⟩)
      | (go_at_call 15; refine (same_num _ _ _ (by omega) (by omega) (by omega) true (by simp)).mono ?_; rintro e w2 ⟨rfl, b1⟩))
  rename_i hlast
  have bb := hlast.2.1.1
  clear hlast
  go_wp2
  go_ret
  exact ⟨rfl, bb⟩
end Go.Proofs.YtojicbajcebjjaaGreatDoor
