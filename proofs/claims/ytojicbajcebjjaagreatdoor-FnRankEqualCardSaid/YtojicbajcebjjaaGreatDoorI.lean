/-
  The reference's number of choices.
-/
import Derived.Test.YtojicbajcebjjaaGreatDoorG
namespace Go.Proofs.YtojicbajcebjjaaGreatDoor
open Go.RowKit
attribute [local go_sem] run_store_float

theorem ch_tbl : (List.range 11).all (fun m => (List.range 11).all fun i => decide (m + i ≤ 10 → 1 ≤ i → choose (m + i - 1) (i - 1) * (m + i) / i = choose (m + i) i ∧ choose (m + i - 1) (i - 1) * (m + i) ≤ 100000)) = true := by decide +kernel
theorem ch_step (m i : Nat) (h : m + i ≤ 10) (hi : 1 ≤ i) : choose (m + i - 1) (i - 1) * (m + i) / i = choose (m + i) i ∧ choose (m + i - 1) (i - 1) * (m + i) ≤ 100000 := by
  have := List.all_eq_true.1 ch_tbl m (by simp; omega)
  have := List.all_eq_true.1 this i (by simp; omega)
  exact (of_decide_eq_true this) h hi
theorem ch_sym_tbl : (List.range 11).all (fun n => (List.range (n + 1)).all fun k => decide (choose n (min k (n - k)) = choose n k)) = true := by decide +kernel
theorem ch_sym (n k : Nat) (hn : n ≤ 10) (hk : k ≤ n) : choose n (min k (n - k)) = choose n k := by
  have := List.all_eq_true.1 ch_sym_tbl n (by simp; omega)
  have := List.all_eq_true.1 this k (by simp; omega)
  exact of_decide_eq_true this

theorem ch_pos_tbl : (List.range 11).all (fun m => (List.range 11).all fun i => decide (m + i ≤ 10 → choose (m + i) i ≤ 1000)) = true := by decide +kernel
theorem ch_le (m i : Nat) (h : m + i ≤ 10) : choose (m + i) i ≤ 1000 := by
  have := List.all_eq_true.1 ch_pos_tbl m (by simp; omega)
  have := List.all_eq_true.1 this i (by simp; omega)
  exact (of_decide_eq_true this) h

theorem val_int {a b : Int} (h : a = b) : Value.int .i64 a = Value.int .i64 b := by rw [h]

theorem ch_cast (O m t : Nat) (h : O * (m + t) ≤ 100000) : (O : Int) * ((m : Int) + t) ≤ 100000 ∧ 0 ≤ (O : Int) * ((m : Int) + t) := by
  have h2 : ((O * (m + t) : Nat) : Int) ≤ 100000 := by omega
  rw [Int.natCast_mul, Int.natCast_add] at h2
  exact ⟨h2, Int.mul_nonneg (by omega) (by omega)⟩

set_option maxRecDepth 100000 in
set_option maxHeartbeats 1600000 in
theorem chosen_walk (m j : Nat) (K : Int) (w : World) (hn : m + j ≤ 10) (hj : j ≤ m) (hk : K = j ∨ (K = m ∧ j < m)) :
    Calls Tryz.prog 50 #[.int .i64 (m + j : Int), .int .i64 K] w fun e w' => e = .returned (.agg #[.int .i64 1, .int .i64 ((choose (m + j) j : Nat)), .int .i64 1, .string ⟨#[]⟩, .slice none 0 0]) ∧ Below w.heap.size w w' := by
  have R1 := Bk.new w 29 #[.int .i64 0, .int .i64 0, .int .i64 0, .string ⟨#[]⟩, .slice none 0 0]
  have bz := (Below.refl _ w).alloc (Nat.le_refl _) (.cells #[.int .i64 0, .int .i64 0, .int .i64 0, .string ⟨#[]⟩, .slice none 0 0] 29)
  have s0 : w.heap.size < (w.alloc (.cells #[.int .i64 0, .int .i64 0, .int .i64 0, .string ⟨#[]⟩, .slice none 0 0] 29)).heap.size := by simp
  have hc1 : (m : Int) + j - m = j := by omega
  have hc2 : (m : Int) + j - j = m := by omega
  rcases hk with rfl | ⟨rfl, hjm⟩
  all_goals
    go_enter Tryz.func50, Tryz.ntmps50
    go_wp2_with fail
    generalize w.alloc (.cells #[.int .i64 0, .int .i64 0, .int .i64 0, .string ⟨#[]⟩, .slice none 0 0] 29) = W at *
    go_loop [5, 6] (fun o i => ∃ t : Nat, 1 ≤ t ∧ t ≤ j + 1 ∧ i = .int .i64 t ∧ o = .int .i64 (choose (m + t - 1) (t - 1) : Nat)) (fun _ i => j + 1 - (intOf i).toNat)
    case atStart => exact ⟨1, by omega, by omega, rfl, by cases m <;> rfl⟩
    case round =>
      obtain ⟨t, h1, h2, rfl, rfl⟩ := hrel
      by_cases hlt : t ≤ j
      · obtain ⟨e1, e2⟩ := ch_step m t (by omega) h1
        generalize hO : choose (m + t - 1) (t - 1) = O at *
        clear hO
        have E1 := Lib.hid e1
        obtain ⟨e3, e4⟩ := ch_cast O m t e2
        clear e1 e2
        go_wp2
        go_round
        case rel => exact ⟨t + 1, by omega, by omega, by go_num, val_int (by rw [show m + (t + 1) - 1 = m + t by omega, Nat.add_sub_cancel, ← E1.out, Int.natCast_ediv, Int.natCast_mul, Int.natCast_add])⟩
        case measure => simp [intOf]; omega
      · obtain rfl : t = j + 1 := by omega
        have hle := ch_le m j hn
        rw [show m + (j + 1) - 1 = m + j by omega, Nat.add_sub_cancel]
        have e0 := Int.natCast_nonneg (choose (m + j) j)
        go_wp2_with fail
        refine (int_any _ _ (by omega) (by omega)).mono ?_
        rintro e w4 ⟨rfl, b4⟩
        have R4 := R1.later b4
        have r4 := fun i => R4.cell i
        have q4 := fun i => R4.frozen i
        go_wp2
        refine bodyPost_ret (v := (.agg #[.int .i64 1, .int .i64 ((choose (m + j) j : Nat)), .int .i64 1, .string ⟨#[]⟩, .slice none 0 0])) (by simp [results, Tryz.results50, go_sem, r4]) rfl ⟨rfl, ?_⟩
        repeat refine Below.setCell ?_ (by simp) _
        exact bz.trans (b4.mono (by omega))

theorem chosen_any (n k : Nat) (w : World) (hn : n ≤ 10) (hk : k ≤ n) :
    Calls Tryz.prog 50 #[.int .i64 n, .int .i64 k] w fun e w' => e = .returned (.agg #[.int .i64 1, .int .i64 ((choose n k : Nat)), .int .i64 1, .string ⟨#[]⟩, .slice none 0 0]) ∧ Below w.heap.size w w' := by
  obtain ⟨r, rfl⟩ : ∃ r, n = r + k := ⟨n - k, by omega⟩
  by_cases h : k ≤ r
  · have := chosen_walk r k k w hn h (.inl rfl)
    rwa [show ((r : Int) + k) = ((r + k : Nat) : Int) by omega] at this
  · have := chosen_walk k r k w (by omega) (by omega) (.inr ⟨rfl, by omega⟩)
    rw [show ((k : Int) + r) = ((r + k : Nat) : Int) by omega] at this
    have e := ch_sym (r + k) k hn hk
    rw [show min k (r + k - k) = r by omega] at e
    rw [show k + r = r + k by omega, e] at this
    exact this

set_option maxHeartbeats 800000 in
theorem combChoose_any (n k : Nat) (w : World) (hn : n ≤ 10) (hk : k ≤ n) :
    Calls Tryz.prog 23 #[.int .i64 n, .int .i64 k] w fun e w' => e = .returned (.agg #[.int .i64 1, .int .i64 ((choose n k : Nat)), .int .i64 1, .string ⟨#[]⟩, .slice none 0 0]) ∧ Below w.heap.size w w' := by
  have R1 := Bk.new w 29 #[.int .i64 0, .int .i64 0, .int .i64 0, .string ⟨#[]⟩, .slice none 0 0]
  have bz := (Below.refl _ w).alloc (Nat.le_refl _) (.cells #[.int .i64 0, .int .i64 0, .int .i64 0, .string ⟨#[]⟩, .slice none 0 0] 29)
  have s0 : w.heap.size < (w.alloc (.cells #[.int .i64 0, .int .i64 0, .int .i64 0, .string ⟨#[]⟩, .slice none 0 0] 29)).heap.size := by simp
  go_enter Tryz.func23, Tryz.ntmps23
  go_wp2_with fail
  generalize w.alloc (.cells #[.int .i64 0, .int .i64 0, .int .i64 0, .string ⟨#[]⟩, .slice none 0 0] 29) = W at *
  refine (chosen_any n k _ hn hk).mono ?_
  rintro e w4 ⟨rfl, b4⟩
  have R4 := R1.later b4
  have r4 := fun i => R4.cell i
  have q4 := fun i => R4.frozen i
  go_wp2
  refine bodyPost_ret (v := (.agg #[.int .i64 1, .int .i64 ((choose n k : Nat)), .int .i64 1, .string ⟨#[]⟩, .slice none 0 0])) (by simp [results, Tryz.results23, go_sem, r4]) rfl ⟨rfl, ?_⟩
  repeat refine Below.setCell ?_ (by simp) _
  exact bz.trans (b4.mono (by omega))
end Go.Proofs.YtojicbajcebjjaaGreatDoor
