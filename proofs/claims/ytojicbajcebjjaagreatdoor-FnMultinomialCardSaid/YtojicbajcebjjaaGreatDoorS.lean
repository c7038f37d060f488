/-
  Numbers of divisions into parts, in plain Lean; the reference's number of choices for more numbers.
-/
import Derived.Test.YtojicbajcebjjaaGreatDoorR
namespace Go.Proofs.YtojicbajcebjjaaGreatDoor
open Go.RowKit
attribute [local go_sem] run_store_float

def sumTo (l : List Nat) (i : Nat) : Nat := (l.take i).sum
def facs (l : List Nat) : Nat := (l.map facN).foldr (· * ·) 1
def mulN (l : List Nat) : Nat → Nat
  | 0 => 1
  | i + 1 => mulN l i * choose (sumTo l (i + 1)) (l.getD i 0)

theorem facs_snoc (l : List Nat) (x : Nat) : facs (l ++ [x]) = facs l * facN x := by
  unfold facs
  induction l with
  | nil => simp
  | cons a l ih => simp only [List.cons_append, List.map_cons, List.foldr_cons, ih, Nat.mul_assoc]

theorem sumTo_succ (l : List Nat) (i : Nat) (x : Nat) (h : l[i]? = some x) : sumTo l (i + 1) = sumTo l i + x := by
  obtain ⟨hk, rfl⟩ := List.getElem?_eq_some_iff.1 h
  unfold sumTo
  rw [List.take_succ_eq_append_getElem hk, List.sum_append]
  simp
theorem facs_succ (l : List Nat) (i : Nat) (x : Nat) (h : l[i]? = some x) : facs (l.take (i + 1)) = facs (l.take i) * facN x := by
  obtain ⟨hk, rfl⟩ := List.getElem?_eq_some_iff.1 h
  rw [List.take_succ_eq_append_getElem hk, facs_snoc]
theorem mulN_succ (l : List Nat) (i : Nat) (x : Nat) (h : l[i]? = some x) : mulN l (i + 1) = mulN l i * choose (sumTo l i + x) x := by
  show mulN l i * choose (sumTo l (i + 1)) (l.getD i 0) = _
  rw [sumTo_succ l i x h, List.getD_eq_getElem?_getD, h]
  rfl

theorem cf_tbl : (List.range 17).all (fun a => (List.range 6).all fun b => decide (a + b ≤ 16 → choose (a + b) b * facN b * facN a = facN (a + b))) = true := by decide +kernel
theorem cf (a b : Nat) (hb : b ≤ 5) (hab : a + b ≤ 16) : choose (a + b) b * facN b * facN a = facN (a + b) := by
  have := List.all_eq_true.1 cf_tbl a (by simp; omega)
  have := List.all_eq_true.1 this b (by simp; omega)
  exact (of_decide_eq_true this) hab

theorem sumTo_mono (l : List Nat) (i : Nat) : sumTo l i ≤ l.sum := by
  unfold sumTo
  calc (l.take i).sum ≤ (l.take i).sum + (l.drop i).sum := Nat.le_add_right _ _
    _ = l.sum := by rw [← List.sum_append, List.take_append_drop]

theorem mul_facs (l : List Nat) (h5 : ∀ x ∈ l, x ≤ 5) (hs : l.sum ≤ 16) : ∀ i, i ≤ l.length → mulN l i * facs (l.take i) = facN (sumTo l i) := by
  intro i
  induction i with
  | zero => intro _; rfl
  | succ i ih =>
    intro hi
    obtain ⟨x, hx⟩ : ∃ x, l[i]? = some x := ⟨_, List.getElem?_eq_getElem (by omega)⟩
    have hx5 := h5 x (List.mem_of_getElem? hx)
    have hsm := sumTo_mono l (i + 1)
    rw [sumTo_succ l i x hx] at hsm
    rw [mulN_succ l i x hx, facs_succ l i x hx, sumTo_succ l i x hx, ← cf (sumTo l i) x hx5 (by omega), ← ih (by omega)]
    simp only [Nat.mul_assoc, Nat.mul_comm, Nat.mul_left_comm]

/-- a bound of the product behind i parts -/
def mB : Nat → Nat
  | 0 => 1
  | 1 => 1
  | 2 => 252
  | 3 => 756756
  | _ => 11732745024
theorem mB_tbl : (List.range 4).all (fun i => (List.range (5 * i + 1)).all fun n => (List.range 6).all fun k => decide (mB i * choose (n + k) k ≤ mB (i + 1) ∧ 1 ≤ choose (n + k) k)) = true := by decide +kernel
theorem mB_of (i n k : Nat) (hi : i < 4) (hn : n ≤ 5 * i) (hk : k ≤ 5) : mB i * choose (n + k) k ≤ mB (i + 1) ∧ 1 ≤ choose (n + k) k := by
  have := List.all_eq_true.1 mB_tbl i (by simp; omega)
  have := List.all_eq_true.1 this n (by simp; omega)
  have := List.all_eq_true.1 this k (by simp; omega)
  exact of_decide_eq_true this
theorem sumTo_le (l : List Nat) (h5 : ∀ x ∈ l, x ≤ 5) : ∀ i, i ≤ l.length → sumTo l i ≤ 5 * i := by
  intro i
  induction i with
  | zero => intro _; exact Nat.le_refl 0
  | succ i ih =>
    intro hi
    obtain ⟨x, hx⟩ : ∃ x, l[i]? = some x := ⟨_, List.getElem?_eq_getElem (by omega)⟩
    have := h5 x (List.mem_of_getElem? hx)
    have := ih (by omega)
    rw [sumTo_succ l i x hx]; omega
theorem mul_le (l : List Nat) (h5 : ∀ x ∈ l, x ≤ 5) (hl : l.length ≤ 4) : ∀ i, i ≤ l.length → mulN l i ≤ mB i ∧ 1 ≤ mulN l i := by
  intro i
  induction i with
  | zero => intro _; exact ⟨Nat.le_refl _, Nat.le_refl _⟩
  | succ i ih =>
    intro hi
    obtain ⟨x, hx⟩ : ∃ x, l[i]? = some x := ⟨_, List.getElem?_eq_getElem (by omega)⟩
    obtain ⟨h1, h2⟩ := mB_of i (sumTo l i) x (by omega) (sumTo_le l h5 i (by omega)) (h5 x (List.mem_of_getElem? hx))
    obtain ⟨h3, h4⟩ := ih (by omega)
    rw [mulN_succ l i x hx]
    exact ⟨Nat.le_trans (Nat.mul_le_mul_right _ h3) h1, Nat.mul_le_mul h4 h2⟩
theorem mB_le (i : Nat) : mB i ≤ 11732745024 := by unfold mB; split <;> omega

theorem facN_pos (n : Nat) : 1 ≤ facN n := by
  induction n with
  | zero => exact Nat.le_refl 1
  | succ n ih => show 1 ≤ (n + 1) * facN n; exact Nat.mul_le_mul (show 1 ≤ n + 1 by omega) ih
theorem facs_pos (l : List Nat) : 1 ≤ facs l := by
  unfold facs
  induction l with
  | nil => exact Nat.le_refl 1
  | cons a l ih => simp only [List.map_cons, List.foldr_cons]; exact Nat.mul_le_mul (facN_pos a) ih
theorem facs_rev (l : List Nat) : facs l.reverse = facs l := by
  induction l with
  | nil => rfl
  | cons a l ih =>
    rw [List.reverse_cons, facs_snoc, ih]
    show _ = facN a * facs l
    rw [Nat.mul_comm]
theorem mul_rev (l : List Nat) (h5 : ∀ x ∈ l, x ≤ 5) (hs : l.sum ≤ 16) : mulN l.reverse l.length = mulN l l.length := by
  have h1 := mul_facs l h5 hs l.length (Nat.le_refl _)
  have h2 := mul_facs l.reverse (fun x hx => h5 x (List.mem_reverse.1 hx)) (by simpa using hs) l.length (by simp)
  unfold sumTo at h1 h2
  rw [List.take_of_length_le (by simp)] at h1 h2
  rw [facs_rev, List.sum_reverse, ← h1] at h2
  exact Nat.eq_of_mul_eq_mul_right (facs_pos l) h2

theorem mul_two (a b : Nat) (ha : a ≤ 5) (hb : b ≤ 5) : mulN [a, b] 2 = choose (a + b) a := by
  have h := choose_sym (a + b) a (by omega) (by omega)
  rw [show a + b - a = b by omega] at h
  rw [mulN_succ [a, b] 1 b rfl, mulN_succ [a, b] 0 a rfl]
  rw [show sumTo [a, b] 0 = 0 from rfl, show sumTo [a, b] 1 = a by simp [sumTo], Nat.zero_add, choose_self, show mulN [a, b] 0 = 1 from rfl, Nat.one_mul, h]

-- the reference's loop over more numbers
theorem cm_tbl : (List.range 21).all (fun m => (List.range 6).all fun i => decide (m + i ≤ 20 → 1 ≤ i → choose (m + i - 1) (i - 1) * (m + i) / i = choose (m + i) i ∧ choose (m + i - 1) (i - 1) * (m + i) ≤ 100000)) = true := by decide +kernel
theorem cm_step (m i : Nat) (h : m + i ≤ 20) (h5 : i ≤ 5) (hi : 1 ≤ i) : choose (m + i - 1) (i - 1) * (m + i) / i = choose (m + i) i ∧ choose (m + i - 1) (i - 1) * (m + i) ≤ 100000 := by
  have := List.all_eq_true.1 cm_tbl m (by simp; omega)
  have := List.all_eq_true.1 this i (by simp; omega)
  exact (of_decide_eq_true this) h hi
theorem cm_sym_tbl : (List.range 21).all (fun n => (List.range 6).all fun k => decide (k ≤ n → choose n (min k (n - k)) = choose n k)) = true := by decide +kernel
theorem cm_sym (n k : Nat) (hn : n ≤ 20) (h5 : k ≤ 5) (hk : k ≤ n) : choose n (min k (n - k)) = choose n k := by
  have := List.all_eq_true.1 cm_sym_tbl n (by simp; omega)
  have := List.all_eq_true.1 this k (by simp; omega)
  exact (of_decide_eq_true this) hk
theorem cm_le_tbl : (List.range 21).all (fun m => (List.range 6).all fun i => decide (m + i ≤ 20 → choose (m + i) i ≤ 15504)) = true := by decide +kernel
theorem cm_le (m i : Nat) (h : m + i ≤ 20) (h5 : i ≤ 5) : choose (m + i) i ≤ 15504 := by
  have := List.all_eq_true.1 cm_le_tbl m (by simp; omega)
  have := List.all_eq_true.1 this i (by simp; omega)
  exact (of_decide_eq_true this) h

set_option maxRecDepth 100000 in
set_option maxHeartbeats 1600000 in
theorem chosenMore_walk (m j : Nat) (K : Int) (w : World) (hn : m + j ≤ 20) (h5 : j ≤ 5) (hj : j ≤ m) (hk : K = j ∨ (K = m ∧ j < m)) :
    Calls Tryz.prog 50 #[.int .i64 (m + j : Int), .int .i64 K] w fun e w' => e = .returned (.agg #[.int .i64 1, .int .i64 ((choose (m + j) j : Nat)), .int .i64 1, .string ⟨#[]⟩, .slice none 0 0]) ∧ Below w.heap.size w w' := by
  have R1 := Bk.new w 29 #[.int .i64 0, .int .i64 0, .int .i64 0, .string ⟨#[]⟩, .slice none 0 0]
  have bz := (Below.refl _ w).alloc (Nat.le_refl _) (.cells #[.int .i64 0, .int .i64 0, .int .i64 0, .string ⟨#[]⟩, .slice none 0 0] 29)
  have s0 : w.heap.size < (w.alloc (.cells #[.int .i64 0, .int .i64 0, .int .i64 0, .string ⟨#[]⟩, .slice none 0 0] 29)).heap.size := by simp
  have hc1 : (m : Int) + j - m = j := by omega
  have hc2 : (m : Int) + j - j = m := by omega
  rcases hk with rfl | ⟨rfl, hjm⟩
  all_goals
    go_enter Tryz.func50, Tryz.ntmps50
    go_wp2_with fail
    generalize w.alloc (.cells #[.int .i64 0, .int .i64 0, .int .i64 0, .string ⟨#[]⟩, .slice none 0 0] 29) = W at *
    go_loop [5, 6] (fun o i => ∃ t : Nat, 1 ≤ t ∧ t ≤ j + 1 ∧ i = .int .i64 t ∧ o = .int .i64 (choose (m + t - 1) (t - 1) : Nat)) (fun _ i => j + 1 - (intOf i).toNat)
    case atStart => exact ⟨1, by omega, by omega, rfl, by cases m <;> rfl⟩
    case round =>
      obtain ⟨t, h1, h2, rfl, rfl⟩ := hrel
      by_cases hlt : t ≤ j
      · obtain ⟨e1, e2⟩ := cm_step m t (by omega) (by omega) h1
        generalize hO : choose (m + t - 1) (t - 1) = O at *
        clear hO
        have E1 := Lib.hid e1
        obtain ⟨e3, e4⟩ := ch_cast O m t e2
        clear e1 e2
        go_wp2
        go_round
        case rel => exact ⟨t + 1, by omega, by omega, by go_num, val_int (by rw [show m + (t + 1) - 1 = m + t by omega, Nat.add_sub_cancel, ← E1.out, Int.natCast_ediv, Int.natCast_mul, Int.natCast_add])⟩
        case measure => simp [intOf]; omega
      · obtain rfl : t = j + 1 := by omega
        have hle := cm_le m j hn h5
        rw [show m + (j + 1) - 1 = m + j by omega, Nat.add_sub_cancel]
        have e0 := Int.natCast_nonneg (choose (m + j) j)
        go_wp2_with fail
        refine (int_any _ _ (by omega) (by omega)).mono ?_
        rintro e w4 ⟨rfl, b4⟩
        have R4 := R1.later b4
        have r4 := fun i => R4.cell i
        have q4 := fun i => R4.frozen i
        go_wp2
        refine bodyPost_ret (v := (.agg #[.int .i64 1, .int .i64 ((choose (m + j) j : Nat)), .int .i64 1, .string ⟨#[]⟩, .slice none 0 0])) (by simp [results, Tryz.results50, go_sem, r4]) rfl ⟨rfl, ?_⟩
        repeat refine Below.setCell ?_ (by simp) _
        exact bz.trans (b4.mono (by omega))

theorem chosenMore_any (n k : Nat) (w : World) (hn : n ≤ 20) (h5 : k ≤ 5) (hk : k ≤ n) :
    Calls Tryz.prog 50 #[.int .i64 n, .int .i64 k] w fun e w' => e = .returned (.agg #[.int .i64 1, .int .i64 ((choose n k : Nat)), .int .i64 1, .string ⟨#[]⟩, .slice none 0 0]) ∧ Below w.heap.size w w' := by
  obtain ⟨r, rfl⟩ : ∃ r, n = r + k := ⟨n - k, by omega⟩
  by_cases h : k ≤ r
  · have := chosenMore_walk r k k w hn h5 h (.inl rfl)
    rwa [show ((r : Int) + k) = ((r + k : Nat) : Int) by omega] at this
  · have := chosenMore_walk k r k w (by omega) (by omega) (by omega) (.inr ⟨rfl, by omega⟩)
    rw [show ((k : Int) + r) = ((r + k : Nat) : Int) by omega] at this
    have e := cm_sym (r + k) k hn h5 hk
    rw [show min k (r + k - k) = r by omega] at e
    rw [show k + r = r + k by omega, e] at this
    exact this

end Go.Proofs.YtojicbajcebjjaaGreatDoor
