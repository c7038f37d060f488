/-
  Numbers as formulaArgs: made, listed, read back, and compared with the reference's.
-/
import Derived.Test.YtojicbajcebjjaaGreatDoorB
import Derived.Test.YtojicbajcebjjaaGreatDoorC
namespace Go.Proofs.YtojicbajcebjjaaGreatDoor
open Go.RowKit
attribute [local go_sem] run_store_float

theorem ord_self (n : Int) (h : n.natAbs < 2 ^ 53) : FloatKind.f64.format.order (fi n) (fi n) = some .eq := by
  have := order_fi n n h h
  rw [show compare n n = Ordering.eq by simp [compare, compareOfLessAndEq]] at this
  exact this
theorem fi_zero : fi 0 = 0 := by decide
theorem ord_zero (n : Int) (h : n.natAbs < 2 ^ 53) : FloatKind.f64.format.order (fi n) 0 = some (compare n 0) := by
  have := order_fi n 0 h (by decide)
  rw [fi_zero] at this
  exact this

set_option maxHeartbeats 400000 in
theorem newNum (n : Int) (w : World) (h : n.natAbs < 2 ^ 53) :
    Calls Tryz.prog 90 #[.float .f64 (fi n)] w fun e w' => e = .returned (.agg #[.string ⟨#[]⟩, .float .f64 (fi n), .string ⟨#[]⟩, .slice none 0 0, .slice none 0 0, .bool false, .string ⟨#[]⟩, .int .u8 1, .pointer none, .pointer none]) ∧ Below w.heap.size w w' := by
  have h1 := ord_self n h
  by_cases hz : n = 0
  · subst hz
    rw [fi_zero] at h1 ⊢
    go_enter Tryz.func90, Tryz.ntmps90
    go_wp2
    exact bodyPost_ret (v := (.agg #[.string ⟨#[]⟩, .float .f64 (0), .string ⟨#[]⟩, .slice none 0 0, .slice none 0 0, .bool false, .string ⟨#[]⟩, .int .u8 1, .pointer none, .pointer none])) (by simp [results, Tryz.results90, go_sem]) rfl ⟨rfl, (Below.refl _ _).alloc (Nat.le_refl _) _⟩
  · have h2 : (FloatKind.f64.format.order (fi n) 0 == some .eq) = false := by
      rw [ord_zero n h]
      simp only [compare, compareOfLessAndEq]
      split <;> simp
    clear hz
    go_enter Tryz.func90, Tryz.ntmps90
    go_wp2
    exact bodyPost_ret (v := (.agg #[.string ⟨#[]⟩, .float .f64 (fi n), .string ⟨#[]⟩, .slice none 0 0, .slice none 0 0, .bool false, .string ⟨#[]⟩, .int .u8 1, .pointer none, .pointer none])) (by simp [results, Tryz.results90, go_sem]) rfl ⟨rfl, (Below.refl _ _).alloc (Nat.le_refl _) _⟩

set_option maxHeartbeats 400000 in
theorem innerArg_num (n : Int) (w : World) (h : n.natAbs < 2 ^ 53) :
    Calls Tryz.prog 83 #[(.agg #[.int .i64 1, .float .f64 (fi n), .string ⟨#[]⟩, .slice none 0 0])] w fun e w' => e = .returned (.agg #[.string ⟨#[]⟩, .float .f64 (fi n), .string ⟨#[]⟩, .slice none 0 0, .slice none 0 0, .bool false, .string ⟨#[]⟩, .int .u8 1, .pointer none, .pointer none]) ∧ Below w.heap.size w w' := by
  have H := Lib.hid h
  clear h
  go_enter Tryz.func83, Tryz.ntmps83
  go_wp2_with fail
  refine (newNum n _ H.out).mono ?_
  rintro e w1 ⟨rfl, hb1⟩
  obtain ⟨hc, hf⟩ := below_cells hb1
  have hz : w.heap.size + 1 < w1.heap.size := by have := hb1.size; simp at this; omega
  go_wp2
  refine bodyPost_ret (v := (.agg #[.string ⟨#[]⟩, .float .f64 (fi n), .string ⟨#[]⟩, .slice none 0 0, .slice none 0 0, .bool false, .string ⟨#[]⟩, .int .u8 1, .pointer none, .pointer none])) (by simp [results, Tryz.results83, go_sem, hc]) rfl ⟨rfl, ?_⟩
  repeat refine Below.setCell ?_ (by simp) _
  exact (((Below.refl _ _).alloc (Nat.le_refl _) _).alloc (by simp) _).trans (hb1.mono (by simp; omega))

set_option maxHeartbeats 400000 in
theorem toNumber_num (n : Int) (w : World) (h : n.natAbs < 2 ^ 53) :
    Calls Tryz.prog 87 #[(.agg #[.string ⟨#[]⟩, .float .f64 (fi n), .string ⟨#[]⟩, .slice none 0 0, .slice none 0 0, .bool false, .string ⟨#[]⟩, .int .u8 1, .pointer none, .pointer none])] w fun e w' => e = .returned (.agg #[.string ⟨#[]⟩, .float .f64 (fi n), .string ⟨#[]⟩, .slice none 0 0, .slice none 0 0, .bool false, .string ⟨#[]⟩, .int .u8 1, .pointer none, .pointer none]) ∧ Below w.heap.size w w' := by
  have H := Lib.hid h
  clear h
  go_enter Tryz.func87, Tryz.ntmps87
  go_wp2_with fail
  refine (newNum n _ H.out).mono ?_
  rintro e w1 ⟨rfl, hb1⟩
  obtain ⟨hc, hf⟩ := below_cells hb1
  have hz : w.heap.size + 1 < w1.heap.size := by have := hb1.size; simp at this; omega
  go_wp2
  refine bodyPost_ret (v := (.agg #[.string ⟨#[]⟩, .float .f64 (fi n), .string ⟨#[]⟩, .slice none 0 0, .slice none 0 0, .bool false, .string ⟨#[]⟩, .int .u8 1, .pointer none, .pointer none])) (by simp [results, Tryz.results87, go_sem, hc]) rfl ⟨rfl, ?_⟩
  repeat refine Below.setCell ?_ (by simp) _
  exact (((Below.refl _ _).alloc (Nat.le_refl _) _).alloc (by simp) _).trans (hb1.mono (by simp; omega))

set_option maxHeartbeats 400000 in
theorem doorArg_num (n : Int) (w : World) :
    Calls Tryz.prog 63 #[(.agg #[.string ⟨#[]⟩, .float .f64 (fi n), .string ⟨#[]⟩, .slice none 0 0, .slice none 0 0, .bool false, .string ⟨#[]⟩, .int .u8 1, .pointer none, .pointer none])] w fun e w' => e = .returned (.agg #[.int .i64 1, .float .f64 (fi n), .string ⟨#[]⟩, .slice none 0 0]) ∧ Below w.heap.size w w' := by
  go_enter Tryz.func63, Tryz.ntmps63
  go_wp2
  exact bodyPost_ret (v := (.agg #[.int .i64 1, .float .f64 (fi n), .string ⟨#[]⟩, .slice none 0 0])) (by simp [results, Tryz.results63, go_sem]) rfl ⟨rfl, ((Below.refl _ _).alloc (Nat.le_refl _) _).alloc (by simp) _⟩

set_option maxHeartbeats 400000 in
theorem out_num (n : Int) (w : World) :
    Calls Tryz.prog 43 #[(.agg #[.int .i64 1, .float .f64 (fi n), .string ⟨#[]⟩, .slice none 0 0])] w fun e w' => e = .returned (.agg #[.int .i64 1, .float .f64 (fi n), .string ⟨#[]⟩, .slice none 0 0]) ∧ Below w.heap.size w w' := by
  go_enter Tryz.func43, Tryz.ntmps43
  go_wp2_with fail
  refine wp_loop_once ?_
  go_wp2
  exact bodyPost_ret (v := (.agg #[.int .i64 1, .float .f64 (fi n), .string ⟨#[]⟩, .slice none 0 0])) (by simp [results, Tryz.results43, go_sem]) rfl ⟨rfl, (((Below.refl _ _).alloc (Nat.le_refl _) _).alloc (by simp) _).alloc (by simp; omega) _⟩

set_option maxHeartbeats 400000 in
theorem doorFuncs_any (w : World) :
    Calls Tryz.prog 64 #[] w fun e w' => e = .returned (.pointer (some ⟨w.heap.size, 0, none⟩)) ∧ Below w.heap.size w w' ∧ w.heap.size < w'.heap.size := by
  go_enter Tryz.func64, Tryz.ntmps64
  go_wp2
  go_ret
  exact ⟨rfl, (Below.refl _ _).alloc (Nat.le_refl _) _, by simp⟩

set_option maxHeartbeats 800000 in
/-- Two numbers are the same just where they are equal. -/
theorem same_num (a n : Int) (w : World) (h0 : n ≤ 99999999999) (h1 : -99999999999 ≤ n) (ha : a.natAbs < 2 ^ 53) (hb : Bool) (hab : decide (a = n) = hb) :
    Calls Tryz.prog 15 #[(.agg #[.int .i64 1, .float .f64 (fi a), .string ⟨#[]⟩, .slice none 0 0]), (.agg #[.int .i64 1, .int .i64 (n), .int .i64 1, .string ⟨#[]⟩, .slice none 0 0])] w fun e w' => e = .returned (.bool hb) ∧ Below w.heap.size w w' := by
  have ho : (FloatKind.f64.format.order (fi a) (fi n) != some .eq) = !hb := by
    have := order_fi a n ha (by omega)
    rw [show FloatKind.f64.format.order (fi a) (fi n) = some (compare a n) from this, ← hab]
    simp only [compare, compareOfLessAndEq]
    by_cases h : a = n
    · subst h; simp
    · by_cases h2 : a < n <;> simp [h, h2]
  have H0 := Lib.hid h0
  have H1 := Lib.hid h1
  clear h0 h1 ha hab
  cases hb
  all_goals
    go_enter Tryz.func15, Tryz.ntmps15
    go_wp2_with fail
    refine (of_num n _ H0.out H1.out).mono ?_
    rintro e w1 ⟨rfl, hb1⟩
    obtain ⟨hc, hf⟩ := below_cells hb1
    have hz : w.heap.size + 1 < w1.heap.size := by have := hb1.size; simp at this; omega
    have hz0 : w.heap.size < w1.heap.size := by omega
    go_wp2
  · go_ret
    exact ⟨rfl, ((((Below.refl _ _).alloc (Nat.le_refl _) _).alloc (by simp) _).trans (hb1.mono (by simp; omega))).alloc (by omega) _⟩
  · refine wp_loop_once ?_
    go_wp2
    go_ret
    exact ⟨rfl, ((((Below.refl _ _).alloc (Nat.le_refl _) _).alloc (by simp) _).trans (hb1.mono (by simp; omega))).alloc (by omega) _⟩
end Go.Proofs.YtojicbajcebjjaaGreatDoor
