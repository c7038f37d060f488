/-
  The methods of sort.Reverse(sort.Float64Slice(..)): Less (reversed), Swap, Len; sort.Reverse itself.
-/
import Derived.Test.YtojicbajcebjjaaGreatDoorYa
import Derived.Deep.QuietTactic
import Derived.RegionTactic
namespace Go.Proofs.YtojicbajcebjjaaGreatDoor
open Go.RowKit Go.Sort Go.Lib
attribute [local go_sem] run_store_float

set_option maxHeartbeats 1000000 in
theorem sort_isNaN_K (x : FK) (w : World) : Calls Tryz.prog 248 #[.float .f64 (kf x)] w fun e w' => e = .returned (.bool false) ∧ w' = w := by
  have h := ord_kf_self x
  go_enter Tryz.func248, Tryz.ntmps248
  go_wp2
  go_ret
  exact ⟨by simp, rfl⟩

set_option maxHeartbeats 2000000 in
theorem slice_less (blk off c size : Nat) (W : World) (G : Nat → FK) (hc : ∀ t, t < size → W.cell? ⟨blk, off + t, none⟩ = some (.float .f64 (kf (G t)))) (i j : Nat) (hi : i < size) (hj : j < size) (_hsz : size < 4611686018427387904) :
    Calls Tryz.prog 245 #[.slice (some ⟨blk, off, none⟩) size c, .int .i64 i, .int .i64 j] W fun e w' => e = .returned (.bool (ltK (G i) (G j))) ∧ ∃ q, w' = W.drewN q := by
  have ci := hc i hi
  have cj := hc j hj
  have hlt := lt_kf (G i) (G j)
  go_enter Tryz.func245, Tryz.ntmps245
  go_wp2
  cases hlv : ltK (G i) (G j) with
  | true =>
    rw [hlv] at hlt
    go_big_quiet (first | (go_at_call 248; refine Calls.quiet_of_same (sort_isNaN_K _ _)))
    go_wp2
    go_ret
    exact ⟨by rw [hlv]; rfl, nq, rfl⟩
  | false =>
    rw [hlv] at hlt
    go_big_quiet (first | (go_at_call 248; refine Calls.quiet_of_same (sort_isNaN_K _ _)))
    go_wp2
    go_ret
    exact ⟨by rw [hlv]; rfl, nq, rfl⟩

set_option maxHeartbeats 2000000 in
theorem slice_swap (blk off c size : Nat) (W : World) (x y : FK) (i j : Nat) (hi : i < size) (hj : j < size) (_hsz : size < 4611686018427387904)
    (ci : W.cell? ⟨blk, off + i, none⟩ = some (.float .f64 (kf x))) (cj : W.cell? ⟨blk, off + j, none⟩ = some (.float .f64 (kf y))) (fi : W.frozen? ⟨blk, off + i, none⟩ = false) (fj : W.frozen? ⟨blk, off + j, none⟩ = false) :
    Calls Tryz.prog 247 #[.slice (some ⟨blk, off, none⟩) size c, .int .i64 i, .int .i64 j] W fun e w' => e = .returned (.tuple #[]) ∧ ∃ q, w' = ((W.setCell ⟨blk, off + i, none⟩ (.float .f64 (kf y))).setCell ⟨blk, off + j, none⟩ (.float .f64 (kf x))).drewN q := by
  obtain ⟨v', hy'⟩ := cell?_setCell_some (w := W) (p := ⟨blk, off + i, none⟩) (x := .float .f64 (kf y)) (q := ⟨blk, off + j, none⟩) cj
  go_enter Tryz.func247, Tryz.ntmps247
  go_wp2
  go_region
  all_goals (try go_wp2)
  all_goals go_end0
  all_goals exact ⟨rfl, 1, rfl⟩

theorem rev_less (SL : Value) (a b : Int) (W : World) (r : Bool) (h : Calls Tryz.prog 245 #[SL, .int .i64 b, .int .i64 a] (W.alloc (.cells #[.iface 141 SL] 155)) fun e w' => e = .returned (.bool r) ∧ ∃ q, w' = (W.alloc (.cells #[.iface 141 SL] 155)).drewN q) :
    Calls Tryz.prog 264 #[.agg #[.iface 141 SL], .int .i64 a, .int .i64 b] W fun e w' => e = .returned (.bool r) ∧ ∃ q, w' = (W.alloc (.cells #[.iface 141 SL] 155)).drewN q := by
  have mI : ∀ w, Sem.run Tryz.prog (method 480 141 SL "Less") w = .ok (245, SL) w := fun w => find_inner_less 479 SL w
  go_enter Tryz.func264, Tryz.ntmps264
  go_wp2_with (go_at_call 245; refine h.mono ?_; rintro e w' ⟨rfl, q, rfl⟩)
  go_ret
  exact ⟨rfl, q, rfl⟩

theorem swap_M (blk off c size : Nat) (hsz : size < 4611686018427387904) : SwapM Tryz.prog 247 (.slice (some ⟨blk, off, none⟩) size c) encK blk off size := fun W dk hH hs i j hi hj =>
  slice_swap blk off c size W dk[i]! dk[j]! i j hi hj hsz (hH i (by omega)).1 (hH j (by omega)).1 (hH i (by omega)).2 (hH j (by omega)).2

set_option maxHeartbeats 2000000 in
theorem slice_len (A : Option Addr) (n c : Nat) (W : World) : Calls Tryz.prog 244 #[.slice A n c] W fun e w' => e = .returned (.int .i64 n) ∧ ∃ q, w' = W.drewN q := by
  go_enter Tryz.func244, Tryz.ntmps244
  go_wp2
  go_ret
  exact ⟨rfl, 0, rfl⟩

end Go.Proofs.YtojicbajcebjjaaGreatDoor
