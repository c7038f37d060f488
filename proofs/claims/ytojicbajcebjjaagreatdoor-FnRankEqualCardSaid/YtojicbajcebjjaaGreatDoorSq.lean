/-
  What the sums of squares over two columns want: the regions' conditions, the numbers' bounds.
-/
import Derived.Test.YtojicbajcebjjaaGreatDoorSh
import Derived.Test.YtojicbajcebjjaaGreatDoorG
import Derived.Deep.RegionHeld3
namespace Go.Proofs.YtojicbajcebjjaaGreatDoor
open Go.RowKit
attribute [local go_sem] run_store_float

/-- the cells of a matrix as a formulaArg -/
def fmc (A : Option Addr) (n c p q : Nat) : Array Value := #[.string ⟨#[]⟩, .float .f64 0, .string ⟨#[]⟩, .slice none 0 0, .slice A n c, .bool false, .string ⟨#[]⟩, .int .u8 4, .pointer (some ⟨p, 0, none⟩), .pointer (some ⟨q, 0, none⟩)]

/-- What stands through the two readings: the two arguments' blocks, and all that is old. -/
def Two (W : World) (g : Nat) (x y : Array Value) (w' : World) : Prop := Bk w' g 73 x ∧ Bk w' (g + 1) 73 y ∧ Below W.heap.size W w'
theorem Two.drew {W w' : World} {g : Nat} {x y : Array Value} (h : Two W g x y w') : Two W g x y w'.drew := ⟨h.1, h.2.1, ⟨h.2.2.os, h.2.2.tape, h.2.2.output, h.2.2.size, h.2.2.block⟩⟩
theorem Two.later {W w1 w2 : World} {g : Nat} {x y : Array Value} (h : Two W g x y w1) (hb : Below w1.heap.size w1 w2) : Two W g x y w2 := ⟨h.1.later hb, h.2.1.later hb, h.2.2.trans (hb.mono h.2.2.size)⟩
theorem Two.cells {W w' : World} {g n c0 p0 q0 c1 p1 q1 : Nat} {A0 A1 : Option Addr} (h : Two W g (fmc A0 n c0 p0 q0) (fmc A1 n c1 p1 q1) w') :
    Two W g (fmc A0 n c0 p0 q0) (fmc A1 n c1 p1 q1) w' ∧ w'.cell? ⟨g, 0, none⟩ = some (.string ⟨#[]⟩) ∧ w'.cell? ⟨g, 1, none⟩ = some (.float .f64 0) ∧ w'.cell? ⟨g, 2, none⟩ = some (.string ⟨#[]⟩) ∧ w'.cell? ⟨g, 3, none⟩ = some (.slice none 0 0) ∧ w'.cell? ⟨g, 4, none⟩ = some (.slice A0 n c0) ∧ w'.cell? ⟨g, 5, none⟩ = some (.bool false) ∧ w'.cell? ⟨g, 6, none⟩ = some (.string ⟨#[]⟩) ∧ w'.cell? ⟨g, 7, none⟩ = some (.int .u8 4) ∧ w'.cell? ⟨g, 8, none⟩ = some (.pointer (some ⟨p0, 0, none⟩)) ∧ w'.cell? ⟨g, 9, none⟩ = some (.pointer (some ⟨q0, 0, none⟩)) ∧ w'.cell? ⟨g + 1, 0, none⟩ = some (.string ⟨#[]⟩) ∧ w'.cell? ⟨g + 1, 1, none⟩ = some (.float .f64 0) ∧ w'.cell? ⟨g + 1, 2, none⟩ = some (.string ⟨#[]⟩) ∧ w'.cell? ⟨g + 1, 3, none⟩ = some (.slice none 0 0) ∧ w'.cell? ⟨g + 1, 4, none⟩ = some (.slice A1 n c1) ∧ w'.cell? ⟨g + 1, 5, none⟩ = some (.bool false) ∧ w'.cell? ⟨g + 1, 6, none⟩ = some (.string ⟨#[]⟩) ∧ w'.cell? ⟨g + 1, 7, none⟩ = some (.int .u8 4) ∧ w'.cell? ⟨g + 1, 8, none⟩ = some (.pointer (some ⟨p1, 0, none⟩)) ∧ w'.cell? ⟨g + 1, 9, none⟩ = some (.pointer (some ⟨q1, 0, none⟩)) :=
  ⟨h, h.1.cell 0, h.1.cell 1, h.1.cell 2, h.1.cell 3, h.1.cell 4, h.1.cell 5, h.1.cell 6, h.1.cell 7, h.1.cell 8, h.1.cell 9, h.2.1.cell 0, h.2.1.cell 1, h.2.1.cell 2, h.2.1.cell 3, h.2.1.cell 4, h.2.1.cell 5, h.2.1.cell 6, h.2.1.cell 7, h.2.1.cell 8, h.2.1.cell 9⟩

theorem K.dr {B : Nat} {V w1 : World} (h : Below B V w1) : Below B V w1.drew := below_drewN h 1
theorem K.later {V w1 w2 : World} {R : Prop} (h : Below V.heap.size V w1 ∧ R) (hb : Below w1.heap.size w1 w2) : Below V.heap.size V w2 := h.1.trans (hb.mono h.1.size)
theorem K.alloc {V w1 : World} {R : Prop} (h : Below V.heap.size V w1 ∧ R) (o : Obj) : Below V.heap.size V (w1.alloc o) := h.1.alloc h.1.size o
theorem sq_bd (x : Int) (h1 : -1000 < x) (h2 : x < 1000) : 0 ≤ x * x ∧ x * x ≤ 1000000 := by
  constructor
  · rcases Int.le_total 0 x with h | h
    · exact Int.mul_nonneg h h
    · exact Int.mul_nonneg_of_nonpos_of_nonpos h h
  · rcases Int.le_total 0 x with h | h
    · have := Int.mul_le_mul (show x ≤ 1000 by omega) (show x ≤ 1000 by omega) h (by omega)
      omega
    · have := Int.mul_le_mul (show -x ≤ 1000 by omega) (show -x ≤ 1000 by omega) (by omega) (by omega)
      rw [Int.neg_mul_neg] at this
      omega
theorem sq_pos (x : Int) (h : x ≠ 0) : 1 ≤ x * x := by
  rcases Int.lt_or_gt_of_ne h with h | h
  · have := Int.mul_pos_of_neg_of_neg h h
    omega
  · have := Int.mul_pos h h
    omega
theorem ne_zero (x : Int) (h : x.natAbs < 2 ^ 53) (h0 : x ≠ 0) : (FloatKind.f64.format.order (fi x) 0 != some .eq) = true := by
  rw [ord_zero x h]
  rcases Int.lt_or_gt_of_ne h0 with h | h
  · rw [cmp_lt h]; rfl
  · rw [cmp_gt h]; rfl
theorem opBd (x y : Int) (hx : -1000 < x ∧ x < 1000) (hy : -1000 < y ∧ y < 1000) : -4000000 ≤ (fun x y : Int => x * x - y * y) x y ∧ (fun x y : Int => x * x - y * y) x y ≤ 4000000 := by
  have h1 := sq_bd x hx.1 hx.2
  have h2 := sq_bd y hy.1 hy.2
  show -4000000 ≤ x * x - y * y ∧ x * x - y * y ≤ 4000000
  omega
theorem flat10 {w : World} {b o k : Nat} {l : List Int} {x : Int} (hc : ∀ j u, (l.flatMap nf)[j]? = some u → w.cell? ⟨b, o + j, none⟩ = some u) (hx : l[k]? = some x) : ∀ j u, j < 10 → (nf x)[j]? = some u → w.cell? ⟨b, o + (k * 10 + j), none⟩ = some u := by
  intro j u hj hu
  refine hc _ u ?_
  have h1 : l.flatMap nf = (l.map nf).flatten := by rw [List.flatMap_def]
  rw [h1, flat_get 10 (l.map nf) (by intro y hy; simp at hy; obtain ⟨z, _, rfl⟩ := hy; rfl) k j (nf x) (by simp [hx]) hj]
  exact hu
theorem ten_cells {V w' : World} {b o k b' o' : Nat} {x y : Int} (h : Below V.heap.size V w') (hb : b < V.heap.size) (hb' : b' < V.heap.size)
    (hx : ∀ j u, j < 10 → (nf x)[j]? = some u → V.cell? ⟨b, o + (k * 10 + j), none⟩ = some u) (hy : ∀ j u, j < 10 → (nf y)[j]? = some u → V.cell? ⟨b', o' + (k * 10 + j), none⟩ = some u) :
    Below V.heap.size V w' ∧ w'.cell? ⟨b, o + k * 10, none⟩ = some (.string ⟨#[]⟩) ∧ w'.cell? ⟨b, o + k * 10 + 1, none⟩ = some (.float .f64 (fi x)) ∧ w'.cell? ⟨b, o + k * 10 + 2, none⟩ = some (.string ⟨#[]⟩) ∧ w'.cell? ⟨b, o + k * 10 + 3, none⟩ = some (.slice none 0 0) ∧ w'.cell? ⟨b, o + k * 10 + 4, none⟩ = some (.slice none 0 0) ∧ w'.cell? ⟨b, o + k * 10 + 5, none⟩ = some (.bool false) ∧ w'.cell? ⟨b, o + k * 10 + 6, none⟩ = some (.string ⟨#[]⟩) ∧ w'.cell? ⟨b, o + k * 10 + 7, none⟩ = some (.int .u8 1) ∧ w'.cell? ⟨b, o + k * 10 + 8, none⟩ = some (.pointer none) ∧ w'.cell? ⟨b, o + k * 10 + 9, none⟩ = some (.pointer none) ∧ w'.cell? ⟨b', o' + k * 10, none⟩ = some (.string ⟨#[]⟩) ∧ w'.cell? ⟨b', o' + k * 10 + 1, none⟩ = some (.float .f64 (fi y)) ∧ w'.cell? ⟨b', o' + k * 10 + 2, none⟩ = some (.string ⟨#[]⟩) ∧ w'.cell? ⟨b', o' + k * 10 + 3, none⟩ = some (.slice none 0 0) ∧ w'.cell? ⟨b', o' + k * 10 + 4, none⟩ = some (.slice none 0 0) ∧ w'.cell? ⟨b', o' + k * 10 + 5, none⟩ = some (.bool false) ∧ w'.cell? ⟨b', o' + k * 10 + 6, none⟩ = some (.string ⟨#[]⟩) ∧ w'.cell? ⟨b', o' + k * 10 + 7, none⟩ = some (.int .u8 1) ∧ w'.cell? ⟨b', o' + k * 10 + 8, none⟩ = some (.pointer none) ∧ w'.cell? ⟨b', o' + k * 10 + 9, none⟩ = some (.pointer none) :=
  have ex := fun j u hj hu => (h.cell (p := ⟨b, o + (k * 10 + j), none⟩) hb).trans (hx j u hj hu)
  have ey := fun j u hj hu => (h.cell (p := ⟨b', o' + (k * 10 + j), none⟩) hb').trans (hy j u hj hu)
  ⟨h, ex 0 _ (by omega) rfl, ex 1 _ (by omega) rfl, ex 2 _ (by omega) rfl, ex 3 _ (by omega) rfl, ex 4 _ (by omega) rfl, ex 5 _ (by omega) rfl, ex 6 _ (by omega) rfl, ex 7 _ (by omega) rfl, ex 8 _ (by omega) rfl, ex 9 _ (by omega) rfl, ey 0 _ (by omega) rfl, ey 1 _ (by omega) rfl, ey 2 _ (by omega) rfl, ey 3 _ (by omega) rfl, ey 4 _ (by omega) rfl, ey 5 _ (by omega) rfl, ey 6 _ (by omega) rfl, ey 7 _ (by omega) rfl, ey 8 _ (by omega) rfl, ey 9 _ (by omega) rfl⟩

theorem sqd_bd (d : Int) (h1 : -2000 < d) (h2 : d < 2000) : 0 ≤ d * d ∧ d * d ≤ 4000000 ∧ (d * d ≠ 0 ∨ (0 ≤ d ∧ 0 ≤ d)) := by
  refine ⟨?_, ?_, ?_⟩
  · rcases Int.le_total 0 d with h | h
    · exact Int.mul_nonneg h h
    · exact Int.mul_nonneg_of_nonpos_of_nonpos h h
  · rcases Int.le_total 0 d with h | h
    · have := Int.mul_le_mul (show d ≤ 2000 by omega) (show d ≤ 2000 by omega) h (by omega)
      omega
    · have := Int.mul_le_mul (show -d ≤ 2000 by omega) (show -d ≤ 2000 by omega) (by omega) (by omega)
      rw [Int.neg_mul_neg] at this
      omega
  · by_cases h : d = 0
    · subst h; exact .inr ⟨by omega, by omega⟩
    · have := sq_pos d h
      exact .inl (by omega)
theorem opBdP (x y : Int) (hx : -1000 < x ∧ x < 1000) (hy : -1000 < y ∧ y < 1000) : -4000000 ≤ (fun x y : Int => x * x + y * y) x y ∧ (fun x y : Int => x * x + y * y) x y ≤ 4000000 := by
  have h1 := sq_bd x hx.1 hx.2
  have h2 := sq_bd y hy.1 hy.2
  show -4000000 ≤ x * x + y * y ∧ x * x + y * y ≤ 4000000
  omega
theorem opBdD (x y : Int) (hx : -1000 < x ∧ x < 1000) (hy : -1000 < y ∧ y < 1000) : -4000000 ≤ (fun x y : Int => (x - y) * (x - y)) x y ∧ (fun x y : Int => (x - y) * (x - y)) x y ≤ 4000000 := by
  have h1 := sqd_bd (x - y) (by omega) (by omega)
  show -4000000 ≤ (x - y) * (x - y) ∧ (x - y) * (x - y) ≤ 4000000
  omega
end Go.Proofs.YtojicbajcebjjaaGreatDoor
