/-
  Cells behind many stores.
-/
import Derived.Test.YtojicbajcebjjaaGreatDoorSq
namespace Go.Proofs.YtojicbajcebjjaaGreatDoor
open Go.RowKit

theorem cell_far (w : World) (p q : Addr) (v : Value) (h : q.block ≠ p.block) : (w.setCell p v).cell? q = w.cell? q := by
  simp only [World.cell?, Below.heap_setCell w p v q.block h]

theorem cell_off (w : World) (g i j : Nat) (v : Value) (h : j ≠ i) : (w.setCell ⟨g, i, none⟩ v).cell? ⟨g, j, none⟩ = w.cell? ⟨g, j, none⟩ := by
  simp only [World.cell?, World.setCell, Array.getElem?_modify]
  cases hg : w.heap[g]? with
  | none => simp
  | some o => cases o <;> simp [Ne.symm h]
theorem cell_same (w : World) (p : Addr) (v : Value) (h : ∃ u, w.cell? p = some u) : (w.setCell p v).cell? p = some v := by
  obtain ⟨u, hu⟩ := h
  exact World.cell?_setCell_same w p v hu
theorem some_set (w : World) (g i g' j : Nat) (v : Value) (h : ∃ u, w.cell? ⟨g', j, none⟩ = some u) : ∃ u, (w.setCell ⟨g, i, none⟩ v).cell? ⟨g', j, none⟩ = some u := by
  obtain ⟨u, hu⟩ := h
  by_cases hg : g' = g
  · subst hg
    by_cases hj : j = i
    · subst hj
      exact ⟨v, World.cell?_setCell_same w _ v hu⟩
    · exact ⟨u, (cell_off w g' i j v hj).trans hu⟩
  · exact ⟨u, (cell_far w ⟨g, i, none⟩ ⟨g', j, none⟩ v hg).trans hu⟩
end Go.Proofs.YtojicbajcebjjaaGreatDoor
