/-
  Words for memory: a slice that reads as a list of cells; a block that is known whole.
-/
import Derived.Test.YtojicbajcebjjaaGreatDoorRows
import Derived.WalkKit
import Derived.WalkSpells
import Derived.WalkLawsBesides
import Derived.Lib.Hide
namespace Go.Proofs.YtojicbajcebjjaaGreatDoor
open Go.RowKit

theorem run_store_float (P : Program) (w : World) (a : Addr) (m : Mode) (k : FloatKind) (b : Nat) : (store a (.float k b) m).run P w = stored P w a (.float k b) m := run_store P w a _ m rfl

theorem ret_int {k : IntKind} {a b : Int} (h : a = b) : Ending.returned (.int k a) = .returned (.int k b) := by rw [h]

/-- The slice's address A leads to the cells xs, in a block below B. -/
def Rd (w : World) (B : Nat) (A : Option Addr) (xs : List Value) : Prop :=
  xs = [] ∨ ∃ b o, A = some ⟨b, o, none⟩ ∧ b < B ∧ ∀ j u, xs[j]? = some u → w.cell? ⟨b, o + j, none⟩ = some u

section
variable {w w' : World} {B B' : Nat} {A : Option Addr} {xs : List Value}

theorem Rd.nil : Rd w B A [] := .inl rfl

theorem Rd.at_ {k : Nat} (h : Rd w B A xs) (hk : k < xs.length) : ∃ b o, A = some ⟨b, o, none⟩ ∧ b < B ∧ ∀ j u, xs[j]? = some u → w.cell? ⟨b, o + j, none⟩ = some u := by
  rcases h with rfl | h
  · simp at hk
  · exact h

theorem Rd.keep (h : Rd w B A xs) (hk : ∀ b o, b < B → w'.cell? ⟨b, o, none⟩ = w.cell? ⟨b, o, none⟩) : Rd w' B A xs := by
  rcases h with rfl | ⟨b, o, hA, hb, hc⟩
  · exact .inl rfl
  · exact .inr ⟨b, o, hA, hb, fun j u hu => (hk b _ hb).trans (hc j u hu)⟩

theorem Rd.below (h : Rd w B A xs) (hb : Below B w w') : Rd w' B A xs := h.keep fun b o hbB => hb.cell (p := ⟨b, o, none⟩) hbB

theorem Rd.more (h : Rd w B A xs) (hB : B ≤ B') : Rd w B' A xs := by
  rcases h with rfl | ⟨b, o, hA, hb, hc⟩
  · exact .inl rfl
  · exact .inr ⟨b, o, hA, by omega, hc⟩

theorem Rd.of_own {base e size n : Nat} {v : Value} (h : w.ownsRow base e size v n xs) : ∃ A c, v = .slice A n c ∧ Rd w w.heap.size A xs := by
  rcases h.2 with ⟨rfl, rfl⟩ | ⟨g, cap, cur, rfl, hb, hg, hnc, hm, hs, ht⟩
  · have : xs = [] := List.eq_nil_of_length_eq_zero (by simpa using h.1)
    subst this
    exact ⟨none, 0, rfl, .inl rfl⟩
  · refine ⟨some ⟨g, 0, none⟩, cap, rfl, .inr ⟨g, 0, rfl, (Array.getElem?_eq_some_iff.1 hg).1, fun j u hu => ?_⟩⟩
    have := h.cells (g := g) rfl j u hu
    have hadd : (⟨g, 0, none⟩ : Addr).add j = ⟨g, 0 + j, none⟩ := by unfold Addr.add; split <;> simp_all
    rwa [hadd] at this
end

theorem below_cells {W w1 : World} {B : Nat} (hb : Below B W w1) : (∀ b o, b < B → w1.cell? ⟨b, o, none⟩ = W.cell? ⟨b, o, none⟩) ∧ (∀ b o, b < B → w1.frozen? ⟨b, o, none⟩ = W.frozen? ⟨b, o, none⟩) :=
  ⟨fun b o h => hb.cell (p := ⟨b, o, none⟩) h, fun b o h => hb.frozen (p := ⟨b, o, none⟩) h⟩

theorem below_drewN {B : Nat} {a w : World} (h : Below B a w) (n : Nat) : Below B a (w.drewN n) := ⟨h.os, h.tape, h.output, h.size, h.block⟩

theorem own_below {w w' : World} {base e size n : Nat} {v : Value} {xs : List Value} (h : w.ownsRow base e size v n xs) (hb : Below w.heap.size w w') : w'.ownsRow base e size v n xs := by
  refine h.kept (row := none) ⟨hb.os, hb.tape, hb.output, hb.size, fun k hk _ => hb.block k hk⟩ ?_
  cases hv : v.ownBlock <;> simp

theorem cells_new (w : World) (cs : Array Value) (e : TypeId) : ∀ j u, cs.toList[j]? = some u → (w.alloc (.cells cs e)).cell? ((⟨w.heap.size, 0, none⟩ : Addr).add j) = some u := by
  intro j u hu
  have hadd : (⟨w.heap.size, 0, none⟩ : Addr).add j = ⟨w.heap.size, j, none⟩ := by unfold Addr.add; split <;> simp_all
  rw [hadd, cell_of_row _ w.heap.size j cs e (0, 0) (heap_alloc_new w _)]
  simpa using hu

theorem cells_at (w : World) (g : Nat) (hg : w.heap.size = g) (cs : Array Value) (e : TypeId) : ∀ j u, cs.toList[j]? = some u → (w.alloc (.cells cs e)).cell? ((⟨g, 0, none⟩ : Addr).add j) = some u := by
  subst hg
  exact cells_new w cs e

theorem below_grown {B : Nat} {a w w' : World} {v : Value} {base e size n : Nat} {xs : List Value} (h : Below B a w) (hB : B ≤ w.heap.size) (ho : w.ownsRow base e size v n xs) (hb : B ≤ base) (hg : w.grownBy w' v.ownBlock) : Below B a w' :=
  h.grown hg hB (fun k hk => by have := ho.lt k hk; omega)

/-- Four cells an element. -/
theorem flat4_get {α : Type} (f : α → List Value) (hf : ∀ x, (f x).length = 4) (l : List α) (k i : Nat) (hk : k < l.length) (hi : i < 4) : (l.flatMap f)[k * 4 + i]? = (f l[k])[i]? := by
  induction l generalizing k with
  | nil => simp at hk
  | cons x l ih =>
    rw [List.flatMap_cons]
    cases k with
    | zero => rw [List.getElem?_append_left (by rw [hf]; omega)]; simp
    | succ k =>
      rw [List.getElem?_append_right (by rw [hf]; omega), hf]
      have e : (k + 1) * 4 + i - 4 = k * 4 + i := by omega
      rw [e, ih k (by simpa using hk)]
      simp

theorem flat4_len {α : Type} (f : α → List Value) (hf : ∀ x, (f x).length = 4) (l : List α) : (l.flatMap f).length = l.length * 4 := by
  induction l with
  | nil => simp
  | cons x l ih => rw [List.flatMap_cons, List.length_append, hf, ih, List.length_cons]; omega

theorem take_succ_flat {α : Type} (f : α → List Value) (l : List α) (k : Nat) (hk : k < l.length) : (l.take (k + 1)).flatMap f = (l.take k).flatMap f ++ f l[k] := by
  rw [List.take_succ_eq_append_getElem hk, List.flatMap_append]; simp

end Go.Proofs.YtojicbajcebjjaaGreatDoor
