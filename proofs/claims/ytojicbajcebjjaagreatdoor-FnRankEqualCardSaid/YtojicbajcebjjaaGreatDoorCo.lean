/-
  Columns in memory: a slice of rows of one element each, in blocks from lo on and below hi.
-/
import Derived.Test.YtojicbajcebjjaaGreatDoorE
namespace Go.Proofs.YtojicbajcebjjaaGreatDoor
open Go.RowKit

/-- v is a slice of one element, whose cells are xs, in a block of elements of type t. -/
def Rw (w : World) (lo hi : Nat) (t : TypeId) (v : Value) (xs : List Value) : Prop :=
  ∃ b o c, v = .slice (some ⟨b, o, none⟩) 1 c ∧ lo ≤ b ∧ b < hi ∧ (∃ cs fz, w.heap[b]? = some (.cells cs t fz)) ∧ ∀ j u, xs[j]? = some u → w.cell? ⟨b, o + j, none⟩ = some u

section
variable {w w' : World} {lo hi lo' hi' B : Nat} {t e : TypeId} {v : Value} {xs : List Value}

theorem Rw.keep (h : Rw w lo hi t v xs) (hk : ∀ b, lo ≤ b → b < hi → (∃ cs fz, w.heap[b]? = some (.cells cs t fz)) → w'.heap[b]? = w.heap[b]?) : Rw w' lo hi t v xs := by
  obtain ⟨b, o, c, hv, hl, hb, ht, hc⟩ := h
  have he := hk b hl hb ht
  refine ⟨b, o, c, hv, hl, hb, by rw [he]; exact ht, fun j u hu => ?_⟩
  rw [← hc j u hu]
  simp only [World.cell?, he]
theorem Rw.below (h : Rw w lo hi t v xs) (hb : Below B w w') (hB : hi ≤ B) : Rw w' lo hi t v xs := h.keep fun b _ hbB _ => hb.block b (by omega)
theorem Rw.more (h : Rw w lo hi t v xs) (hl : lo' ≤ lo) (hB : hi ≤ hi') : Rw w lo' hi' t v xs := by
  obtain ⟨b, o, c, hv, h1, hb, r⟩ := h
  exact ⟨b, o, c, hv, by omega, by omega, r⟩
theorem Rw.of_bk {g : Nat} {cs : Array Value} (h : Bk w g t cs) : Rw w g w.heap.size t (.slice (some ⟨g, 0, none⟩) 1 1) cs.toList := by
  refine ⟨g, 0, 1, rfl, Nat.le_refl _, h.lt, ⟨cs, _, h⟩, fun j u hu => ?_⟩
  rw [Nat.zero_add, h.cell]
  simpa using hu
theorem Rw.of_own {base size : Nat} (h : w.ownsRow base t size v 1 xs) : Rw w base w.heap.size t v xs := by
  rcases h.2 with ⟨_, h0⟩ | ⟨g, cap, cur, rfl, hb, hg, hnc, hm, hs, ht⟩
  · exact absurd h0 (by decide)
  · refine ⟨g, 0, cap, rfl, hb, (Array.getElem?_eq_some_iff.1 hg).1, ⟨cur, _, hg⟩, fun j u hu => ?_⟩
    have := h.cells (g := g) rfl j u hu
    have hadd : (⟨g, 0, none⟩ : Addr).add j = ⟨g, 0 + j, none⟩ := by unfold Addr.add; split <;> simp_all
    rwa [hadd] at this
/-- An append to another slice, of another element type, keeps it. -/
theorem Rw.grown {base size n : Nat} {v' : Value} {ys : List Value} (h : Rw w lo hi t v xs) (hB : hi ≤ w.heap.size) (ho : w.ownsRow base e size v' n ys) (hne : t ≠ e) (hg : w.grownBy w' v'.ownBlock) : Rw w' lo hi t v xs := by
  refine h.keep fun b _ hb ⟨cs, fz, hh⟩ => hg.block b (by omega) ?_
  intro hbr
  rcases ho.2 with ⟨rfl, _⟩ | ⟨g, cap, cur, rfl, _, hg2, _⟩
  · simp [Value.ownBlock] at hbr
  · simp only [Value.ownBlock, Option.some.injEq] at hbr
    subst hbr
    rw [hh] at hg2
    injection hg2 with hg2
    injection hg2 with _ h2 _
    exact hne h2
/-- An append to a slice that lies elsewhere keeps it. -/
theorem Rw.grown_far {v' : Value} (h : Rw w lo hi t v xs) (hB : hi ≤ w.heap.size) (hf : ∀ g, v'.ownBlock = some g → g < lo ∨ hi ≤ g) (hg : w.grownBy w' v'.ownBlock) : Rw w' lo hi t v xs := by
  refine h.keep fun b hl hb _ => hg.block b (by omega) ?_
  intro hbr
  have := hf b hbr.symm
  omega
end

/-- The rows of a column: row k holds what f makes of the k-th number. -/
def Rows (w : World) (lo hi : Nat) (t : TypeId) (f : Int → List Value) (ns : List Int) (rows : List Value) : Prop :=
  rows.length = ns.length ∧ ∀ (k : Nat) (n : Int) (v : Value), ns[k]? = some n → rows[k]? = some v → Rw w lo hi t v (f n)

section
variable {w w' : World} {lo hi lo' hi' B : Nat} {t e : TypeId} {f : Int → List Value} {ns : List Int} {rows : List Value}
theorem Rows.nil : Rows w lo hi t f [] [] := ⟨rfl, fun k n v h => by simp at h⟩
theorem Rows.below (h : Rows w lo hi t f ns rows) (hb : Below B w w') (hB : hi ≤ B) : Rows w' lo hi t f ns rows := ⟨h.1, fun k n v h1 h2 => (h.2 k n v h1 h2).below hb hB⟩
theorem Rows.more (h : Rows w lo hi t f ns rows) (hl : lo' ≤ lo) (hB : hi ≤ hi') : Rows w lo' hi' t f ns rows := ⟨h.1, fun k n v h1 h2 => (h.2 k n v h1 h2).more hl hB⟩
theorem Rows.alloc (h : Rows w lo hi t f ns rows) (hB : hi ≤ w.heap.size) (o : Obj) : Rows (w.alloc o) lo hi t f ns rows := h.below ((Below.refl hi w).alloc hB o) (Nat.le_refl _)
theorem Rows.grown {base size n : Nat} {v' : Value} {ys : List Value} (h : Rows w lo hi t f ns rows) (hB : hi ≤ w.heap.size) (ho : w.ownsRow base e size v' n ys) (hne : t ≠ e) (hg : w.grownBy w' v'.ownBlock) : Rows w' lo hi t f ns rows :=
  ⟨h.1, fun k n v h1 h2 => (h.2 k n v h1 h2).grown hB ho hne hg⟩
theorem Rows.grown_far {v' : Value} (h : Rows w lo hi t f ns rows) (hB : hi ≤ w.heap.size) (hf : ∀ g, v'.ownBlock = some g → g < lo ∨ hi ≤ g) (hg : w.grownBy w' v'.ownBlock) : Rows w' lo hi t f ns rows :=
  ⟨h.1, fun k n v h1 h2 => (h.2 k n v h1 h2).grown_far hB hf hg⟩
theorem Rows.snoc {k : Nat} {n : Int} {v : Value} (h : Rows w lo hi t f (ns.take k) rows) (hn : ns[k]? = some n) (hv : Rw w lo hi t v (f n)) : Rows w lo hi t f (ns.take (k + 1)) (rows ++ [v]) := by
  obtain ⟨hk, hn'⟩ := List.getElem?_eq_some_iff.1 hn
  have hl : rows.length = k := by rw [h.1, List.length_take]; omega
  refine ⟨by rw [List.length_append, hl, List.length_take]; simp; omega, fun j m u h1 h2 => ?_⟩
  rw [List.take_add_one, hn] at h1
  rcases Nat.lt_or_ge j k with hj | hj
  · rw [List.getElem?_append_left (by rw [List.length_take]; omega)] at h1
    rw [List.getElem?_append_left (by omega)] at h2
    exact h.2 j m u h1 h2
  · rw [List.getElem?_append_right (by rw [List.length_take]; omega)] at h1
    rw [List.getElem?_append_right (by omega)] at h2
    have e1 : j - (ns.take k).length = j - k := by rw [List.length_take]; congr 1; omega
    rw [e1] at h1
    rw [hl] at h2
    match hjk : j - k, h1, h2 with
    | 0, h1, h2 =>
      simp at h1 h2
      subst h1 h2
      exact hv
    | j' + 1, h1, h2 => simp at h2
/-- One row more, and the slice of the rows grown by it. -/
theorem Rows.push {base size m k : Nat} {ys : List Value} {n : Int} {v v0 : Value} (h : Rows w lo hi t f (ns.take k) rows) (hn : ns[k]? = some n) (hv : Rw w lo hi t v (f n))
    (hB : hi ≤ w.heap.size) (ho : w.ownsRow base e size v0 m ys) (hne : t ≠ e) (hg : w.grownBy w' v0.ownBlock) : Rows w' lo w'.heap.size t f (ns.take (k + 1)) (rows ++ [v]) :=
  ((h.snoc hn hv).grown hB ho hne hg).more (Nat.le_refl _) (Nat.le_trans hB hg.size)
end

/-- A column: the slice at A leads to its rows. -/
def Col (w : World) (lo hi : Nat) (t : TypeId) (A : Option Addr) (f : Int → List Value) (ns : List Int) : Prop :=
  ∃ rows, (rows = [] ∨ ∃ b o, A = some ⟨b, o, none⟩ ∧ lo ≤ b ∧ b < hi ∧ ∀ j u, rows[j]? = some u → w.cell? ⟨b, o + j, none⟩ = some u) ∧ Rows w lo hi t f ns rows
section
variable {w w' : World} {lo hi lo' hi' B : Nat} {t : TypeId} {A : Option Addr} {f : Int → List Value} {ns : List Int}
theorem Col.keep (h : Col w lo hi t A f ns) (hk : ∀ b, lo ≤ b → b < hi → w'.heap[b]? = w.heap[b]?) : Col w' lo hi t A f ns := by
  obtain ⟨rows, h1, h2⟩ := h
  refine ⟨rows, ?_, h2.1, fun k n v a b => (h2.2 k n v a b).keep fun b h1 h2 _ => hk b h1 h2⟩
  rcases h1 with h1 | ⟨b, o, hA, hl, hb, hc⟩
  · exact .inl h1
  · refine .inr ⟨b, o, hA, hl, hb, fun j u hu => ?_⟩
    rw [← hc j u hu]
    simp only [World.cell?, hk b hl hb]
theorem Col.below (h : Col w lo hi t A f ns) (hb : Below B w w') (hB : hi ≤ B) : Col w' lo hi t A f ns := h.keep fun b _ h2 => hb.block b (by omega)
theorem Col.alloc (h : Col w lo hi t A f ns) (hB : hi ≤ w.heap.size) (o : Obj) : Col (w.alloc o) lo hi t A f ns := h.below ((Below.refl hi w).alloc hB o) (Nat.le_refl _)
theorem Col.more (h : Col w lo hi t A f ns) (hl : lo' ≤ lo) (hB : hi ≤ hi') : Col w lo' hi' t A f ns := by
  obtain ⟨rows, h1, h2⟩ := h
  refine ⟨rows, ?_, h2.more hl hB⟩
  rcases h1 with h1 | ⟨b, o, hA, hl', hb, hc⟩
  · exact .inl h1
  · exact .inr ⟨b, o, hA, by omega, by omega, hc⟩
theorem Col.grown_far {v' : Value} (h : Col w lo hi t A f ns) (hB : hi ≤ w.heap.size) (hf : ∀ g, v'.ownBlock = some g → g < lo ∨ hi ≤ g) (hg : w.grownBy w' v'.ownBlock) : Col w' lo hi t A f ns := by
  refine h.keep fun b hl hb => hg.block b (by omega) ?_
  intro hbr
  have := hf b hbr.symm
  omega
/-- What a call has built. -/
theorem Col.of_own {base size : Nat} {e : TypeId} {v : Value} {rows : List Value} {n : Nat} (ho : w.ownsRow base e size v n rows) (hr : Rows w base w.heap.size t f ns rows) : ∃ A c, v = .slice A n c ∧ Col w base w.heap.size t A f ns := by
  rcases ho.2 with ⟨rfl, rfl⟩ | ⟨g, cap, cur, rfl, hb, hg, hnc, hm, hs, ht⟩
  · have : rows = [] := List.eq_nil_of_length_eq_zero (by simpa using ho.1)
    exact ⟨none, 0, rfl, rows, .inl this, hr⟩
  · refine ⟨some ⟨g, 0, none⟩, cap, rfl, rows, .inr ⟨g, 0, rfl, hb, (Array.getElem?_eq_some_iff.1 hg).1, fun j u hu => ?_⟩, hr⟩
    have := ho.cells (g := g) rfl j u hu
    have hadd : (⟨g, 0, none⟩ : Addr).add j = ⟨g, 0 + j, none⟩ := by unfold Addr.add; split <;> simp_all
    rwa [hadd] at this
/-- Row k, read. -/
theorem Col.at_ {k : Nat} {n : Int} (h : Col w lo hi t A f ns) (hn : ns[k]? = some n) : ∃ b o b1 o1 c1, A = some ⟨b, o, none⟩ ∧ b < hi ∧ w.cell? ⟨b, o + k, none⟩ = some (.slice (some ⟨b1, o1, none⟩) 1 c1) ∧ b1 < hi ∧ ∀ j u, (f n)[j]? = some u → w.cell? ⟨b1, o1 + j, none⟩ = some u := by
  obtain ⟨rows, h1, h2⟩ := h
  have hk := (List.getElem?_eq_some_iff.1 hn).1
  obtain ⟨v, hv⟩ : ∃ v, rows[k]? = some v := ⟨_, List.getElem?_eq_getElem (by rw [h2.1]; exact hk)⟩
  rcases h1 with rfl | ⟨b, o, hA, _, hb, hc⟩
  · simp at hv
  · obtain ⟨b1, o1, c1, rfl, _, hb1, _, hc1⟩ := h2.2 k n v hn hv
    exact ⟨b, o, b1, o1, c1, hA, hb, hc k _ hv, hb1, hc1⟩
end
end Go.Proofs.YtojicbajcebjjaaGreatDoor
