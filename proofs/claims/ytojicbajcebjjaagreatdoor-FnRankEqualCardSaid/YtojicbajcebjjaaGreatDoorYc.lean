/-
  The frame in which the library's sort over an interface is walked here: the row, the cell of the inner interface, what Less and Swap do.
-/
import Derived.Test.YtojicbajcebjjaaGreatDoorYb
import Derived.Shelf.GgSortFunc.SW
namespace Go.Proofs.YtojicbajcebjjaaGreatDoor
open Go.RowKit Go.Sort Go.Lib

/-- The sort's place: the world at its call, the row, the inner interface's cell. -/
structure Cx where
  w0 : World
  blk : Nat
  off : Nat
  c : Nat
  RB : Nat
  size : Nat
  d0 : Array FK
  hd : d0.size = size
  hne : RB ≠ blk
  hblk : blk < w0.heap.size
  hsz : size < 4611686018427387904
  hH : Holds encK w0 blk off d0
  hR : RC RB (.slice (some ⟨blk, off, none⟩) size c) w0
def Cx.SL (K : Cx) : Value := .slice (some ⟨K.blk, K.off, none⟩) K.size K.c
/-- The row holds d; all else of the first world is as it was. -/
def Sx (K : Cx) (d : Array FK) (W : World) : Prop := SW encK K.w0 K.blk K.off d W ∧ d.size = K.size
def Rx (K : Cx) (W : World) : Prop := RC K.RB K.SL W
/-- Draws and new blocks alone. -/
def Gx (W w' : World) : Prop := ∃ q os, w' = grow (W.drewN q) os
theorem Sx.r {K : Cx} {d : Array FK} {W : World} (S : Sx K d W) : Rx K W := RC.of_sw K.hne S.1 K.hR
theorem Sx.hs {K : Cx} {d : Array FK} {W : World} (S : Sx K d W) : d.size = K.size := S.2
theorem Sx.holds {K : Cx} {d : Array FK} {W : World} (S : Sx K d W) : Holds encK W K.blk K.off d := S.1.holds K.hblk K.hH (S.2.trans K.hd.symm)
theorem Sx.lt {K : Cx} {d : Array FK} {W : World} (S : Sx K d W) : K.blk < W.heap.size := S.1.lt K.hblk
theorem SW.growx {α : Type} [Inhabited α] {enc : α → Value} {w0 W : World} {blk off : Nat} {d : Array α} (h : SW enc w0 blk off d W) (os : Array Obj) : SW enc w0 blk off d (grow W os) := by
  obtain ⟨n, os', rfl⟩ := h
  exact ⟨n, os' ++ os, by unfold sortWorld; rw [grow_grow]⟩
theorem Sx.drewN {K : Cx} {d : Array FK} {W : World} (S : Sx K d W) (q : Nat) : Sx K d (W.drewN q) := ⟨S.1.drewN q, S.2⟩
theorem Sx.grow {K : Cx} {d : Array FK} {W : World} (S : Sx K d W) (os : Array Obj) : Sx K d (Sort.grow W os) := ⟨SW.growx S.1 os, S.2⟩
theorem Sx.gx {K : Cx} {d : Array FK} {W w' : World} (S : Sx K d W) (h : Gx W w') : Sx K d w' := by
  obtain ⟨q, os, rfl⟩ := h
  exact (S.drewN q).grow os
theorem Sx.alloc {K : Cx} {d : Array FK} {W : World} (S : Sx K d W) (o : Obj) : Sx K d (W.alloc o) := ⟨S.1.alloc o, S.2⟩
theorem Sx.set {K : Cx} {d : Array FK} {W : World} (S : Sx K d W) (b o : Nat) (v : Value) (hb : K.w0.heap.size ≤ b) : Sx K d (W.setCell ⟨b, o, none⟩ v) := ⟨S.1.setCell_new b o v hb, S.2⟩
theorem Sx.le {K : Cx} {d : Array FK} {W : World} (S : Sx K d W) : K.w0.heap.size ≤ W.heap.size := S.1.le
theorem Gx.refl (W : World) : Gx W W := ⟨0, #[], by rw [grow_empty]; rfl⟩
theorem Gx.drewN (W : World) (q : Nat) : Gx W (W.drewN q) := ⟨q, #[], by simp⟩
theorem Gx.trans {W X Y : World} (h : Gx W X) (g : Gx X Y) : Gx W Y := by
  obtain ⟨q, os, rfl⟩ := h
  obtain ⟨q2, os2, rfl⟩ := g
  refine ⟨q + q2, os ++ os2, ?_⟩
  rw [← grow_grow, ← World.drewN_drewN]
  rfl
theorem Gx.cell {W w' : World} (h : Gx W w') {a : Addr} (ha : a.block < W.heap.size) : w'.cell? a = W.cell? a := by
  obtain ⟨q, os, rfl⟩ := h
  rw [cell?_grow _ _ _ (by simpa using ha)]
  simp
theorem Gx.frozen {W w' : World} (h : Gx W w') {a : Addr} (ha : a.block < W.heap.size) : w'.frozen? a = W.frozen? a := by
  obtain ⟨q, os, rfl⟩ := h
  rw [frozen?_grow _ _ _ (by simpa using ha)]
  simp
theorem Gx.size {W w' : World} (h : Gx W w') : W.heap.size ≤ w'.heap.size := by
  obtain ⟨q, os, rfl⟩ := h
  simp

theorem Cx.mL (K : Cx) : ∀ w, Rx K w → Sem.run Tryz.prog (method 480 153 (.pointer (some ⟨K.RB, 0, none⟩)) "Less") w = .ok (264, .agg #[.iface 141 K.SL]) w := fun w h => find_less w h
theorem Cx.mS (K : Cx) : ∀ w, Rx K w → Sem.run Tryz.prog (method 480 153 (.pointer (some ⟨K.RB, 0, none⟩)) "Swap") w = .ok (247, K.SL) w := fun w h => find_swap w h
theorem Cx.mN (K : Cx) : ∀ w, Rx K w → Sem.run Tryz.prog (method 480 153 (.pointer (some ⟨K.RB, 0, none⟩)) "Len") w = .ok (244, K.SL) w := fun w h => find_len w h

theorem less_x (K : Cx) (d : Array FK) (i j : Nat) (hi : i < K.size) (hj : j < K.size) (x y : Int) (hx : x = i) (hy : y = j) (v : Bool) (hv : gtK d[i]! d[j]! = v) (W : World) (S : Sx K d W) :
    Calls Tryz.prog 264 #[.agg #[.iface 141 K.SL], .int .i64 x, .int .i64 y] W fun e w' => e = .returned (.bool v) ∧ Sx K d w' ∧ Rx K w' ∧ Gx W w' := by
  subst hx hy hv
  have S1 := S.alloc (.cells #[.iface 141 K.SL] 155)
  refine (rev_less K.SL i j W _ (slice_less K.blk K.off K.c K.size _ (fun t => d[t]!) (fun t ht => (S1.holds t (by have := S.2; omega)).1) j i hj hi K.hsz)).mono ?_
  rintro e w' ⟨rfl, q, rfl⟩
  have S2 := S1.drewN q
  exact ⟨rfl, S2, S2.r, q, #[.cells #[.iface 141 K.SL] 155], by rw [alloc_eq_grow]; rfl⟩
theorem swap_x (K : Cx) (d : Array FK) (i j : Nat) (hi : i < K.size) (hj : j < K.size) (x y : Int) (hx : x = i) (hy : y = j) (W : World) (S : Sx K d W) :
    Calls Tryz.prog 247 #[K.SL, .int .i64 x, .int .i64 y] W fun e w' => e = .returned (.tuple #[]) ∧ Sx K (swp d i j) w' ∧ Rx K w' ∧ W.heap.size ≤ w'.heap.size := by
  subst hx hy
  have hs := S.2
  refine (swap_M K.blk K.off K.c K.size K.hsz W d S.holds S.2 i j hi hj).mono ?_
  rintro e w' ⟨rfl, q, rfl⟩
  have S2 : Sx K (swp d i j) (((W.setCell ⟨K.blk, K.off + i, none⟩ (encK d[j]!)).setCell ⟨K.blk, K.off + j, none⟩ (encK d[i]!)).drewN q) := ⟨(S.1.swap K.hblk i j (by omega) (by omega)).drewN q, by rw [size_swp]; exact hs⟩
  exact ⟨rfl, S2, S2.r, by simp⟩

end Go.Proofs.YtojicbajcebjjaaGreatDoor
