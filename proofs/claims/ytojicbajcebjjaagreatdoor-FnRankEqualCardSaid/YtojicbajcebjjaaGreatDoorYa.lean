/-
  sort.Reverse(sort.Float64Slice(..)) as the library's sort meets it: how its methods are found, and what they do.
-/
import Derived.Test.YtojicbajcebjjaaGreatDoorZa
import Derived.Shelf.GgSortMore.Iface
namespace Go.Proofs.YtojicbajcebjjaaGreatDoor
open Go.RowKit Go.Sort Go.Lib
attribute [local go_sem] run_store_float

/-- The cell at RB holds the inner interface: a Float64Slice over SL. -/
def RC (RB : Nat) (SL : Value) (w : World) : Prop := w.cell? ⟨RB, 0, none⟩ = some (.iface 141 SL) ∧ RB < w.heap.size

section
variable {α : Type} [Inhabited α] {RB blk : Nat} {SL : Value}
theorem RC.drewN (w : World) (q : Nat) : RC RB SL (w.drewN q) = RC RB SL w := rfl
theorem RC.drew (w : World) : RC RB SL w.drew = RC RB SL w := rfl
theorem RC.put (hne : RB ≠ blk) (enc : α → Value) (w : World) (n off : Nat) (d : Array α) : RC RB SL (putRow enc (Sort.ahead w n) blk off d) = RC RB SL w := by
  unfold RC
  rw [cell?_putRow_other _ _ _ _ _ _ (Or.inl hne)]
  simp
theorem RC.put0 (hne : RB ≠ blk) (enc : α → Value) (w : World) (off : Nat) (d : Array α) : RC RB SL (putRow enc w blk off d) = RC RB SL w := RC.put hne enc w 0 off d
theorem RC.set (hne : RB ≠ blk) (w : World) (o : Nat) (v : Value) : RC RB SL (w.setCell ⟨blk, o, none⟩ v) = RC RB SL w := by
  unfold RC
  have h : (w.setCell ⟨blk, o, none⟩ v).cell? ⟨RB, 0, none⟩ = w.cell? ⟨RB, 0, none⟩ := by
    simp only [World.cell?]
    rw [Below.heap_setCell w ⟨blk, o, none⟩ v RB hne]
  rw [h]
  simp
theorem RC.grow {w : World} (h : RC RB SL w) (os : Array Obj) : RC RB SL (Sort.grow w os) := ⟨by rw [cell?_grow _ _ _ h.2]; exact h.1, by rw [size_grow]; exact Nat.lt_of_lt_of_le h.2 (Nat.le_add_right _ _)⟩
theorem RC.alloc {w : World} (h : RC RB SL w) (o : Obj) : RC RB SL (w.alloc o) := by rw [alloc_eq_grow]; exact h.grow _
theorem RC.of_sw {enc : α → Value} {w0 W : World} {off : Nat} {dk : Array α} (hne : RB ≠ blk) (h : SW enc w0 blk off dk W) (h0 : RC RB SL w0) : RC RB SL W := by
  obtain ⟨n, os, rfl⟩ := h
  unfold sortWorld
  exact RC.grow (by rw [RC.put hne]; exact h0) os
end

theorem find_inner_less (k : Nat) (SL : Value) (w : World) : Sem.run Tryz.prog (method (k + 1) 141 SL "Less") w = .ok (245, SL) w := by kernel_rfl
theorem find_inner_swap (k : Nat) (SL : Value) (w : World) : Sem.run Tryz.prog (method (k + 1) 141 SL "Swap") w = .ok (247, SL) w := by kernel_rfl
theorem find_inner_len (k : Nat) (SL : Value) (w : World) : Sem.run Tryz.prog (method (k + 1) 141 SL "Len") w = .ok (244, SL) w := by kernel_rfl
theorem load_inner {RB : Nat} {SL : Value} {w : World} (h : RC RB SL w) : (loadVar 139 ⟨RB, 0, none⟩).run Tryz.prog w = .ok (.iface 141 SL) w := by
  have h1 := h.1
  go_simp
theorem fol (RB : Nat) (w : World) : (follow [⟨155, 0, true⟩] 153 (.val (.pointer (some ⟨RB, 0, none⟩)))).run Tryz.prog w = .ok (139, .var ⟨RB, 0, none⟩) w := by kernel_rfl
theorem find_swapN (N RB : Nat) (SL : Value) (w : World) (h : RC RB SL w) : Sem.run Tryz.prog (method (N + 98 + 1 + 1) 153 (.pointer (some ⟨RB, 0, none⟩)) "Swap") w = .ok (247, SL) w := by
  have hl := load_inner h
  have hi := find_inner_swap (N + 98) SL w
  rw [method]
  go_simp
  generalize hq : Array.find? (fun (x : Method) => x.name == "Swap") _ = q
  have hm : q.map (fun (m : Method) => (m.path.toList, m.func)) = some ([⟨155, 0, true⟩], none) := by rw [← hq]; kernel_rfl
  clear hq
  cases q with
  | none => simp at hm
  | some m =>
    simp only [Option.map_some, Option.some.injEq, Prod.mk.injEq] at hm
    obtain ⟨h1, h2⟩ := hm
    have hf := fol RB w
    simp only [h1, h2]
    go_simp
    rw [show Sem.run Tryz.prog (Place.get 139 (Place.var ⟨RB, 0, none⟩)) w = .ok (.iface 141 SL) w from hl, Result.andThen_ok]
    simpa using hi
theorem find_lenN (N RB : Nat) (SL : Value) (w : World) (h : RC RB SL w) : Sem.run Tryz.prog (method (N + 98 + 1 + 1) 153 (.pointer (some ⟨RB, 0, none⟩)) "Len") w = .ok (244, SL) w := by
  have hl := load_inner h
  have hi := find_inner_len (N + 98) SL w
  rw [method]
  go_simp
  generalize hq : Array.find? (fun (x : Method) => x.name == "Len") _ = q
  have hm : q.map (fun (m : Method) => (m.path.toList, m.func)) = some ([⟨155, 0, true⟩], none) := by rw [← hq]; kernel_rfl
  clear hq
  cases q with
  | none => simp at hm
  | some m =>
    simp only [Option.map_some, Option.some.injEq, Prod.mk.injEq] at hm
    obtain ⟨h1, h2⟩ := hm
    have hf := fol RB w
    simp only [h1, h2]
    go_simp
    rw [show Sem.run Tryz.prog (Place.get 139 (Place.var ⟨RB, 0, none⟩)) w = .ok (.iface 141 SL) w from hl, Result.andThen_ok]
    simpa using hi
theorem load_outer {RB : Nat} {SL : Value} {w : World} (h : RC RB SL w) : (loadVar 155 ⟨RB, 0, none⟩).run Tryz.prog w = .ok (.agg #[.iface 141 SL]) w := by
  have h1 := h.1
  go_simp
theorem recv (RB : Nat) (nm : String) (w : World) : (receiverAt 153 (.val (.pointer (some ⟨RB, 0, none⟩))) false (some nm)).run Tryz.prog w = (loadVar 155 ⟨RB, 0, none⟩).run Tryz.prog w := by kernel_rfl
theorem fol0 (RB : Nat) (w : World) : (follow [] 153 (.val (.pointer (some ⟨RB, 0, none⟩)))).run Tryz.prog w = .ok (153, .val (.pointer (some ⟨RB, 0, none⟩))) w := by kernel_rfl
theorem find_lessN (N RB : Nat) (SL : Value) (w : World) (h : RC RB SL w) : Sem.run Tryz.prog (method (N + 98 + 1 + 1) 153 (.pointer (some ⟨RB, 0, none⟩)) "Less") w = .ok (264, .agg #[.iface 141 SL]) w := by
  have hl := load_outer h
  rw [method]
  go_simp
  generalize hq : Array.find? (fun (x : Method) => x.name == "Less") _ = q
  have hm : q.map (fun (m : Method) => (m.path, m.func)) = some (#[], some (264, false)) := by rw [← hq]; kernel_rfl
  clear hq
  cases q with
  | none => simp at hm
  | some m =>
    simp only [Option.map_some, Option.some.injEq, Prod.mk.injEq] at hm
    obtain ⟨h1, h2⟩ := hm
    have hf := fol0 RB w
    clear hl
    simp only [h1, h2]
    go_simp
    rw [recv, load_outer h]
    rfl

theorem find_less {RB : Nat} {SL : Value} (w : World) (h : RC RB SL w) : Sem.run Tryz.prog (method 480 153 (.pointer (some ⟨RB, 0, none⟩)) "Less") w = .ok (264, .agg #[.iface 141 SL]) w := find_lessN 380 RB SL w h
theorem find_swap {RB : Nat} {SL : Value} (w : World) (h : RC RB SL w) : Sem.run Tryz.prog (method 480 153 (.pointer (some ⟨RB, 0, none⟩)) "Swap") w = .ok (247, SL) w := find_swapN 380 RB SL w h
theorem find_len {RB : Nat} {SL : Value} (w : World) (h : RC RB SL w) : Sem.run Tryz.prog (method 480 153 (.pointer (some ⟨RB, 0, none⟩)) "Len") w = .ok (244, SL) w := find_lenN 380 RB SL w h

/-- descending -/
def gtK (x y : FK) : Bool := ltK y x
theorem swoG : SWO gtK where
  irrefl := fun x => swoK.irrefl x
  trans := fun x y z h1 h2 => swoK.trans z y x h2 h1
  ntrans := fun x y z h1 h2 => swoK.ntrans z y x h2 h1

end Go.Proofs.YtojicbajcebjjaaGreatDoor
