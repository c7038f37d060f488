/-
  What RANK wants around the sort: the row as floats, Reverse, the first place of a number.
-/
import Derived.Test.YtojicbajcebjjaaGreatDoorYh
import Derived.Test.YtojicbajcebjjaaGreatDoorZi
import Derived.Test.YtojicbajcebjjaaGreatDoorYp
import Derived.Test.YtojicbajcebjjaaGreatDoorSh
import Derived.Test.YtojicbajcebjjaaGreatDoorTn
namespace Go.Proofs.YtojicbajcebjjaaGreatDoor
open Go.RowKit Go.Sort
attribute [local go_sem] run_store_float

theorem below_put {α : Type} [Inhabited α] {B blk off n : Nat} {a w : World} {enc : α → Value} {d : Array α} (os : Array Obj) (h : Below B a w) (hb : B ≤ blk) (hB : B ≤ w.heap.size) : RowKit.Below B a (Sort.grow (putRow enc (Sort.ahead w n) blk off d) os) := by
  refine ⟨h.os, h.tape, h.output, ?_, fun k hk => ?_⟩
  · rw [size_grow]
    have := h.size
    simp
    omega
  · have hk2 : k < (putRow enc (Sort.ahead w n) blk off d).heap.size := by simp; omega
    rw [heap_grow_old _ _ hk2, ← h.block k hk]
    simp only [putRow, mapBlock, Array.getElem?_modify]
    rw [if_neg (by omega)]
    rfl
theorem below_sx {K : Cx} {d : Array FK} {W a : World} {B : Nat} (S : Sx K d W) (h : RowKit.Below B a K.w0) (hb : B ≤ K.blk) : RowKit.Below B a W := by
  obtain ⟨⟨n, os, rfl⟩, _⟩ := S
  exact below_put os h hb (by have := K.hblk; omega)

theorem sort_any (K : Cx) (d : Array FK) (w : World) (S0 : Sx K d w) :
    Calls Tryz.prog 121 #[(.iface 153 (.pointer (some ⟨K.RB, 0, none⟩)))] w fun e w' => e = .returned (.tuple #[]) ∧ ∃ d', PermIn 0 K.size d d' ∧ SortedIn gtK 0 K.size d' ∧ Sx K d' w' := by
  by_cases h2 : 2 ≤ K.size
  · exact sort_x K d w S0 h2
  · refine (sort_tiny K d w S0 (by omega)).mono ?_
    rintro e w' ⟨rfl, S1⟩
    exact ⟨rfl, d, ⟨rfl, fun _ _ => rfl, List.Perm.refl _⟩, fun i j h1 h3 h4 => by omega, S1⟩

/-- cells of floats -/
def cellF (l : List Int) : List Value := l.map fun z => .float .f64 (fi z)
theorem cellF_len (l : List Int) : (cellF l).length = l.length := by simp [cellF]
theorem cellF_get {l : List Int} {k : Nat} {z : Int} (h : l[k]? = some z) : (cellF l)[k]? = some (.float .f64 (fi z)) := by simp [cellF, h]
theorem cellF_succ (l : List Int) (k : Nat) (z : Int) (h : l[k]? = some z) : cellF (l.take (k + 1)) = cellF (l.take k) ++ [.float .f64 (fi z)] := by
  obtain ⟨hk, rfl⟩ := List.getElem?_eq_some_iff.1 h
  unfold cellF
  rw [List.take_succ_eq_append_getElem hk, List.map_append]
  rfl

/-- A row of its own that holds floats, as the sort has it. -/
theorem own_holds {w : World} {base n : Nat} {v : Value} {l : List Int} (ho : w.ownsRow base 33 1 v n (cellF l)) (h1 : 1 ≤ n) (hl : l.length = n) (hz : ∀ z ∈ l, -200 ≤ z ∧ z ≤ 200) :
    ∃ g c, v = .slice (some ⟨g, 0, none⟩) n c ∧ base ≤ g ∧ g < w.heap.size ∧ n ≤ c ∧ Holds encK w g 0 (arrK l) := by
  rcases ho.2 with ⟨_, h0⟩ | ⟨g, cap, cur, hv, hb, hg, hnc, _, hsz, ht⟩
  · omega
  · refine ⟨g, cap, hv, hb, (Array.getElem?_eq_some_iff.1 hg).1, hnc, fun j hj => ?_⟩
    rw [arrK_size] at hj
    have hB : Bk w g 33 cur := hg
    have hjl : l[j]? = some l[j] := List.getElem?_eq_getElem hj
    have hc : cur[j]? = some (.float .f64 (fi l[j])) := by
      have := cellF_get hjl
      rw [← ht, List.getElem?_take] at this
      split at this
      · simpa using this
      · cases this
    refine ⟨?_, hB.frozen _⟩
    rw [hB.cell, Nat.zero_add, hc]
    have e : (arrK l)[j]! = toK l[j] := by simp [arrK, hj]
    rw [e]
    show _ = some (Value.float .f64 (kf (toK l[j])))
    rw [kf_toK (hz _ (List.getElem_mem hj))]

/-- .. and back. -/
theorem holds_cell {w : World} {g j : Nat} {d : Array FK} {z : Int} (h : Holds encK w g 0 d) (hj : (valK d)[j]? = some z) : w.cell? ⟨g, j, none⟩ = some (.float .f64 (fi z)) := by
  have hjl : j < d.size := by have := (List.getElem?_eq_some_iff.1 hj).1; rwa [valK_len] at this
  rw [valK_get hjl] at hj
  injection hj with hj
  subst hj
  have := (h j hjl).1
  rw [Nat.zero_add] at this
  rw [this]
  show some (Value.float .f64 (kf d[j]!)) = _
  rw [kf_eq]

theorem eq_fi (a b : Int) (ha : a.natAbs < 2 ^ 53) (hb : b.natAbs < 2 ^ 53) : (FloatKind.f64.format.order (fi a) (fi b) == some .eq) = decide (a = b) := by
  have := order_fi a b ha hb
  rw [show FloatKind.f64.format.order (fi a) (fi b) = some (compare a b) from this]
  by_cases h : a = b
  · subst h
    simp [compare, compareOfLessAndEq]
  · rcases Int.lt_or_gt_of_ne h with h2 | h2
    · simp [compare, compareOfLessAndEq, h, h2]
    · simp [compare, compareOfLessAndEq, h, show ¬ a < b by omega]

set_option maxHeartbeats 1600000 in
/-- inFloat64Slice: the first place. -/
theorem first_at (g c n k : Nat) (D : List Int) (x : Int) (w : World) (hn : D.length = n) (hl : n ≤ 1000) (hc : ∀ j z, D[j]? = some z → w.cell? ⟨g, j, none⟩ = some (.float .f64 (fi z))) (hx : D[k]? = some x) (hb : ∀ j y, j < k → D[j]? = some y → y ≠ x) (hz : ∀ z ∈ D, -200 ≤ z ∧ z ≤ 200) :
    Calls Tryz.prog 123 #[.slice (some ⟨g, 0, none⟩) n c, .float .f64 (fi x)] w fun e w' => e = .returned (.int .i64 k) ∧ RowKit.Below w.heap.size w w' := by
  have hk : k < n := by have := (List.getElem?_eq_some_iff.1 hx).1; omega
  have hxz := hz x (List.mem_of_getElem? hx)
  have HN : Hid (D.length = n) := hn
  have HB := Lib.hid hb
  have HZ := Lib.hid hz
  have HC := Lib.hid hc
  have HX := Lib.hid hx
  clear hb hz hc hn hx
  go_enter Tryz.func123, Tryz.ntmps123
  go_wp2_with fail
  go_loopw [9] (fun i wr => ∃ m : Nat, m ≤ k ∧ i = .int .i64 m ∧ wr = w) (fun i _ => k + 1 - (intOf i).toNat)
  case atStart => exact ⟨0, Nat.zero_le _, rfl, rfl⟩
  case round =>
    obtain ⟨m, hm, rfl, rfl⟩ := hrel
    obtain ⟨z, hzm⟩ : ∃ z, D[m]? = some z := ⟨_, List.getElem?_eq_getElem (by rw [HN.out]; omega)⟩
    have hcell := HC.out m z hzm
    have hzz := HZ.out z (List.mem_of_getElem? hzm)
    have heq := eq_fi x z (by omega) (by omega)
    by_cases hmk : m = k
    · subst hmk
      have hzx : z = x := by have h1 := HX.out; rw [hzm] at h1; injection h1
      subst hzx
      rw [decide_eq_true rfl] at heq
      clear hzm
      go_wp2
      go_ret
      exact ⟨rfl, RowKit.Below.refl _ _⟩
    · have hne := HB.out m z (by omega) hzm
      rw [decide_eq_false (fun e => hne e.symm)] at heq
      clear hzm hne
      go_wp2
      go_roundw
      case rel => exact ⟨m + 1, by omega, by go_num, trivial⟩
      case measure => simp [intOf]; omega

set_option maxHeartbeats 800000 in
theorem reverse_any (A : Option Addr) (n c : Nat) (w : World) :
    Calls Tryz.prog 122 #[.iface 141 (.slice A n c)] w fun e w' => e = .returned (.iface 153 (.pointer (some ⟨w.heap.size, 0, none⟩))) ∧ w' = w.alloc (.cells #[.iface 141 (.slice A n c)] 155) := by
  go_enter Tryz.func122, Tryz.ntmps122
  go_wp2
  go_ret
  exact ⟨rfl, rfl⟩

end Go.Proofs.YtojicbajcebjjaaGreatDoor
