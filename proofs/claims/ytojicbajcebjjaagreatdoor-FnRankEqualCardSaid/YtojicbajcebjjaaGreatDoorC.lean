/-
  container/list: New, PushBack, Len, Front, Back, Next, over a list of the call's own.
-/
import Derived.Test.YtojicbajcebjjaaGreatDoorW
namespace Go.Proofs.YtojicbajcebjjaaGreatDoor
open Go.RowKit

/-- Block g is just these cells, none frozen. -/
def Bk (w : World) (g : Nat) (t : TypeId) (cs : Array Value) : Prop := w.heap[g]? = some (.cells cs t (0, 0))

section
variable {w w' : World} {g : Nat} {t : TypeId} {cs : Array Value}
theorem Bk.lt (h : Bk w g t cs) : g < w.heap.size := (Array.getElem?_eq_some_iff.1 h).1
theorem Bk.cell (h : Bk w g t cs) (i : Nat) : w.cell? ⟨g, i, none⟩ = cs[i]? := cell_of_row w g i cs t (0, 0) h
theorem Bk.frozen (h : Bk w g t cs) (i : Nat) : w.frozen? ⟨g, i, none⟩ = false := by
  unfold Bk at h
  simp [World.frozen?, h]
theorem Bk.new (w : World) (t : TypeId) (cs : Array Value) : Bk (w.alloc (.cells cs t)) w.heap.size t cs := heap_alloc_new w _
theorem Bk.alloc (h : Bk w g t cs) (o : Obj) : Bk (w.alloc o) g t cs := (heap_alloc_old w o h.lt).trans h
theorem Bk.set_ (h : Bk w g t cs) (i : Nat) (u : Value) : Bk (w.setCell ⟨g, i, none⟩ u) g t (cs.setIfInBounds i u) := by
  unfold Bk at h ⊢
  simp [World.setCell, Array.getElem?_modify, h]
theorem Bk.far (h : Bk w g t cs) {p : Addr} (hp : g ≠ p.block) (u : Value) : Bk (w.setCell p u) g t cs := (Below.heap_setCell w p u g hp).trans h
theorem Bk.later (h : Bk w g t cs) (hb : Below w.heap.size w w') : Bk w' g t cs := (hb.block g h.lt).trans h
theorem Bk.below {B : Nat} (h : Bk w g t cs) (hb : Below B w w') (hg : g < B) : Bk w' g t cs := (hb.block g hg).trans h
end

abbrev pt (g : Nat) : Value := .pointer (some ⟨g, 0, none⟩)

set_option maxHeartbeats 400000 in
theorem list_new (w : World) :
    Calls Tryz.prog 81 #[] w fun e w' => e = .returned (.pointer (some ⟨w.heap.size, 0, none⟩)) ∧ w' = w.alloc (.cells #[.pointer (some ⟨w.heap.size, 0, none⟩), .pointer (some ⟨w.heap.size, 0, none⟩), .pointer none, .nilIface, .int .i64 0] 117) := by
  go_enter Tryz.func81, Tryz.ntmps81
  go_wp2
  go_ret
  exact ⟨rfl, rfl⟩

set_option maxHeartbeats 800000 in
theorem push_empty (L : Nat) (v : Value) (T : TypeId) (w : World)
    (h0 : w.cell? ⟨L, 0, none⟩ = some (.pointer (some ⟨L, 0, none⟩))) (h1 : w.cell? ⟨L, 1, none⟩ = some (.pointer (some ⟨L, 0, none⟩))) (h4 : w.cell? ⟨L, 4, none⟩ = some (.int .i64 0))
    (f0 : w.frozen? ⟨L, 0, none⟩ = false) (f1 : w.frozen? ⟨L, 1, none⟩ = false) (f4 : w.frozen? ⟨L, 4, none⟩ = false) (hL : L < w.heap.size) :
    Calls Tryz.prog 82 #[.pointer (some ⟨L, 0, none⟩), .iface T v] w fun e w' => e = .returned (.pointer (some ⟨w.heap.size, 0, none⟩)) ∧
      w' = (((w.setCell ⟨L, 0, none⟩ (.pointer (some ⟨w.heap.size, 0, none⟩))).setCell ⟨L, 1, none⟩ (.pointer (some ⟨w.heap.size, 0, none⟩))).setCell ⟨L, 4, none⟩ (.int .i64 1)).alloc (.cells #[.pointer (some ⟨L, 0, none⟩), .pointer (some ⟨L, 0, none⟩), .pointer (some ⟨L, 0, none⟩), .iface T v] 91) := by
  go_enter Tryz.func82, Tryz.ntmps82
  go_wp2
  go_end0
  go_wp2
  go_ret
  exact ⟨rfl, rfl⟩

set_option maxHeartbeats 800000 in
theorem push_more (L la F n : Nat) (v : Value) (T : TypeId) (w : World) (hne : la ≠ L) (hn : n ≤ 1000000)
    (h0 : w.cell? ⟨L, 0, none⟩ = some (.pointer (some ⟨F, 0, none⟩))) (h1 : w.cell? ⟨L, 1, none⟩ = some (.pointer (some ⟨la, 0, none⟩))) (h4 : w.cell? ⟨L, 4, none⟩ = some (.int .i64 n))
    (f1 : w.frozen? ⟨L, 1, none⟩ = false) (f4 : w.frozen? ⟨L, 4, none⟩ = false) (hL : L < w.heap.size)
    (k0 : w.cell? ⟨la, 0, none⟩ = some (.pointer (some ⟨L, 0, none⟩))) (g0 : w.frozen? ⟨la, 0, none⟩ = false) (hla : la < w.heap.size) :
    Calls Tryz.prog 82 #[.pointer (some ⟨L, 0, none⟩), .iface T v] w fun e w' => e = .returned (.pointer (some ⟨w.heap.size, 0, none⟩)) ∧
      w' = (((w.setCell ⟨la, 0, none⟩ (.pointer (some ⟨w.heap.size, 0, none⟩))).setCell ⟨L, 1, none⟩ (.pointer (some ⟨w.heap.size, 0, none⟩))).setCell ⟨L, 4, none⟩ (.int .i64 (n + 1))).alloc (.cells #[.pointer (some ⟨L, 0, none⟩), .pointer (some ⟨la, 0, none⟩), .pointer (some ⟨L, 0, none⟩), .iface T v] 91) := by
  have hne' : ¬ L = la := fun e => hne e.symm
  go_enter Tryz.func82, Tryz.ntmps82
  go_wp2
  go_end0
  go_wp2
  go_ret
  exact ⟨rfl, rfl⟩

/-- The address of the element i, or of the root behind the last one. -/
def nx (L : Nat) (es : List Nat) (i : Nat) : Nat := (es[i]?).getD L

/-- Block L is a list of the values vs (formulaArgs), in the blocks es. -/
structure IsList (w : World) (L : Nat) (es : List Nat) (vs : List Value) : Prop where
  len : es.length = vs.length
  root : Bk w L 117 #[.pointer (some ⟨nx L es 0, 0, none⟩), .pointer (some ⟨es.getLast?.getD L, 0, none⟩), .pointer none, .nilIface, .int .i64 es.length]
  elem : ∀ i e v, es[i]? = some e → vs[i]? = some v → ∃ p, Bk w e 91 #[.pointer (some ⟨nx L es (i + 1), 0, none⟩), p, .pointer (some ⟨L, 0, none⟩), .iface 73 v]
  gt : ∀ e ∈ es, L < e
  up : es.Pairwise (· < ·)

theorem IsList.below {w w' : World} {L : Nat} {es : List Nat} {vs : List Value} (h : IsList w L es vs) (hb : Below w.heap.size w w') : IsList w' L es vs :=
  ⟨h.len, h.root.below hb h.root.lt, fun i e v he hv => let ⟨p, hp⟩ := h.elem i e v he hv; ⟨p, hp.below hb hp.lt⟩, h.gt, h.up⟩

theorem IsList.new (w : World) : IsList (w.alloc (.cells #[.pointer (some ⟨w.heap.size, 0, none⟩), .pointer (some ⟨w.heap.size, 0, none⟩), .pointer none, .nilIface, .int .i64 0] 117)) w.heap.size [] [] :=
  ⟨rfl, Bk.new w 117 _, fun i e v he => by simp at he, fun e he => by simp at he, List.Pairwise.nil⟩

set_option maxHeartbeats 1000000 in
theorem push_any (L : Nat) (es : List Nat) (vs : List Value) (v : Value) (w : World) (h : IsList w L es vs) (hn : es.length ≤ 1000000) :
    Calls Tryz.prog 82 #[.pointer (some ⟨L, 0, none⟩), .iface 73 v] w fun e w' => (∃ a, e = .returned (.pointer (some a))) ∧ (∃ E, IsList w' L (es ++ [E]) (vs ++ [v])) ∧ Below L w w' := by
  have hr := h.root
  have hL := hr.lt
  rcases List.eq_nil_or_concat es with rfl | ⟨es0, la, rfl⟩
  · have hv : vs = [] := List.eq_nil_of_length_eq_zero h.len.symm
    subst hv
    refine (push_empty L v 73 w (hr.cell 0) (hr.cell 1) (hr.cell 4) (hr.frozen 0) (hr.frozen 1) (hr.frozen 4) hL).mono ?_
    rintro e w' ⟨rfl, rfl⟩
    refine ⟨⟨_, rfl⟩, ⟨w.heap.size, ?_⟩, ?_⟩
    · refine ⟨rfl, ?_, ?_, ?_, by simp⟩
      · exact ((((hr.set_ 0 _).set_ 1 _).set_ 4 _).alloc _)
      · intro i e u he hu
        match i, he with
        | 0, he =>
          simp at he hu
          subst he hu
          have := Bk.new (((w.setCell ⟨L, 0, none⟩ (.pointer (some ⟨w.heap.size, 0, none⟩))).setCell ⟨L, 1, none⟩ (.pointer (some ⟨w.heap.size, 0, none⟩))).setCell ⟨L, 4, none⟩ (.int .i64 1)) 91 #[.pointer (some ⟨L, 0, none⟩), .pointer (some ⟨L, 0, none⟩), .pointer (some ⟨L, 0, none⟩), .iface 73 v]
          have hs : (((w.setCell ⟨L, 0, none⟩ (.pointer (some ⟨w.heap.size, 0, none⟩))).setCell ⟨L, 1, none⟩ (.pointer (some ⟨w.heap.size, 0, none⟩))).setCell ⟨L, 4, none⟩ (.int .i64 1)).heap.size = w.heap.size := by simp
          rw [hs] at this
          exact ⟨_, this⟩
      · intro e he; simp at he; subst he; exact hL
    · exact (((((Below.refl L w).setCell (Nat.le_refl _) _).setCell (Nat.le_refl _) _).setCell (Nat.le_refl _) _).alloc (by simp; omega) _)
  · obtain ⟨vs0, v0, rfl⟩ : ∃ vs0 v0, vs = vs0 ++ [v0] := by
      rcases List.eq_nil_or_concat vs with rfl | ⟨a, b, rfl⟩
      · have := h.len; simp at this
      · exact ⟨a, b, by simp⟩
    simp only [List.concat_eq_append] at *
    have hl : es0.length = vs0.length := by have := h.len; simpa using this
    have hla : L < la := h.gt la (by simp)
    obtain ⟨p, hp⟩ := h.elem es0.length la v0 (by simp) (by rw [hl]; simp)
    have hnx : nx L (es0 ++ [la]) (es0.length + 1) = L := by simp [nx]
    rw [hnx] at hp
    have hr1 : Bk w L 117 #[.pointer (some ⟨nx L (es0 ++ [la]) 0, 0, none⟩), .pointer (some ⟨la, 0, none⟩), .pointer none, .nilIface, .int .i64 (es0 ++ [la]).length] := by simpa using hr
    refine (push_more L la (nx L (es0 ++ [la]) 0) (es0 ++ [la]).length v 73 w (by omega) hn (hr1.cell 0) (hr1.cell 1) (hr1.cell 4) (hr1.frozen 1) (hr1.frozen 4) hL (hp.cell 0) (hp.frozen 0) hp.lt).mono ?_
    rintro e w' ⟨rfl, rfl⟩
    have hlt := hp.lt
    refine ⟨⟨_, rfl⟩, ⟨w.heap.size, ?_⟩, ?_⟩
    · refine ⟨by simp [hl], ?_, ?_, ?_, ?_⟩
      · have := (((hr1.far (p := ⟨la, 0, none⟩) (by show L ≠ la; omega) (.pointer (some ⟨w.heap.size, 0, none⟩))).set_ 1 (.pointer (some ⟨w.heap.size, 0, none⟩))).set_ 4 (.int .i64 ((es0 ++ [la]).length + 1))).alloc (.cells #[.pointer (some ⟨L, 0, none⟩), .pointer (some ⟨la, 0, none⟩), .pointer (some ⟨L, 0, none⟩), .iface 73 v] 91)
        have e1 : nx L (es0 ++ [la] ++ [w.heap.size]) 0 = nx L (es0 ++ [la]) 0 := by cases es0 <;> simp [nx]
        rw [e1]
        simpa [Int.add_assoc] using this
      · intro i e u he hu
        by_cases hi : i = (es0 ++ [la]).length
        · subst hi
          simp at he
          rw [show (es0 ++ [la]).length = (vs0 ++ [v0]).length by simp [hl]] at hu
          simp at hu
          subst he hu
          have := Bk.new (((w.setCell ⟨la, 0, none⟩ (.pointer (some ⟨w.heap.size, 0, none⟩))).setCell ⟨L, 1, none⟩ (.pointer (some ⟨w.heap.size, 0, none⟩))).setCell ⟨L, 4, none⟩ (.int .i64 ((es0 ++ [la]).length + 1))) 91 #[.pointer (some ⟨L, 0, none⟩), .pointer (some ⟨la, 0, none⟩), .pointer (some ⟨L, 0, none⟩), .iface 73 v]
          have hs : (((w.setCell ⟨la, 0, none⟩ (.pointer (some ⟨w.heap.size, 0, none⟩))).setCell ⟨L, 1, none⟩ (.pointer (some ⟨w.heap.size, 0, none⟩))).setCell ⟨L, 4, none⟩ (.int .i64 ((es0 ++ [la]).length + 1))).heap.size = w.heap.size := by simp
          rw [hs] at this
          have e2 : nx L (es0 ++ [la] ++ [w.heap.size]) ((es0 ++ [la]).length + 1) = L := by simp [nx]
          rw [e2]
          exact ⟨_, this⟩
        · have hi2 : i < (es0 ++ [la]).length := by
            have := (List.getElem?_eq_some_iff.1 he).1
            simp at this hi ⊢; omega
          rw [List.getElem?_append_left hi2] at he
          rw [List.getElem?_append_left (by rw [← h.len]; exact hi2)] at hu
          obtain ⟨q, hq⟩ := h.elem i e u he hu
          have hLe := h.gt e (List.mem_of_getElem? he)
          by_cases hj : i = es0.length
          · subst hj
            simp at he
            subst he
            have := (((hq.set_ 0 (.pointer (some ⟨w.heap.size, 0, none⟩))).far (p := ⟨L, 1, none⟩) (by show la ≠ L; omega) (.pointer (some ⟨w.heap.size, 0, none⟩))).far (p := ⟨L, 4, none⟩) (by show la ≠ L; omega) (.int .i64 ((es0 ++ [la]).length + 1))).alloc (.cells #[.pointer (some ⟨L, 0, none⟩), .pointer (some ⟨la, 0, none⟩), .pointer (some ⟨L, 0, none⟩), .iface 73 v] 91)
            have e3 : nx L (es0 ++ [la] ++ [w.heap.size]) (es0.length + 1) = w.heap.size := by simp [nx]
            rw [e3]
            exact ⟨q, by simpa using this⟩
          · have hi3 : i < es0.length := by simp at hi2; omega
            have hela : e < la := by
              have := List.pairwise_append.1 h.up
              refine this.2.2 e ?_ la (by simp)
              rw [List.getElem?_append_left hi3] at he
              exact List.mem_of_getElem? he
            have := (((hq.far (p := ⟨la, 0, none⟩) (by show e ≠ la; omega) (.pointer (some ⟨w.heap.size, 0, none⟩))).far (p := ⟨L, 1, none⟩) (by show e ≠ L; omega) (.pointer (some ⟨w.heap.size, 0, none⟩))).far (p := ⟨L, 4, none⟩) (by show e ≠ L; omega) (.int .i64 ((es0 ++ [la]).length + 1))).alloc (.cells #[.pointer (some ⟨L, 0, none⟩), .pointer (some ⟨la, 0, none⟩), .pointer (some ⟨L, 0, none⟩), .iface 73 v] 91)
            have e4 : nx L (es0 ++ [la] ++ [w.heap.size]) (i + 1) = nx L (es0 ++ [la]) (i + 1) := by
              unfold nx; rw [List.getElem?_append_left (by simp; omega)]
            rw [e4]
            exact ⟨q, this⟩
      · intro e he
        rcases List.mem_append.1 he with he | he
        · exact h.gt e he
        · simp at he; subst he; exact hL
      · refine List.pairwise_append.2 ⟨h.up, by simp, fun a ha b hb => ?_⟩
        simp at hb
        subst hb
        obtain ⟨i, hi⟩ := List.getElem?_of_mem ha
        have hiv : i < (vs0 ++ [v0]).length := by rw [← h.len]; exact (List.getElem?_eq_some_iff.1 hi).1
        obtain ⟨q, hq⟩ := h.elem i a _ hi (List.getElem?_eq_getElem hiv)
        exact hq.lt
    · exact (((((Below.refl L w).setCell (p := ⟨la, 0, none⟩) (by show L ≤ la; omega) _).setCell (Nat.le_refl _) _).setCell (Nat.le_refl _) _).alloc (by simp; omega) _)

set_option maxHeartbeats 400000 in
theorem list_len (L : Nat) (es : List Nat) (vs : List Value) (w : World) (h : IsList w L es vs) :
    Calls Tryz.prog 84 #[.pointer (some ⟨L, 0, none⟩)] w fun e w' => e = .returned (.int .i64 vs.length) ∧ w = w' := by
  have h4 : w.cell? ⟨L, 4, none⟩ = some (.int .i64 es.length) := h.root.cell 4
  have HL := Lib.hid h.len
  go_enter Tryz.func84, Tryz.ntmps84
  go_wp2
  go_ret
  exact ⟨by rw [← HL.out]; rfl, rfl⟩

set_option maxHeartbeats 400000 in
theorem list_front (L e0 : Nat) (es : List Nat) (vs : List Value) (w : World) (h : IsList w L (e0 :: es) vs) :
    Calls Tryz.prog 86 #[.pointer (some ⟨L, 0, none⟩)] w fun e w' => e = .returned (.pointer (some ⟨e0, 0, none⟩)) ∧ w = w' := by
  have h4 : w.cell? ⟨L, 4, none⟩ = some (.int .i64 (e0 :: es).length) := h.root.cell 4
  have h0 : w.cell? ⟨L, 0, none⟩ = some (.pointer (some ⟨e0, 0, none⟩)) := h.root.cell 0
  have hb : ((((e0 :: es).length : Nat) : Int) == 0) = false := by rw [beq_eq_false_iff_ne]; simp; omega
  generalize (e0 :: es).length = n at h4 hb
  go_enter Tryz.func86, Tryz.ntmps86
  go_wp2
  go_ret
  exact ⟨rfl, rfl⟩

set_option maxHeartbeats 400000 in
theorem list_back (L la : Nat) (es : List Nat) (vs : List Value) (w : World) (h : IsList w L (es ++ [la]) vs) :
    Calls Tryz.prog 88 #[.pointer (some ⟨L, 0, none⟩)] w fun e w' => e = .returned (.pointer (some ⟨la, 0, none⟩)) ∧ w = w' := by
  have h4 : w.cell? ⟨L, 4, none⟩ = some (.int .i64 (es ++ [la]).length) := h.root.cell 4
  have h1 : w.cell? ⟨L, 1, none⟩ = some (.pointer (some ⟨la, 0, none⟩)) := by have := h.root.cell 1; simpa using this
  have hb : ((((es ++ [la]).length : Nat) : Int) == 0) = false := by rw [beq_eq_false_iff_ne]; simp; omega
  generalize (es ++ [la]).length = n at h4 hb
  go_enter Tryz.func88, Tryz.ntmps88
  go_wp2
  go_ret
  exact ⟨rfl, rfl⟩
end Go.Proofs.YtojicbajcebjjaaGreatDoor
