/-
  A column as a matrix of formulaArgs; the list of the arguments.
-/
import Derived.Test.YtojicbajcebjjaaGreatDoorSe
import Derived.StillTailTactics
namespace Go.Proofs.YtojicbajcebjjaaGreatDoor
open Go.RowKit
attribute [local go_sem] run_store_float

theorem Tryz.info73 : (Tryz.prog.info? 73).map (fun i => (i.zero, i.size, i.bytes)) = some (some (.agg #[.string ⟨#[]⟩, .float .f64 0, .string ⟨#[]⟩, .slice none 0 0, .slice none 0 0, .bool false, .string ⟨#[]⟩, .int .u8 0, .pointer none, .pointer none]), 10, 136) := by kernel_rfl
theorem Tryz.info68 : (Tryz.prog.info? 68).map (fun i => (i.zero, i.size, i.bytes)) = some (some (.slice none 0 0), 1, 24) := by kernel_rfl

/-- the cells of a number as a formulaArg -/
def nf (n : Int) : List Value := [.string ⟨#[]⟩, .float .f64 (fi n), .string ⟨#[]⟩, .slice none 0 0, .slice none 0 0, .bool false, .string ⟨#[]⟩, .int .u8 1, .pointer none, .pointer none]
/-- a matrix as a formulaArg -/
def fm (A : Option Addr) (n c p q : Nat) : Value := .agg #[.string ⟨#[]⟩, .float .f64 0, .string ⟨#[]⟩, .slice none 0 0, .slice A n c, .bool false, .string ⟨#[]⟩, .int .u8 4, .pointer (some ⟨p, 0, none⟩), .pointer (some ⟨q, 0, none⟩)]

set_option maxHeartbeats 400000 in
theorem newMatrix_any (A : Option Addr) (n c : Nat) (w : World) :
    Calls Tryz.prog 106 #[.slice A n c] w fun e w' => e = .returned (.agg #[.string ⟨#[]⟩, .float .f64 0, .string ⟨#[]⟩, .slice none 0 0, .slice A n c, .bool false, .string ⟨#[]⟩, .int .u8 4, .pointer none, .pointer none]) ∧ Below w.heap.size w w' := by
  go_enter Tryz.func106, Tryz.ntmps106
  go_wp2
  exact bodyPost_ret (v := .agg #[.string ⟨#[]⟩, .float .f64 0, .string ⟨#[]⟩, .slice none 0 0, .slice A n c, .bool false, .string ⟨#[]⟩, .int .u8 4, .pointer none, .pointer none]) (by simp [results, Tryz.results106, go_sem]) rfl ⟨rfl, (Below.refl _ _).alloc (Nat.le_refl _) _⟩

set_option maxHeartbeats 1000000 in
theorem push_far (L : Nat) (es : List Nat) (vs : List Value) (v : Value) (w : World) (h : IsList w L es vs) (hn : es.length ≤ 1000000) :
    Calls Tryz.prog 82 #[.pointer (some ⟨L, 0, none⟩), .iface 73 v] w fun e w' => (∃ a, e = .returned (.pointer (some a))) ∧ (∃ E, IsList w' L (es ++ [E]) (vs ++ [v]) ∧ E = w.heap.size) ∧ Below L w w' ∧ ∀ b, b < w.heap.size → b ≠ L → b ∉ es → w'.heap[b]? = w.heap[b]? := by
  have hr := h.root
  have hL := hr.lt
  rcases List.eq_nil_or_concat es with rfl | ⟨es0, la, rfl⟩
  · have hv : vs = [] := List.eq_nil_of_length_eq_zero h.len.symm
    subst hv
    refine (push_empty L v 73 w (hr.cell 0) (hr.cell 1) (hr.cell 4) (hr.frozen 0) (hr.frozen 1) (hr.frozen 4) hL).mono ?_
    rintro e w' ⟨rfl, rfl⟩
    refine ⟨⟨_, rfl⟩, ⟨w.heap.size, ?_, rfl⟩, ?_, ?_⟩
    · refine ⟨rfl, ?_, ?_, ?_, by simp⟩
      · exact ((((hr.set_ 0 _).set_ 1 _).set_ 4 _).alloc _)
      · intro i e u he hu
        match i, he with
        | 0, he =>
          simp at he hu
          subst he hu
          have := Bk.new (((w.setCell ⟨L, 0, none⟩ (.pointer (some ⟨w.heap.size, 0, none⟩))).setCell ⟨L, 1, none⟩ (.pointer (some ⟨w.heap.size, 0, none⟩))).setCell ⟨L, 4, none⟩ (.int .i64 1)) 91 #[.pointer (some ⟨L, 0, none⟩), .pointer (some ⟨L, 0, none⟩), .pointer (some ⟨L, 0, none⟩), .iface 73 v]
          have hs : (((w.setCell ⟨L, 0, none⟩ (.pointer (some ⟨w.heap.size, 0, none⟩))).setCell ⟨L, 1, none⟩ (.pointer (some ⟨w.heap.size, 0, none⟩))).setCell ⟨L, 4, none⟩ (.int .i64 1)).heap.size = w.heap.size := by simp
          rw [hs] at this
          exact ⟨_, this⟩
      · intro e he; simp at he; subst he; exact hL
    · exact (((((Below.refl L w).setCell (Nat.le_refl _) _).setCell (Nat.le_refl _) _).setCell (Nat.le_refl _) _).alloc (by simp; omega) _)
    · intro b hb hbL _
      exact (heap_alloc_old _ _ (by simpa using hb)).trans ((Below.heap_setCell _ _ _ b hbL).trans ((Below.heap_setCell _ _ _ b hbL).trans (Below.heap_setCell _ _ _ b hbL)))
  · obtain ⟨vs0, v0, rfl⟩ : ∃ vs0 v0, vs = vs0 ++ [v0] := by
      rcases List.eq_nil_or_concat vs with rfl | ⟨a, b, rfl⟩
      · have := h.len; simp at this
      · exact ⟨a, b, by simp⟩
    simp only [List.concat_eq_append] at *
    have hl : es0.length = vs0.length := by have := h.len; simpa using this
    have hla : L < la := h.gt la (by simp)
    obtain ⟨p, hp⟩ := h.elem es0.length la v0 (by simp) (by rw [hl]; simp)
    have hnx : nx L (es0 ++ [la]) (es0.length + 1) = L := by simp [nx]
    rw [hnx] at hp
    have hr1 : Bk w L 117 #[.pointer (some ⟨nx L (es0 ++ [la]) 0, 0, none⟩), .pointer (some ⟨la, 0, none⟩), .pointer none, .nilIface, .int .i64 (es0 ++ [la]).length] := by simpa using hr
    refine (push_more L la (nx L (es0 ++ [la]) 0) (es0 ++ [la]).length v 73 w (by omega) hn (hr1.cell 0) (hr1.cell 1) (hr1.cell 4) (hr1.frozen 1) (hr1.frozen 4) hL (hp.cell 0) (hp.frozen 0) hp.lt).mono ?_
    rintro e w' ⟨rfl, rfl⟩
    have hlt := hp.lt
    refine ⟨⟨_, rfl⟩, ⟨w.heap.size, ?_, rfl⟩, ?_, ?_⟩
    · refine ⟨by simp [hl], ?_, ?_, ?_, ?_⟩
      · have := (((hr1.far (p := ⟨la, 0, none⟩) (by show L ≠ la; omega) (.pointer (some ⟨w.heap.size, 0, none⟩))).set_ 1 (.pointer (some ⟨w.heap.size, 0, none⟩))).set_ 4 (.int .i64 ((es0 ++ [la]).length + 1))).alloc (.cells #[.pointer (some ⟨L, 0, none⟩), .pointer (some ⟨la, 0, none⟩), .pointer (some ⟨L, 0, none⟩), .iface 73 v] 91)
        have e1 : nx L (es0 ++ [la] ++ [w.heap.size]) 0 = nx L (es0 ++ [la]) 0 := by cases es0 <;> simp [nx]
        rw [e1]
        simpa [Int.add_assoc] using this
      · intro i e u he hu
        by_cases hi : i = (es0 ++ [la]).length
        · subst hi
          simp at he
          rw [show (es0 ++ [la]).length = (vs0 ++ [v0]).length by simp [hl]] at hu
          simp at hu
          subst he hu
          have := Bk.new (((w.setCell ⟨la, 0, none⟩ (.pointer (some ⟨w.heap.size, 0, none⟩))).setCell ⟨L, 1, none⟩ (.pointer (some ⟨w.heap.size, 0, none⟩))).setCell ⟨L, 4, none⟩ (.int .i64 ((es0 ++ [la]).length + 1))) 91 #[.pointer (some ⟨L, 0, none⟩), .pointer (some ⟨la, 0, none⟩), .pointer (some ⟨L, 0, none⟩), .iface 73 v]
          have hs : (((w.setCell ⟨la, 0, none⟩ (.pointer (some ⟨w.heap.size, 0, none⟩))).setCell ⟨L, 1, none⟩ (.pointer (some ⟨w.heap.size, 0, none⟩))).setCell ⟨L, 4, none⟩ (.int .i64 ((es0 ++ [la]).length + 1))).heap.size = w.heap.size := by simp
          rw [hs] at this
          have e2 : nx L (es0 ++ [la] ++ [w.heap.size]) ((es0 ++ [la]).length + 1) = L := by simp [nx]
          rw [e2]
          exact ⟨_, this⟩
        · have hi2 : i < (es0 ++ [la]).length := by
            have := (List.getElem?_eq_some_iff.1 he).1
            simp at this hi ⊢; omega
          rw [List.getElem?_append_left hi2] at he
          rw [List.getElem?_append_left (by rw [← h.len]; exact hi2)] at hu
          obtain ⟨q, hq⟩ := h.elem i e u he hu
          have hLe := h.gt e (List.mem_of_getElem? he)
          by_cases hj : i = es0.length
          · subst hj
            simp at he
            subst he
            have := (((hq.set_ 0 (.pointer (some ⟨w.heap.size, 0, none⟩))).far (p := ⟨L, 1, none⟩) (by show la ≠ L; omega) (.pointer (some ⟨w.heap.size, 0, none⟩))).far (p := ⟨L, 4, none⟩) (by show la ≠ L; omega) (.int .i64 ((es0 ++ [la]).length + 1))).alloc (.cells #[.pointer (some ⟨L, 0, none⟩), .pointer (some ⟨la, 0, none⟩), .pointer (some ⟨L, 0, none⟩), .iface 73 v] 91)
            have e3 : nx L (es0 ++ [la] ++ [w.heap.size]) (es0.length + 1) = w.heap.size := by simp [nx]
            rw [e3]
            exact ⟨q, by simpa using this⟩
          · have hi3 : i < es0.length := by simp at hi2; omega
            have hela : e < la := by
              have := List.pairwise_append.1 h.up
              refine this.2.2 e ?_ la (by simp)
              rw [List.getElem?_append_left hi3] at he
              exact List.mem_of_getElem? he
            have := (((hq.far (p := ⟨la, 0, none⟩) (by show e ≠ la; omega) (.pointer (some ⟨w.heap.size, 0, none⟩))).far (p := ⟨L, 1, none⟩) (by show e ≠ L; omega) (.pointer (some ⟨w.heap.size, 0, none⟩))).far (p := ⟨L, 4, none⟩) (by show e ≠ L; omega) (.int .i64 ((es0 ++ [la]).length + 1))).alloc (.cells #[.pointer (some ⟨L, 0, none⟩), .pointer (some ⟨la, 0, none⟩), .pointer (some ⟨L, 0, none⟩), .iface 73 v] 91)
            have e4 : nx L (es0 ++ [la] ++ [w.heap.size]) (i + 1) = nx L (es0 ++ [la]) (i + 1) := by
              unfold nx; rw [List.getElem?_append_left (by simp; omega)]
            rw [e4]
            exact ⟨q, this⟩
      · intro e he
        rcases List.mem_append.1 he with he | he
        · exact h.gt e he
        · simp at he; subst he; exact hL
      · refine List.pairwise_append.2 ⟨h.up, by simp, fun a ha b hb => ?_⟩
        simp at hb
        subst hb
        obtain ⟨i, hi⟩ := List.getElem?_of_mem ha
        have hiv : i < (vs0 ++ [v0]).length := by rw [← h.len]; exact (List.getElem?_eq_some_iff.1 hi).1
        obtain ⟨q, hq⟩ := h.elem i a _ hi (List.getElem?_eq_getElem hiv)
        exact hq.lt
    · exact (((((Below.refl L w).setCell (p := ⟨la, 0, none⟩) (by show L ≤ la; omega) _).setCell (Nat.le_refl _) _).setCell (Nat.le_refl _) _).alloc (by simp; omega) _)
    · intro b hb hbL hbe
      have hbla : b ≠ la := fun h => hbe (by simp [h])
      exact (heap_alloc_old _ _ (by simpa using hb)).trans ((Below.heap_setCell _ _ _ b hbL).trans ((Below.heap_setCell _ _ _ b hbL).trans (Below.heap_setCell _ _ _ b hbla)))


set_option maxRecDepth 100000 in
set_option maxHeartbeats 6400000 in
/-- A column: a matrix. -/
theorem innerArg_col (lo : Nat) (A : Option Addr) (len c : Nat) (l : List Int) (w : World) (hlen : l.length = len) (hl : len ≤ 1000) (h1 : 1 ≤ len) (hcol : Col w lo w.heap.size 59 A nv l) (hs : ∀ z ∈ l, z.natAbs < 2 ^ 53) :
    Calls Tryz.prog 83 #[.agg #[.int .i64 5, .float .f64 0, .string ⟨#[]⟩, .slice A len c]] w fun e w' => ∃ A' c' p q, e = .returned (fm A' len c' p q) ∧ Col w' w.heap.size w'.heap.size 73 A' nf l ∧ Below w.heap.size w w' := by
  obtain ⟨i0, hi, hz0, hz1, hz2⟩ := info_parts Tryz.info73
  obtain ⟨j0, ji, jz0, jz1, jz2⟩ := info_parts Tryz.info68
  have HL : Hid (l.length = len) := hlen
  clear hlen
  go_enter Tryz.func83, Tryz.ntmps83
  go_wp2_with fail
  have G2 : Bk ((w.alloc (.cells #[.int .i64 5, .float .f64 0, .string ⟨#[]⟩, .slice A len c] 59)).alloc (.cells #[.string ⟨#[]⟩, .float .f64 0, .string ⟨#[]⟩, .slice none 0 0, .slice none 0 0, .bool false, .string ⟨#[]⟩, .int .u8 0, .pointer none, .pointer none] 73)) (w.heap.size + 1) 73 #[.string ⟨#[]⟩, .float .f64 0, .string ⟨#[]⟩, .slice none 0 0, .slice none 0 0, .bool false, .string ⟨#[]⟩, .int .u8 0, .pointer none, .pointer none] := by
    have := Bk.new (w.alloc (.cells #[.int .i64 5, .float .f64 0, .string ⟨#[]⟩, .slice A len c] 59)) 73 #[.string ⟨#[]⟩, .float .f64 0, .string ⟨#[]⟩, .slice none 0 0, .slice none 0 0, .bool false, .string ⟨#[]⟩, .int .u8 0, .pointer none, .pointer none]
    simpa using this
  have bz := ((Below.refl w.heap.size w).alloc (Nat.le_refl _) (.cells #[.int .i64 5, .float .f64 0, .string ⟨#[]⟩, .slice A len c] 59)).alloc (by simp) (.cells #[.string ⟨#[]⟩, .float .f64 0, .string ⟨#[]⟩, .slice none 0 0, .slice none 0 0, .bool false, .string ⟨#[]⟩, .int .u8 0, .pointer none, .pointer none] 73)
  have sz : ((w.alloc (.cells #[.int .i64 5, .float .f64 0, .string ⟨#[]⟩, .slice A len c] 59)).alloc (.cells #[.string ⟨#[]⟩, .float .f64 0, .string ⟨#[]⟩, .slice none 0 0, .slice none 0 0, .bool false, .string ⟨#[]⟩, .int .u8 0, .pointer none, .pointer none] 73)).heap.size = w.heap.size + 1 + 1 := by simp
  have hcol0 := hcol.below bz (Nat.le_refl _)
  clear hcol
  generalize ((w.alloc (.cells #[.int .i64 5, .float .f64 0, .string ⟨#[]⟩, .slice A len c] 59)).alloc (.cells #[.string ⟨#[]⟩, .float .f64 0, .string ⟨#[]⟩, .slice none 0 0, .slice none 0 0, .bool false, .string ⟨#[]⟩, .int .u8 0, .pointer none, .pointer none] 73)) = W0 at *
  generalize hH : w.heap.size = H at *
  go_loopw [3, 40] (fun v i wr => ∃ (k : Nat) (rows : List Value), k ≤ len ∧ i = .int .i64 k ∧ wr.ownsRow (H + 1 + 1) 68 1 v k rows ∧ Rows wr (H + 1 + 1) wr.heap.size 73 nf (l.take k) rows ∧ Below (H + 1 + 1) W0 wr)
    (fun _ i _ => len - (intOf i).toNat)
  case atStart => exact ⟨0, [], Nat.zero_le _, rfl, World.ownsRow_nil _ _ _ _, Rows.nil, Below.refl _ _⟩
  case round =>
    obtain ⟨k, rows, hk, rfl, hown, hrows, hbel⟩ := hrel
    obtain ⟨V0, rfl⟩ : ∃ V0, V0 = wr := ⟨wr, rfl⟩
    have hsz := hbel.size
    by_cases hlt : k < len
    · obtain ⟨z, hz⟩ : ∃ z, l[k]? = some z := ⟨_, List.getElem?_eq_getElem (by rw [HL.out]; exact hlt)⟩
      obtain ⟨b, o, b1, o1, c1, rfl, hb, hrow, hb1, hc⟩ := (hcol0.below hbel (by omega)).at_ hz
      have H1 := Lib.hid (hs z (List.mem_of_getElem? hz))
      have HZ := Lib.hid hz
      have HO := Lib.hid hown
      have HR := Lib.hid hrows
      have HB := Lib.hid hbel
      clear hz hown hrows hbel
      go_wp2_with fail
      go_loopw [6, 46] (fun v i wx => ∃ m : Nat, m ≤ 1 ∧ i = .int .i64 m ∧ wx.ownsRow V0.heap.size 73 10 v m (([z].take m).flatMap nf) ∧ Below V0.heap.size V0 wx)
        (fun _ i _ => 1 - (intOf i).toNat)
      case atStart => exact ⟨0, Nat.zero_le _, rfl, World.ownsRow_nil _ _ _ _, Below.refl _ _⟩
      case round =>
        obtain ⟨m, hm, rfl, hown, hbel⟩ := hrel
        have hsx := hbel.size
        by_cases hml : m < 1
        · have hm0 : m = 0 := by omega
          have d := fun j u hu => (hbel.cell (p := ⟨b1, o1 + j, none⟩) (show b1 < _ by omega)).trans (hc j u hu)
          have d0 : wr.cell? ⟨b1, o1 + m * 4, none⟩ = some (.int .i64 1) := by have := d 0 _ rfl; rwa [← add_zero4 o1 m 0 hm0] at this
          have d1 : wr.cell? ⟨b1, o1 + m * 4 + 1, none⟩ = some (.float .f64 (fi z)) := by rw [add_zero4 o1 m 1 hm0]; exact d 1 _ rfl
          have d2 : wr.cell? ⟨b1, o1 + m * 4 + 2, none⟩ = some (.string ⟨#[]⟩) := by rw [add_zero4 o1 m 2 hm0]; exact d 2 _ rfl
          have d3 : wr.cell? ⟨b1, o1 + m * 4 + 3, none⟩ = some (.slice none 0 0) := by rw [add_zero4 o1 m 3 hm0]; exact d 3 _ rfl
          have HM := Lib.hid hm0
          clear d hm0
          go_wp2_with fail
          refine (innerArg_num z _ H1.out).mono ?_
          rintro e w2 ⟨rfl, hb2⟩
          have hown2 := own_below (hown.alloc (.cells #[.int .i64 1, .float .f64 (fi z), .string ⟨#[]⟩, .slice none 0 0] 59)) hb2
          have hbel2 := (hbel.alloc hbel.size (.cells #[.int .i64 1, .float .f64 (fi z), .string ⟨#[]⟩, .slice none 0 0] 59)).trans (hb2.mono (by simp; omega))
          have s2 := hbel2.size
          clear hown hbel hb2 d0 d1 d2 d3
          go_wp2_with (at_builtin; refine wpList_append_own _ rfl (.tmp 50) (.tmp 53) 68 rfl V0.heap.size 73 i0 _ 10 136 Tryz.underlying68 hi hz0 hz1 hz2 rfl (by decide) _ m _ rfl (hown2.alloc _) ⟨w2.heap.size, 0, none⟩ 1 1 (nf z) rfl rfl ?c1 ?c2 ?c3 ?c4 ?c5 ?_)
          case c1 => exact cells_new w2 _ 73
          case c2 => intro u hu; simp [nf] at hu; rcases hu with rfl | rfl | rfl | rfl | rfl | rfl | rfl | rfl <;> rfl
          case c3 => unfold maxLen; omega
          case c4 => omega
          case c5 => simp; omega
          intro v' w3 hown3 hgrow _
          have hbel3 := below_grown (hbel2.alloc hbel2.size _) (by simp; omega) (hown2.alloc _) (Nat.le_refl _) hgrow
          have hn3 : ([z].take m).flatMap nf ++ nf z = ([z].take (m + 1)).flatMap nf := by rw [HM.out]; rfl
          rw [hn3] at hown3
          clear hown2 hbel2 hgrow
          go_wp2
          go_roundw
          case rel => exact ⟨m + 1, by omega, by go_num, hown3, hbel3⟩
          case measure => simp [intOf]; omega
        · obtain rfl : m = 1 := by omega
          have hrw := Rw.of_own hown
          have e1 : ([z].take 1).flatMap nf = nf z := by simp
          rw [e1] at hrw
          have hrw2 := Lib.hid hrw
          obtain ⟨g2, o2, c2, rfl, _, _, _, _⟩ := hrw
          have hown2 := own_below HO.out hbel
          have hrows2 := ((HR.out.below hbel (Nat.le_refl _)).more (Nat.le_refl _) hsx).alloc (Nat.le_refl _) (.cells #[.slice (some ⟨g2, o2, none⟩) 1 c2] 68)
          have hrw3 := (hrw2.out.below ((Below.refl wr.heap.size wr).alloc (Nat.le_refl _) (.cells #[.slice (some ⟨g2, o2, none⟩) 1 c2] 68)) (Nat.le_refl _)).more (show H + 1 + 1 ≤ V0.heap.size by omega) (Nat.le_refl _)
          have hbel2 := HB.out.trans (hbel.mono (by omega))
          have HO2 := Lib.hid hown2
          have HR2 := Lib.hid hrows2
          have HW2 := Lib.hid hrw3
          have HB2 := Lib.hid hbel2
          have s2 := hbel2.size
          clear hown hown2 hrows2 hrw3 hbel2 hbel HO HR HB hrw2 hc
          go_wp2_with (at_builtin; refine wpList_append_own _ rfl (.tmp 56) (.tmp 58) 69 rfl (H + 1 + 1) 68 j0 _ 1 24 Tryz.underlying69 ji jz0 jz1 jz2 rfl (by decide) _ k _ rfl (HO2.out.alloc _) ⟨wr.heap.size, 0, none⟩ 1 1 [.slice (some ⟨g2, o2, none⟩) 1 c2] rfl rfl ?d1 ?d2 ?d3 ?d4 ?d5 ?_)
          case d1 => exact cells_new wr _ 68
          case d2 => intro u hu; simp at hu; subst hu; rfl
          case d3 => unfold maxLen; omega
          case d4 => omega
          case d5 => simp; omega
          intro v' w3 hown3 hgrow _
          have hbel3 := below_grown (HB2.out.alloc (by omega) _) (by simp; omega) (HO2.out.alloc _) (Nat.le_refl _) hgrow
          have hrows3 := HR2.out.push HZ.out HW2.out (by simp) (HO2.out.alloc _) (by decide) hgrow
          clear HO2 HR2 HW2 HB2 hgrow
          go_wp2
          go_roundw
          case rel => exact ⟨k + 1, _, by omega, by go_num, hown3, hrows3, hbel3⟩
          case measure => simp [intOf]; omega
    · have hke : k = len := by omega
      subst hke
      rw [← HL.out, List.take_of_length_le (Nat.le_refl _)] at hrows
      obtain ⟨A1, c1, rfl, hcol1⟩ := Col.of_own hown hrows
      have N2 := G2.below hbel (by omega)
      have be := bz.trans (hbel.mono (by omega))
      clear hown hrows hcol0
      go_wp2_with fail
      refine (newMatrix_any _ _ _ _).mono ?_
      rintro e w1 ⟨rfl, b1⟩
      go_wp2_with fail
      have K9 := Bk.new w1 73 #[.string ⟨#[]⟩, .float .f64 0, .string ⟨#[]⟩, .slice none 0 0, .slice A1 k c1, .bool false, .string ⟨#[]⟩, .int .u8 4, .pointer none, .pointer none]
      have hcol2 := (hcol1.below b1 (Nat.le_refl _)).alloc b1.size (.cells #[.string ⟨#[]⟩, .float .f64 0, .string ⟨#[]⟩, .slice none 0 0, .slice A1 k c1, .bool false, .string ⟨#[]⟩, .int .u8 4, .pointer none, .pointer none] 73)
      have s1 : V0.heap.size ≤ w1.heap.size := b1.size
      have be2 := (be.trans (b1.mono (by omega))).alloc (by omega) (.cells #[.string ⟨#[]⟩, .float .f64 0, .string ⟨#[]⟩, .slice none 0 0, .slice A1 k c1, .bool false, .string ⟨#[]⟩, .int .u8 4, .pointer none, .pointer none] 73)
      have N3 := (N2.later b1).alloc (.cells #[.string ⟨#[]⟩, .float .f64 0, .string ⟨#[]⟩, .slice none 0 0, .slice A1 k c1, .bool false, .string ⟨#[]⟩, .int .u8 4, .pointer none, .pointer none] 73)
      have sW : (w1.alloc (.cells #[.string ⟨#[]⟩, .float .f64 0, .string ⟨#[]⟩, .slice none 0 0, .slice A1 k c1, .bool false, .string ⟨#[]⟩, .int .u8 4, .pointer none, .pointer none] 73)).heap.size = w1.heap.size + 1 := by simp
      generalize w1.alloc (.cells #[.string ⟨#[]⟩, .float .f64 0, .string ⟨#[]⟩, .slice none 0 0, .slice A1 k c1, .bool false, .string ⟨#[]⟩, .int .u8 4, .pointer none, .pointer none] 73) = W1 at *
      generalize hg9 : w1.heap.size = g9 at *
      clear hcol1 b1 N2 be
      obtain ⟨z, hz⟩ : ∃ z, l[0]? = some z := ⟨_, List.getElem?_eq_getElem (by rw [HL.out]; omega)⟩
      obtain ⟨b, o, b1, o1, c2, rfl, hb, hrow, hb1, hc⟩ := hcol2.at_ hz
      have HC2 := Lib.hid hcol2
      have BE2 := Lib.hid be2
      have k9 := fun i => K9.cell i
      have q9 := fun i => K9.frozen i
      clear hz hc hcol2 be2 hb1
      refine (list_new _).mono ?_
      rintro e w2 ⟨rfl, rfl⟩
      go_wp2_with fail
      refine (list_new _).mono ?_
      rintro e w2 ⟨rfl, rfl⟩
      go_wp2_with fail
      have K9x : Bk ((((W1.setCell ⟨g9, 8, none⟩ (.pointer (some ⟨g9 + 1, 0, none⟩))).setCell ⟨g9, 9, none⟩ (.pointer (some ⟨g9 + 1 + 1, 0, none⟩))).alloc (.cells #[.pointer (some ⟨g9 + 1, 0, none⟩), .pointer (some ⟨g9 + 1, 0, none⟩), .pointer none, .nilIface, .int .i64 0] 117)).alloc (.cells #[.pointer (some ⟨g9 + 1 + 1, 0, none⟩), .pointer (some ⟨g9 + 1 + 1, 0, none⟩), .pointer none, .nilIface, .int .i64 0] 117)) g9 73
          #[.string ⟨#[]⟩, .float .f64 0, .string ⟨#[]⟩, .slice none 0 0, .slice (some ⟨b, o, none⟩) k c1, .bool false, .string ⟨#[]⟩, .int .u8 4, .pointer (some ⟨g9 + 1, 0, none⟩), .pointer (some ⟨g9 + 1 + 1, 0, none⟩)] :=
        (((K9.set_ 8 _).set_ 9 _).alloc _).alloc _
      have LQ : Bk ((((W1.setCell ⟨g9, 8, none⟩ (.pointer (some ⟨g9 + 1, 0, none⟩))).setCell ⟨g9, 9, none⟩ (.pointer (some ⟨g9 + 1 + 1, 0, none⟩))).alloc (.cells #[.pointer (some ⟨g9 + 1, 0, none⟩), .pointer (some ⟨g9 + 1, 0, none⟩), .pointer none, .nilIface, .int .i64 0] 117)).alloc (.cells #[.pointer (some ⟨g9 + 1 + 1, 0, none⟩), .pointer (some ⟨g9 + 1 + 1, 0, none⟩), .pointer none, .nilIface, .int .i64 0] 117)) (g9 + 1 + 1) 117
          #[.pointer (some ⟨g9 + 1 + 1, 0, none⟩), .pointer (some ⟨g9 + 1 + 1, 0, none⟩), .pointer none, .nilIface, .int .i64 0] := by
        have := Bk.new (((W1.setCell ⟨g9, 8, none⟩ (.pointer (some ⟨g9 + 1, 0, none⟩))).setCell ⟨g9, 9, none⟩ (.pointer (some ⟨g9 + 1 + 1, 0, none⟩))).alloc (.cells #[.pointer (some ⟨g9 + 1, 0, none⟩), .pointer (some ⟨g9 + 1, 0, none⟩), .pointer none, .nilIface, .int .i64 0] 117)) 117 #[.pointer (some ⟨g9 + 1 + 1, 0, none⟩), .pointer (some ⟨g9 + 1 + 1, 0, none⟩), .pointer none, .nilIface, .int .i64 0]
        simpa [sW] using this
      have bX : Below g9 W1 ((((W1.setCell ⟨g9, 8, none⟩ (.pointer (some ⟨g9 + 1, 0, none⟩))).setCell ⟨g9, 9, none⟩ (.pointer (some ⟨g9 + 1 + 1, 0, none⟩))).alloc (.cells #[.pointer (some ⟨g9 + 1, 0, none⟩), .pointer (some ⟨g9 + 1, 0, none⟩), .pointer none, .nilIface, .int .i64 0] 117)).alloc (.cells #[.pointer (some ⟨g9 + 1 + 1, 0, none⟩), .pointer (some ⟨g9 + 1 + 1, 0, none⟩), .pointer none, .nilIface, .int .i64 0] 117)) :=
        ((((Below.refl g9 W1).setCell (Nat.le_refl _) _).setCell (Nat.le_refl _) _).alloc (by simp; omega) _).alloc (by simp; omega) _
      clear k9 q9 K9
      generalize ((((W1.setCell ⟨g9, 8, none⟩ (.pointer (some ⟨g9 + 1, 0, none⟩))).setCell ⟨g9, 9, none⟩ (.pointer (some ⟨g9 + 1 + 1, 0, none⟩))).alloc (.cells #[.pointer (some ⟨g9 + 1, 0, none⟩), .pointer (some ⟨g9 + 1, 0, none⟩), .pointer none, .nilIface, .int .i64 0] 117)).alloc (.cells #[.pointer (some ⟨g9 + 1 + 1, 0, none⟩), .pointer (some ⟨g9 + 1 + 1, 0, none⟩), .pointer none, .nilIface, .int .i64 0] 117)) = X at *
      have hrowx : X.cell? ⟨b, o, none⟩ = some (.slice (some ⟨b1, o1, none⟩) 1 c2) := (bX.cell (p := ⟨b, o, none⟩) (show b < g9 by omega)).trans hrow
      have k9 := fun i => K9x.cell i
      have hcolX := HC2.out.below bX (by omega)
      have beX := BE2.out.trans (bX.mono (by omega))
      have N4 := N3.below bX (by omega)
      have hk1 : (0 : Int) < (k : Int) := by omega
      have HCX := Lib.hid hcolX
      have HBX := Lib.hid beX
      clear hrow hcolX beX HC2 BE2
      refine wp_region_still_tail 12 (by kernel_rfl) (by kernel_rfl) ?_
      simp only [List.take_succ_cons, List.take_zero, List.drop_succ_cons, List.drop_zero]
      still_step
      still_step
      still_step
      still_step
      still_step
      still_step
      still_step
      still_step
      still_step
      still_step
      still_step
      still_step
      refine wpStill_nil ?_
      have K9y : Bk X.drew g9 73 #[.string ⟨#[]⟩, .float .f64 0, .string ⟨#[]⟩, .slice none 0 0, .slice (some ⟨b, o, none⟩) k c1, .bool false, .string ⟨#[]⟩, .int .u8 4, .pointer (some ⟨g9 + 1, 0, none⟩), .pointer (some ⟨g9 + 1 + 1, 0, none⟩)] := K9x
      have LQy : Bk X.drew (g9 + 1 + 1) 117 #[.pointer (some ⟨g9 + 1 + 1, 0, none⟩), .pointer (some ⟨g9 + 1 + 1, 0, none⟩), .pointer none, .nilIface, .int .i64 0] := LQ
      have N4y : Bk X.drew (H + 1) 73 #[.string ⟨#[]⟩, .float .f64 0, .string ⟨#[]⟩, .slice none 0 0, .slice none 0 0, .bool false, .string ⟨#[]⟩, .int .u8 0, .pointer none, .pointer none] := N4
      have HCy : Col X.drew (H + 1 + 1) V0.heap.size 73 (some ⟨b, o, none⟩) nf l := HCX.out
      have HBy : Below H w X.drew := below_drewN HBX.out 1
      change wpList _ _ _ _ _ X.drew
      clear k9 K9x LQ N4 HCX HBX hrowx bX N3
      generalize X.drew = Y at *
      go_wp2_with fail
      refine (push_empty (g9 + 1 + 1) _ 124 Y (LQy.cell 0) (LQy.cell 1) (LQy.cell 4) (LQy.frozen 0) (LQy.frozen 1) (LQy.frozen 4) LQy.lt).mono ?_
      rintro e Z ⟨rfl, hZ⟩
      have hqY := LQy.lt
      have bY : Below (g9 + 1 + 1) Y Z := by
        rw [hZ]
        exact ((((Below.refl (g9 + 1 + 1) Y).setCell (Nat.le_refl _) _).setCell (Nat.le_refl _) _).setCell (Nat.le_refl _) _).alloc (by simp; omega) _
      clear hZ LQy
      have K9z := K9y.below bY (by omega)
      have N4z := N4y.below bY (by omega)
      have HCz := HCy.below bY (by omega)
      have HBz := HBy.trans (bY.mono (by omega))
      have r4 := fun i => K9z.cell i
      have n4 := fun i => N4z.cell i
      have q4 := fun i => N4z.frozen i
      have sZ : V0.heap.size ≤ Z.heap.size := by have := bY.size; omega
      clear K9y N4y HCy HBy bY K9z
      go_wp2
      refine bodyPost_ret (v := fm (some ⟨b, o, none⟩) k c1 (g9 + 1) (g9 + 1 + 1)) (by simp [results, Tryz.results83, go_sem, n4, fm]) rfl ⟨some ⟨b, o, none⟩, c1, g9 + 1, g9 + 1 + 1, rfl, ?_, ?_⟩
      · rw [hH]
        refine (HCz.keep (w' := _) fun b hl hb => ?_).more (by omega) (by simp; omega)
        repeat refine (Below.heap_setCell _ _ _ b (by simp; omega)).trans ?_
        rfl
      · rw [hH]
        repeat refine Below.setCell ?_ (by simp) _
        exact HBz
end Go.Proofs.YtojicbajcebjjaaGreatDoor
