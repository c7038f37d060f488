/-
  The list of the arguments: numbers and matrices.
-/
import Derived.Test.YtojicbajcebjjaaGreatDoorSf
namespace Go.Proofs.YtojicbajcebjjaaGreatDoor
open Go.RowKit
attribute [local go_sem] run_store_float

def AgF (w : World) (lo hi : Nat) (a : Ag) (v : Value) : Prop := match a with
  | .num n => v = fa n
  | .col l => ∃ A c p q, v = fm A l.length c p q ∧ Col w lo hi 73 A nf l
theorem AgF.keep {w w' : World} {lo hi : Nat} {a : Ag} {v : Value} (h : AgF w lo hi a v) (hk : ∀ b, lo ≤ b → b < hi → w'.heap[b]? = w.heap[b]?) : AgF w' lo hi a v := by
  cases a with
  | num n => exact h
  | col l =>
    obtain ⟨A, c, p, q, hx, hc⟩ := h
    exact ⟨A, c, p, q, hx, hc.keep hk⟩

/-- The list at L holds the arguments; what they lead to lies apart from the list's own blocks. -/
def FList (w : World) (L : Nat) (es : List Nat) (ags : List Ag) (vs : List Value) : Prop :=
  IsList w L es vs ∧ vs.length = ags.length ∧ ∀ (k : Nat) (a : Ag) (v : Value), ags[k]? = some a → vs[k]? = some v → ∃ lo hi, hi ≤ w.heap.size ∧ (L < lo ∨ hi ≤ L) ∧ (∀ e ∈ es, e < lo ∨ hi ≤ e) ∧ AgF w lo hi a v
theorem FList.below {w w' : World} {L : Nat} {es : List Nat} {ags : List Ag} {vs : List Value} (h : FList w L es ags vs) (hb : Below w.heap.size w w') : FList w' L es ags vs := by
  refine ⟨h.1.below hb, h.2.1, fun k a v h1 h2 => ?_⟩
  obtain ⟨lo, hi, e1, e2, e3, e4⟩ := h.2.2 k a v h1 h2
  exact ⟨lo, hi, Nat.le_trans e1 hb.size, e2, e3, e4.keep fun b _ h => hb.block b (by omega)⟩
theorem FList.snoc {w w' : World} {L E : Nat} {es : List Nat} {ags : List Ag} {vs : List Value} {k : Nat} {a : Ag} {v : Value} (h : FList w L es (ags.take k) vs) (ha : ags[k]? = some a) (lo hi : Nat) (h1 : hi ≤ w.heap.size) (h2 : L < lo ∨ hi ≤ L) (h3 : ∀ e ∈ es, e < lo ∨ hi ≤ e) (h4 : AgF w lo hi a v)
    (hl : IsList w' L (es ++ [E]) (vs ++ [v])) (hE : E = w.heap.size) (hs : w.heap.size ≤ w'.heap.size) (hk : ∀ b, b < w.heap.size → b ≠ L → b ∉ es → w'.heap[b]? = w.heap[b]?) : FList w' L (es ++ [E]) (ags.take (k + 1)) (vs ++ [v]) := by
  obtain ⟨hk', ha'⟩ := List.getElem?_eq_some_iff.1 ha
  have hvl : vs.length = k := by rw [h.2.1, List.length_take]; omega
  have fin : ∀ (lo hi : Nat) (a : Ag) (v : Value), hi ≤ w.heap.size → (L < lo ∨ hi ≤ L) → (∀ e ∈ es, e < lo ∨ hi ≤ e) → AgF w lo hi a v → ∃ lo hi, hi ≤ w'.heap.size ∧ (L < lo ∨ hi ≤ L) ∧ (∀ e ∈ es ++ [E], e < lo ∨ hi ≤ e) ∧ AgF w' lo hi a v := by
    intro lo hi a v g1 g2 g3 g4
    refine ⟨lo, hi, Nat.le_trans g1 hs, g2, fun e he => ?_, g4.keep fun b h5 h6 => hk b (by omega) (by omega) fun hbe => ?_⟩
    · rcases List.mem_append.1 he with he | he
      · exact g3 e he
      · simp at he
        omega
    · have := g3 b hbe
      omega
  refine ⟨hl, by rw [List.length_append, hvl, List.length_take]; simp; omega, fun j m u e1 e2 => ?_⟩
  rw [List.take_add_one, ha] at e1
  rcases Nat.lt_or_ge j k with hj | hj
  · rw [List.getElem?_append_left (by rw [List.length_take]; omega)] at e1
    rw [List.getElem?_append_left (by omega)] at e2
    obtain ⟨lo', hi', q1, q2, q3, q4⟩ := h.2.2 j m u e1 e2
    exact fin lo' hi' m u q1 q2 q3 q4
  · rw [List.getElem?_append_right (by rw [List.length_take]; omega)] at e1
    rw [List.getElem?_append_right (by omega)] at e2
    have e0 : j - (ags.take k).length = j - k := by rw [List.length_take]; congr 1; omega
    rw [e0] at e1
    rw [hvl] at e2
    match hjk : j - k, e1, e2 with
    | 0, e1, e2 =>
      simp at e1 e2
      subst e1 e2
      exact fin lo hi a v h1 h2 h3 h4
    | j' + 1, e1, e2 => simp at e1

/-- numbers and columns that floats hold exactly; columns that are not empty -/
def Ag.fine : Ag → Prop
  | .num n => n.natAbs < 2 ^ 53
  | .col l => l.length ≤ 1000 ∧ 1 ≤ l.length ∧ ∀ z ∈ l, z.natAbs < 2 ^ 53

set_option maxRecDepth 100000 in
set_option maxHeartbeats 3200000 in
theorem innerList_args (B : Nat) (A : Option Addr) (len c : Nat) (ags : List Ag) (cs : List (List Value)) (w : World) (hlen : ags.length = len) (hl : len ≤ 1000) (hr : Rd w B A cs.flatten) (hB : B ≤ w.heap.size) (ha : Args (AgI 59) w none ags cs) (hf : ∀ a ∈ ags, a.fine) :
    Calls Tryz.prog 66 #[.slice A len c] w fun e w' => ∃ L es vs, e = .returned (.pointer (some ⟨L, 0, none⟩)) ∧ FList w' L es ags vs ∧ w.heap.size ≤ L ∧ Below w.heap.size w w' := by
  have HL : Hid (ags.length = len) := hlen
  have hcl := ha.lens (s := 4) fun w lo hi a x h => h.len
  clear hlen
  go_enter Tryz.func66, Tryz.ntmps66
  go_wp2_with fail
  refine (list_new _).mono ?_
  rintro e w0 ⟨rfl, rfl⟩
  go_wp2_with fail
  have hst := IsList.new w
  go_loopw [9] (fun i wr => ∃ (k : Nat) (es : List Nat) (vs : List Value), k ≤ len ∧ i = .int .i64 k ∧ FList wr w.heap.size es (ags.take k) vs ∧ Below w.heap.size w wr ∧ w.heap.size < wr.heap.size)
    (fun i _ => len - (intOf i).toNat)
  case atStart => exact ⟨0, [], [], Nat.zero_le _, rfl, ⟨hst, rfl, fun k a v h => by simp at h⟩, (Below.refl _ _).alloc (Nat.le_refl _) _, by simp⟩
  case round =>
    obtain ⟨k, es, vs, hk, rfl, hlist, hbel, hLs⟩ := hrel
    clear hst
    by_cases hlt : k < len
    · obtain ⟨a, hak⟩ : ∃ a, ags[k]? = some a := ⟨_, List.getElem?_eq_getElem (by rw [HL.out]; exact hlt)⟩
      obtain ⟨x, lo, hi', hx, hhi, hP⟩ := (ha.below (near_I 59) hbel).at_ hak
      obtain ⟨b, o, rfl, hbB, hc⟩ := hr.at_ (k := k * 4) (by rw [flat_len 4 cs hcl, ha.1, HL.out]; omega)
      have hcell : ∀ j u, j < 4 → x[j]? = some u → wr.cell? ⟨b, o + (k * 4 + j), none⟩ = some u := fun j u hj hu => (hbel.cell (p := ⟨b, o + (k * 4 + j), none⟩) (show b < _ by omega)).trans (hc _ u (by rw [flat_get 4 cs hcl k j x hx hj]; exact hu))
      have hfa := hf a (List.mem_of_getElem? hak)
      have hsz := hbel.size
      have HA := Lib.hid hlist
      have HK := Lib.hid hak
      have HB := Lib.hid hbel
      clear hc hlist hbel hx hak
      cases a with
      | num n =>
        obtain rfl : x = nv n := hP
        have d0 : wr.cell? ⟨b, o + k * 4, none⟩ = some (.int .i64 1) := hcell 0 _ (by omega) rfl
        have d1 : wr.cell? ⟨b, o + k * 4 + 1, none⟩ = some (.float .f64 (fi n)) := hcell 1 _ (by omega) rfl
        have d2 : wr.cell? ⟨b, o + k * 4 + 2, none⟩ = some (.string ⟨#[]⟩) := hcell 2 _ (by omega) rfl
        have d3 : wr.cell? ⟨b, o + k * 4 + 3, none⟩ = some (.slice none 0 0) := hcell 3 _ (by omega) rfl
        have H1 : Hid (n.natAbs < 2 ^ 53) := Lib.hid hfa
        clear hcell hfa
        go_wp2_with fail
        refine (innerArg_num n _ H1.out).mono ?_
        rintro e w1 ⟨rfl, hb1⟩
        have hlist2 := (HA.out.below ((Below.refl _ wr).alloc (Nat.le_refl _) (.cells #[.int .i64 1, .float .f64 (fi n), .string ⟨#[]⟩, .slice none 0 0] 59))).below hb1
        have hbel2 := (HB.out.alloc hsz (.cells #[.int .i64 1, .float .f64 (fi n), .string ⟨#[]⟩, .slice none 0 0] 59)).trans (hb1.mono (by simp; omega))
        have hs2 : wr.heap.size ≤ w1.heap.size := by have := hb1.size; simp at this; omega
        clear HA HB hb1 d0 d1 d2 d3
        have hle : es.length ≤ 1000000 := by rw [hlist2.1.len, hlist2.2.1, List.length_take]; omega
        go_wp2_with fail
        refine (push_far w.heap.size es _ (fa n) _ hlist2.1 hle).mono ?_
        rintro e w2 ⟨⟨a, rfl⟩, ⟨E, hl3, hE⟩, hb3, hfar⟩
        have hs3 : w1.heap.size ≤ w2.heap.size := hb3.size
        have hlist3 := hlist2.snoc HK.out 0 0 (Nat.zero_le _) (.inr (Nat.zero_le _)) (fun e _ => .inr (Nat.zero_le _)) (show AgF w1 0 0 (.num n) (fa n) from rfl) hl3 hE hs3 hfar
        have hbel3 := hbel2.trans hb3
        clear hlist2 hbel2 hb3 hl3 hfar
        go_wp2
        go_roundw
        case rel => exact ⟨k + 1, _, _, by omega, by go_num, hlist3, hbel3, by omega⟩
        case measure => simp [intOf]; omega
      | col l =>
        obtain ⟨A1, c1, rfl, hcol⟩ := hP
        have d0 : wr.cell? ⟨b, o + k * 4, none⟩ = some (.int .i64 5) := hcell 0 _ (by omega) rfl
        have d1 : wr.cell? ⟨b, o + k * 4 + 1, none⟩ = some (.float .f64 0) := hcell 1 _ (by omega) rfl
        have d2 : wr.cell? ⟨b, o + k * 4 + 2, none⟩ = some (.string ⟨#[]⟩) := hcell 2 _ (by omega) rfl
        have d3 : wr.cell? ⟨b, o + k * 4 + 3, none⟩ = some (.slice A1 l.length c1) := hcell 3 _ (by omega) rfl
        obtain ⟨f0, f1, f2⟩ := hfa
        have hcol' := (hcol.more (Nat.le_refl lo) hhi).alloc (Nat.le_refl _) (.cells #[.int .i64 5, .float .f64 0, .string ⟨#[]⟩, .slice A1 l.length c1] 59)
        have hcol2 := hcol'.more (Nat.le_refl lo) (show wr.heap.size ≤ (wr.alloc (.cells #[.int .i64 5, .float .f64 0, .string ⟨#[]⟩, .slice A1 l.length c1] 59)).heap.size by simp)
        have HC := Lib.hid hcol2
        have HF := Lib.hid f2
        clear hcell hcol hcol' hcol2 f2
        go_wp2_with fail
        refine (innerArg_col lo A1 l.length c1 l _ rfl f0 f1 HC.out HF.out).mono ?_
        rintro e w1 ⟨A2, c2, p2, q2, rfl, hcol3, hb1⟩
        have hlist2 := (HA.out.below ((Below.refl _ wr).alloc (Nat.le_refl _) (.cells #[.int .i64 5, .float .f64 0, .string ⟨#[]⟩, .slice A1 l.length c1] 59))).below hb1
        have hbel2 := (HB.out.alloc hsz (.cells #[.int .i64 5, .float .f64 0, .string ⟨#[]⟩, .slice A1 l.length c1] 59)).trans (hb1.mono (by simp; omega))
        have hs2 : wr.heap.size + 1 ≤ w1.heap.size := by have := hb1.size; simp at this; omega
        have hsa : (wr.alloc (.cells #[.int .i64 5, .float .f64 0, .string ⟨#[]⟩, .slice A1 l.length c1] 59)).heap.size = wr.heap.size + 1 := by simp
        rw [hsa] at hcol3
        have hels : ∀ e ∈ es, e < wr.heap.size := by
          intro e he
          obtain ⟨i, hi⟩ := List.getElem?_of_mem he
          have hiv : i < vs.length := by rw [← HA.out.1.len]; exact (List.getElem?_eq_some_iff.1 hi).1
          obtain ⟨q, hq⟩ := HA.out.1.elem i e _ hi (List.getElem?_eq_getElem hiv)
          exact hq.lt
        have HE := Lib.hid hels
        clear HA HB hb1 d0 d1 d2 d3 HC hsa hels
        have hle : es.length ≤ 1000000 := by rw [hlist2.1.len, hlist2.2.1, List.length_take]; omega
        go_wp2_with fail
        refine (push_far w.heap.size es _ (fm A2 l.length c2 p2 q2) _ hlist2.1 hle).mono ?_
        rintro e w2 ⟨⟨a, rfl⟩, ⟨E, hl3, hE⟩, hb3, hfar⟩
        have hs3 : w1.heap.size ≤ w2.heap.size := hb3.size
        have hlist3 := hlist2.snoc HK.out (wr.heap.size + 1) w1.heap.size (Nat.le_refl _) (.inl (by omega)) (fun e he => .inl (by have := HE.out e he; omega)) (show AgF w1 (wr.heap.size + 1) w1.heap.size (.col l) (fm A2 l.length c2 p2 q2) from ⟨A2, c2, p2, q2, rfl, hcol3⟩) hl3 hE hs3 hfar
        have hbel3 := hbel2.trans hb3
        clear hlist2 hbel2 hb3 hl3 hfar hcol3
        go_wp2
        go_roundw
        case rel => exact ⟨k + 1, _, _, by omega, by go_num, hlist3, hbel3, by omega⟩
        case measure => simp [intOf]; omega
    · have he : k = len := by omega
      subst he
      rw [← HL.out, List.take_of_length_le (Nat.le_refl _)] at hlist
      go_wp2
      go_ret
      exact ⟨w.heap.size, es, vs, rfl, hlist, Nat.le_refl _, hbel⟩
end Go.Proofs.YtojicbajcebjjaaGreatDoor
