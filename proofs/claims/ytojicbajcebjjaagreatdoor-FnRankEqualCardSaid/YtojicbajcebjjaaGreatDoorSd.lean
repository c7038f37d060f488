/-
  Arguments that are numbers or columns: the reference's as the program's.
-/
import Derived.Test.YtojicbajcebjjaaGreatDoorSc
namespace Go.Proofs.YtojicbajcebjjaaGreatDoor
open Go.RowKit
attribute [local go_sem] run_store_float

inductive Ag where
  | num (n : Int)
  | col (l : List Int)
def AgS (w : World) (lo hi : Nat) (a : Ag) (x : List Value) : Prop := match a with
  | .num n => x = sv n
  | .col l => ∃ A c, x = [.int .i64 5, .int .i64 0, .int .i64 0, .string ⟨#[]⟩, .slice A l.length c] ∧ Col w lo hi 29 A sv l
def AgI (t : TypeId) (w : World) (lo hi : Nat) (a : Ag) (x : List Value) : Prop := match a with
  | .num n => x = nv n
  | .col l => ∃ A c, x = [.int .i64 5, .float .f64 0, .string ⟨#[]⟩, .slice A l.length c] ∧ Col w lo hi t A nv l
abbrev Kind := World → Nat → Nat → Ag → List Value → Prop
/-- It speaks of the blocks between lo and hi alone. -/
def Near (P : Kind) : Prop := ∀ (w w' : World) (lo hi : Nat) (a : Ag) (x : List Value), P w lo hi a x → (∀ b, lo ≤ b → b < hi → w'.heap[b]? = w.heap[b]?) → P w' lo hi a x
theorem near_S : Near AgS := by
  intro w w' lo hi a x h hk
  cases a with
  | num n => exact h
  | col l =>
    obtain ⟨A, c, hx, hc⟩ := h
    exact ⟨A, c, hx, hc.keep hk⟩
theorem near_I (t : TypeId) : Near (AgI t) := by
  intro w w' lo hi a x h hk
  cases a with
  | num n => exact h
  | col l =>
    obtain ⟨A, c, hx, hc⟩ := h
    exact ⟨A, c, hx, hc.keep hk⟩
theorem AgS.len {w : World} {lo hi : Nat} {a : Ag} {x : List Value} (h : AgS w lo hi a x) : x.length = 5 := by
  cases a with
  | num n => rw [show x = sv n from h]; rfl
  | col l =>
    obtain ⟨A, c, hx, _⟩ := h
    rw [hx]; rfl
theorem AgI.len {t : TypeId} {w : World} {lo hi : Nat} {a : Ag} {x : List Value} (h : AgI t w lo hi a x) : x.length = 4 := by
  cases a with
  | num n => rw [show x = nv n from h]; rfl
  | col l =>
    obtain ⟨A, c, hx, _⟩ := h
    rw [hx]; rfl

/-- The arguments, told by the cells cs, none of their own blocks being g. -/
def Args (P : Kind) (w : World) (g : Option Nat) (ags : List Ag) (cs : List (List Value)) : Prop :=
  cs.length = ags.length ∧ ∀ (k : Nat) (a : Ag) (x : List Value), ags[k]? = some a → cs[k]? = some x → ∃ lo hi, hi ≤ w.heap.size ∧ (∀ b, g = some b → b < lo ∨ hi ≤ b) ∧ P w lo hi a x
section
variable {P : Kind} {w w' : World} {g g' : Option Nat} {ags : List Ag} {cs : List (List Value)}
theorem Args.nil : Args P w g [] [] := ⟨rfl, fun k a x h => by simp at h⟩
theorem Args.below (hP : Near P) (h : Args P w g ags cs) (hb : Below w.heap.size w w') : Args P w' g ags cs := by
  refine ⟨h.1, fun k a x h1 h2 => ?_⟩
  obtain ⟨lo, hi, e1, e2, e3⟩ := h.2 k a x h1 h2
  exact ⟨lo, hi, Nat.le_trans e1 hb.size, e2, hP w w' lo hi a x e3 fun b _ h4 => hb.block b (by omega)⟩
theorem Args.alloc (hP : Near P) (h : Args P w g ags cs) (o : Obj) : Args P (w.alloc o) g ags cs := h.below hP ((Below.refl _ w).alloc (Nat.le_refl _) o)
theorem Args.grown (hP : Near P) (h : Args P w g ags cs) (hg : w.grownBy w' g) (hg' : g' = g ∨ g' = some w.heap.size) : Args P w' g' ags cs := by
  refine ⟨h.1, fun k a x h1 h2 => ?_⟩
  obtain ⟨lo, hi, e1, e2, e3⟩ := h.2 k a x h1 h2
  refine ⟨lo, hi, Nat.le_trans e1 hg.size, fun b hb => ?_, hP w w' lo hi a x e3 fun b h3 h4 => hg.block b (by omega) fun he => ?_⟩
  · rcases hg' with rfl | rfl
    · exact e2 b hb
    · injection hb with hb
      omega
  · have := e2 b he.symm
    omega
theorem Args.free (h : Args P w g ags cs) : Args P w none ags cs := ⟨h.1, fun k a x h1 h2 => by
  obtain ⟨lo, hi, e1, _, e3⟩ := h.2 k a x h1 h2
  exact ⟨lo, hi, e1, fun b hb => by simp at hb, e3⟩⟩
theorem Args.snoc {k : Nat} {a : Ag} {x : List Value} (h : Args P w g (ags.take k) cs) (ha : ags[k]? = some a) (lo hi : Nat) (h1 : hi ≤ w.heap.size) (h2 : ∀ b, g = some b → b < lo ∨ hi ≤ b) (h3 : P w lo hi a x) : Args P w g (ags.take (k + 1)) (cs ++ [x]) := by
  obtain ⟨hk, ha'⟩ := List.getElem?_eq_some_iff.1 ha
  have hl : cs.length = k := by rw [h.1, List.length_take]; omega
  refine ⟨by rw [List.length_append, hl, List.length_take]; simp; omega, fun j m u e1 e2 => ?_⟩
  rw [List.take_add_one, ha] at e1
  rcases Nat.lt_or_ge j k with hj | hj
  · rw [List.getElem?_append_left (by rw [List.length_take]; omega)] at e1
    rw [List.getElem?_append_left (by omega)] at e2
    exact h.2 j m u e1 e2
  · rw [List.getElem?_append_right (by rw [List.length_take]; omega)] at e1
    rw [List.getElem?_append_right (by omega)] at e2
    have e0 : j - (ags.take k).length = j - k := by rw [List.length_take]; congr 1; omega
    rw [e0] at e1
    rw [hl] at e2
    match hjk : j - k, e1, e2 with
    | 0, e1, e2 =>
      simp at e1 e2
      subst e1 e2
      exact ⟨lo, hi, h1, h2, h3⟩
    | j' + 1, e1, e2 => simp at e1
theorem Args.at_ {k : Nat} {a : Ag} (h : Args P w g ags cs) (ha : ags[k]? = some a) : ∃ x lo hi, cs[k]? = some x ∧ hi ≤ w.heap.size ∧ P w lo hi a x := by
  have hk := (List.getElem?_eq_some_iff.1 ha).1
  obtain ⟨x, hx⟩ : ∃ x, cs[k]? = some x := ⟨_, List.getElem?_eq_getElem (by rw [h.1]; exact hk)⟩
  obtain ⟨lo, hi, e1, _, e3⟩ := h.2 k a x ha hx
  exact ⟨x, lo, hi, hx, e1, e3⟩
end

theorem flat_get {α : Type} (s : Nat) : ∀ (cs : List (List α)) (_ : ∀ x ∈ cs, x.length = s) (k i : Nat) (x : List α), cs[k]? = some x → i < s → cs.flatten[k * s + i]? = x[i]?
  | [], _, k, i, x, h, _ => by simp at h
  | y :: cs, hs, k, i, x, h, hi => by
    have hy := hs y (by simp)
    rw [List.flatten_cons]
    match k, h with
    | 0, h =>
      simp at h
      subst h
      rw [Nat.zero_mul, Nat.zero_add, List.getElem?_append_left (by omega)]
    | k + 1, h =>
      simp at h
      rw [List.getElem?_append_right (by rw [hy, Nat.add_mul]; omega)]
      have e : (k + 1) * s + i - y.length = k * s + i := by rw [hy, Nat.add_mul]; omega
      rw [e]
      exact flat_get s cs (fun z hz => hs z (by simp [hz])) k i x h hi
theorem flat_len {α : Type} (s : Nat) : ∀ (cs : List (List α)) (_ : ∀ x ∈ cs, x.length = s), cs.flatten.length = cs.length * s
  | [], _ => by simp
  | y :: cs, hs => by
    rw [List.flatten_cons, List.length_append, flat_len s cs (fun z hz => hs z (by simp [hz])), hs y (by simp), List.length_cons, Nat.add_mul]; omega
theorem Args.lens {P : Kind} {w : World} {g : Option Nat} {ags : List Ag} {cs : List (List Value)} {s : Nat} (h : Args P w g ags cs) (hl : ∀ w lo hi a x, P w lo hi a x → x.length = s) : ∀ x ∈ cs, x.length = s := by
  intro x hx
  obtain ⟨k, hk⟩ := List.getElem?_of_mem hx
  have hk2 := (List.getElem?_eq_some_iff.1 hk).1
  obtain ⟨lo, hi, _, _, h3⟩ := h.2 k _ x (List.getElem?_eq_getElem (by rw [← h.1]; exact hk2)) hk
  exact hl _ _ _ _ _ h3

/-- a whole number that the reference speaks of -/
def Ag.fits : Ag → Prop
  | .num n => n ≤ 99999999999 ∧ -99999999999 ≤ n
  | .col l => l.length ≤ 1000 ∧ ∀ z ∈ l, z ≤ 99999999999 ∧ -99999999999 ≤ z

set_option maxRecDepth 100000 in
set_option maxHeartbeats 3200000 in
/-- The arguments: as the program's. -/
theorem all_args (B : Nat) (A : Option Addr) (len c : Nat) (ags : List Ag) (cs : List (List Value)) (w : World) (hlen : ags.length = len) (hl : len ≤ 1000) (hr : Rd w B A cs.flatten) (hB : B ≤ w.heap.size) (ha : Args AgS w none ags cs) (hf : ∀ a ∈ ags, a.fits) :
    Calls Tryz.prog 13 #[.slice A len c] w fun e w' => ∃ A' c' cs', e = .returned (.slice A' len c') ∧ Rd w' w'.heap.size A' cs'.flatten ∧ Args (AgI 36) w' none ags cs' ∧ Below w.heap.size w w' := by
  obtain ⟨i0, hi, hz0, hz1, hz2⟩ := info_parts Tryz.info36
  have HL : Hid (ags.length = len) := hlen
  have hcl := ha.lens (s := 5) fun w lo hi a x h => h.len
  clear hlen
  go_enter Tryz.func13, Tryz.ntmps13
  go_wp2_with fail
  go_loopw [3, 4] (fun v i wr => ∃ (k : Nat) (ds : List (List Value)), k ≤ len ∧ i = .int .i64 k ∧ wr.ownsRow w.heap.size 36 4 v k ds.flatten ∧ Args (AgI 36) wr v.ownBlock (ags.take k) ds ∧ Below w.heap.size w wr)
    (fun _ i _ => len - (intOf i).toNat)
  case atStart => exact ⟨0, [], Nat.zero_le _, rfl, World.ownsRow_nil _ _ _ _, Args.nil, Below.refl _ _⟩
  case round =>
    obtain ⟨k, ds, hk, rfl, hown, hargs, hbel⟩ := hrel
    have hsz := hbel.size
    by_cases hlt : k < len
    · obtain ⟨a, hak⟩ : ∃ a, ags[k]? = some a := ⟨_, List.getElem?_eq_getElem (by rw [HL.out]; exact hlt)⟩
      obtain ⟨x, lo, hi', hx, hhi, hP⟩ := (ha.below near_S hbel).at_ hak
      obtain ⟨b, o, rfl, hbB, hc⟩ := hr.at_ (k := k * 5) (by rw [flat_len 5 cs hcl, ha.1, HL.out]; omega)
      have hcell : ∀ j u, j < 5 → x[j]? = some u → wr.cell? ⟨b, o + (k * 5 + j), none⟩ = some u := fun j u hj hu => (hbel.cell (p := ⟨b, o + (k * 5 + j), none⟩) (show b < _ by omega)).trans (hc _ u (by rw [flat_get 5 cs hcl k j x hx hj]; exact hu))
      have hfa := hf a (List.mem_of_getElem? hak)
      have HO := Lib.hid hown
      have HA := Lib.hid hargs
      have HB := Lib.hid hbel
      have HK := Lib.hid hak
      clear hc hown hargs hbel hx hak
      cases a with
      | num n =>
        obtain rfl : x = sv n := hP
        have d0 : wr.cell? ⟨b, o + k * 5, none⟩ = some (.int .i64 1) := hcell 0 _ (by omega) rfl
        have d1 : wr.cell? ⟨b, o + k * 5 + 1, none⟩ = some (.int .i64 n) := hcell 1 _ (by omega) rfl
        have d2 : wr.cell? ⟨b, o + k * 5 + 2, none⟩ = some (.int .i64 1) := hcell 2 _ (by omega) rfl
        have d3 : wr.cell? ⟨b, o + k * 5 + 3, none⟩ = some (.string ⟨#[]⟩) := hcell 3 _ (by omega) rfl
        have d4 : wr.cell? ⟨b, o + k * 5 + 4, none⟩ = some (.slice none 0 0) := hcell 4 _ (by omega) rfl
        obtain ⟨f0, f1⟩ := hfa
        clear hcell
        go_wp2_with fail
        refine (of_num n _ f0 f1).mono ?_
        rintro e w2 ⟨rfl, hb2⟩
        have s2 := hb2.size
        have hown2 := own_below HO.out hb2
        have hargs2 := HA.out.below (near_I 36) hb2
        have hbel2 := HB.out.trans (hb2.mono hsz)
        clear HO HA HB d0 d1 d2 d3 d4 hb2
        have HO2 := Lib.hid hown2
        have HA2 := Lib.hid hargs2
        have HB2 := Lib.hid hbel2
        clear hown2 hargs2 hbel2
        go_wp2_with (at_builtin; refine wpList_append_own_at _ rfl (.tmp 11) (.tmp 17) 25 rfl w.heap.size 36 i0 _ 4 56 Tryz.underlying25 hi hz0 hz1 hz2 rfl (by decide) _ k _ rfl (HO2.out.alloc _) ⟨w2.heap.size, 0, none⟩ 1 1 (nv n) rfl rfl ?c1 ?c2 ?c3 ?c4 ?c5 ?_)
        case c1 => exact cells_new w2 _ 36
        case c2 => intro u hu; simp [nv] at hu; rcases hu with rfl | rfl | rfl | rfl <;> rfl
        case c3 => unfold maxLen; omega
        case c4 => omega
        case c5 => simp; omega
        intro v' w3 hown3 hgrow _ hat
        have hbel3 := below_grown (HB2.out.alloc HB2.out.size _) (by simp; omega) (HO2.out.alloc _) (Nat.le_refl _) hgrow
        have hargs3 := ((HA2.out.alloc (near_I 36) _).snoc HK.out 0 0 (Nat.zero_le _) (fun _ _ => .inr (Nat.zero_le _)) (show AgI 36 _ 0 0 (.num n) (nv n) from rfl)).grown (g' := v'.ownBlock) (near_I 36) hgrow (by simpa using hat)
        have hfl : ds.flatten ++ nv n = (ds ++ [nv n]).flatten := by simp
        rw [hfl] at hown3
        clear HO2 HA2 HB2 hgrow hat
        go_wp2
        go_roundw
        case rel => exact ⟨k + 1, _, by omega, by go_num, hown3, hargs3, hbel3⟩
        case measure => simp [intOf]; omega
      | col l =>
        obtain ⟨A1, c1, rfl, hcol⟩ := hP
        have d0 : wr.cell? ⟨b, o + k * 5, none⟩ = some (.int .i64 5) := hcell 0 _ (by omega) rfl
        have d1 : wr.cell? ⟨b, o + k * 5 + 1, none⟩ = some (.int .i64 0) := hcell 1 _ (by omega) rfl
        have d2 : wr.cell? ⟨b, o + k * 5 + 2, none⟩ = some (.int .i64 0) := hcell 2 _ (by omega) rfl
        have d3 : wr.cell? ⟨b, o + k * 5 + 3, none⟩ = some (.string ⟨#[]⟩) := hcell 3 _ (by omega) rfl
        have d4 : wr.cell? ⟨b, o + k * 5 + 4, none⟩ = some (.slice A1 l.length c1) := hcell 4 _ (by omega) rfl
        obtain ⟨f0, f1⟩ := hfa
        have hcol' := hcol.more (Nat.le_refl lo) hhi
        clear hcell hcol
        go_wp2_with fail
        refine (of_col lo A1 l.length c1 l _ rfl f0 hcol' f1).mono ?_
        rintro e w2 ⟨A2, c2, rfl, hcol2, hb2⟩
        have s2 := hb2.size
        have hown2 := own_below HO.out hb2
        have hargs2 := HA.out.below (near_I 36) hb2
        have hbel2 := HB.out.trans (hb2.mono hsz)
        have hnew := fun (b : Nat) (hb : _) => (HO.out.lt b hb).2
        have hcol3 : AgI 36 (w2.alloc (.cells #[.int .i64 5, .float .f64 0, .string ⟨#[]⟩, .slice A2 l.length c2] 36)) wr.heap.size w2.heap.size (.col l) [.int .i64 5, .float .f64 0, .string ⟨#[]⟩, .slice A2 l.length c2] := ⟨A2, c2, rfl, hcol2.alloc (Nat.le_refl _) _⟩
        clear HO HA HB d0 d1 d2 d3 d4 hb2 hcol2 hcol'
        have HO2 := Lib.hid hown2
        have HA2 := Lib.hid hargs2
        have HB2 := Lib.hid hbel2
        have HN := Lib.hid hnew
        have HC := Lib.hid hcol3
        clear hown2 hargs2 hbel2 hnew hcol3
        go_wp2_with (at_builtin; refine wpList_append_own_at _ rfl (.tmp 11) (.tmp 17) 25 rfl w.heap.size 36 i0 _ 4 56 Tryz.underlying25 hi hz0 hz1 hz2 rfl (by decide) _ k _ rfl (HO2.out.alloc _) ⟨w2.heap.size, 0, none⟩ 1 1 [.int .i64 5, .float .f64 0, .string ⟨#[]⟩, .slice A2 l.length c2] rfl rfl ?d1 ?d2 ?d3 ?d4 ?d5 ?_)
        case d1 => exact cells_new w2 _ 36
        case d2 => intro u hu; simp at hu; rcases hu with rfl | rfl | rfl | rfl <;> rfl
        case d3 => unfold maxLen; omega
        case d4 => omega
        case d5 => simp; omega
        intro v' w3 hown3 hgrow _ hat
        have hbel3 := below_grown (HB2.out.alloc HB2.out.size _) (by simp; omega) (HO2.out.alloc _) (Nat.le_refl _) hgrow
        have hargs3 := ((HA2.out.alloc (near_I 36) _).snoc HK.out wr.heap.size w2.heap.size (by simp) (fun b hb => .inl (HN.out b hb)) HC.out).grown (g' := v'.ownBlock) (near_I 36) hgrow (by simpa using hat)
        have hfl : ds.flatten ++ [.int .i64 5, .float .f64 0, .string ⟨#[]⟩, .slice A2 l.length c2] = (ds ++ [([.int .i64 5, .float .f64 0, .string ⟨#[]⟩, .slice A2 l.length c2] : List Value)]).flatten := by simp
        rw [hfl] at hown3
        clear HO2 HA2 HB2 HN HC hgrow hat
        go_wp2
        go_roundw
        case rel => exact ⟨k + 1, _, by omega, by go_num, hown3, hargs3, hbel3⟩
        case measure => simp [intOf]; omega
    · have hke : k = len := by omega
      subst hke
      rw [← HL.out, List.take_of_length_le (Nat.le_refl _)] at hargs
      obtain ⟨A1, c1, rfl, hR1⟩ := Rd.of_own hown
      have hargs' := hargs.free
      clear hown hargs
      go_wp2
      go_ret
      exact ⟨A1, c1, ds, rfl, hR1, hargs', hbel⟩
end Go.Proofs.YtojicbajcebjjaaGreatDoor
