/-
  Lists of small numbers, of numbers that are not 0: the law's helpers.
-/
import Derived.Test.YtojicbajcebjjaaGreatDoorCo
namespace Go.Proofs.YtojicbajcebjjaaGreatDoor
open Go.RowKit
attribute [local go_sem] run_store_float

theorem Tryz.infoI3 : (Tryz.prog.info? 3).map (fun i => (i.zero, i.size, i.bytes)) = some (some (.int .i64 0), 1, 8) := by kernel_rfl
def smallL (l : List Int) (most : Nat) (m : Int) : List Int := (l.take most).map fun z => z.tmod m
def fullL (l : List Int) : List Int := l.map fun z => if z = 0 then 7 else z
/-- the cells of a row of ints -/
def cellI (l : List Int) : List Value := l.map (.int .i64)
theorem cellI_len (l : List Int) : (cellI l).length = l.length := by simp [cellI]
theorem cellI_succ (l : List Int) (k : Nat) (z : Int) (h : l[k]? = some z) : cellI (l.take (k + 1)) = cellI (l.take k) ++ [.int .i64 z] := by
  obtain ⟨hk, rfl⟩ := List.getElem?_eq_some_iff.1 h
  rw [List.take_succ_eq_append_getElem hk]
  simp only [cellI, List.map_append, List.map_cons, List.map_nil]
theorem cellI_get {l : List Int} {k : Nat} {z : Int} (h : l[k]? = some z) : (cellI l)[k]? = some (.int .i64 z) := by simp [cellI, h]
theorem smallL_len (l : List Int) (most : Nat) (m : Int) : (smallL l most m).length = min most l.length := by simp [smallL]
theorem smallL_get {l : List Int} {most k : Nat} {m z : Int} (h : l[k]? = some z) (hk : k < most) : (smallL l most m)[k]? = some (z.tmod m) := by simp [smallL, hk, h]
theorem fullL_len (l : List Int) : (fullL l).length = l.length := by simp [fullL]
theorem fullL_get {l : List Int} {k : Nat} {z : Int} (h : l[k]? = some z) : (fullL l)[k]? = some (if z = 0 then 7 else z) := by simp [fullL, h]
theorem tmod_bd (z m : Int) (h : 0 < m) : -m < z.tmod m ∧ z.tmod m < m := by
  have b1 := Int.tmod_lt_of_pos z h
  have b2 := Int.tmod_lt_of_pos (-z) h
  rw [Int.neg_tmod] at b2
  omega
theorem smallL_bd (l : List Int) (most : Nat) (m : Int) (h : 0 < m) : ∀ z ∈ smallL l most m, -m < z ∧ z < m := by
  intro z hz
  simp only [smallL, List.mem_map] at hz
  obtain ⟨y, _, rfl⟩ := hz
  exact tmod_bd y m h
theorem fullL_bd (l : List Int) (m : Int) (hm : 7 < m) (h : ∀ z ∈ l, -m < z ∧ z < m) : ∀ z ∈ fullL l, -m < z ∧ z < m ∧ z ≠ 0 := by
  intro z hz
  simp only [fullL, List.mem_map] at hz
  obtain ⟨y, hy, rfl⟩ := hz
  have := h y hy
  split <;> omega

set_option maxRecDepth 100000 in
set_option maxHeartbeats 1600000 in
theorem sumsSmall_any (B : Nat) (A : Option Addr) (len c most : Nat) (m : Int) (l : List Int) (w : World) (hlen : l.length = len) (hr : Rd w B A (cellI l)) (hB : B ≤ w.heap.size) (hmost : most ≤ 1000) (hm : 0 < m) (hm2 : m ≤ 1000) :
    Calls Tryz.prog 12 #[.slice A len c, .int .i64 most, .int .i64 m] w fun e w' => ∃ A' c', e = .returned (.slice A' (min most len) c') ∧ Rd w' w'.heap.size A' (cellI (smallL l most m)) ∧ Below w.heap.size w w' := by
  obtain ⟨i0, hi0, hz0, hz1, hz2⟩ := info_parts Tryz.infoI3
  have HL : Hid (l.length = len) := hlen
  have hm0 : ¬ m = 0 := by omega
  clear hlen
  go_enter Tryz.func12, Tryz.ntmps12
  go_wp2_with fail
  go_loopw [7, 8] (fun v i wr => ∃ k : Nat, k ≤ len ∧ k ≤ most ∧ i = .int .i64 k ∧ wr.ownsRow w.heap.size 3 1 v k (cellI ((smallL l most m).take k)) ∧ Below w.heap.size w wr)
    (fun _ i _ => most - (intOf i).toNat)
  case atStart => exact ⟨0, Nat.zero_le _, Nat.zero_le _, rfl, World.ownsRow_nil _ _ _ _, Below.refl _ _⟩
  case round =>
    obtain ⟨k, hk, hk2, rfl, hown, hbel⟩ := hrel
    by_cases hlt : k < len ∧ k < most
    · obtain ⟨hlt, hlt2⟩ := hlt
      obtain ⟨z, hz⟩ : ∃ z, l[k]? = some z := ⟨_, List.getElem?_eq_getElem (by rw [HL.out]; exact hlt)⟩
      obtain ⟨b, o, rfl, hbB, hc⟩ := hr.at_ (k := k) (by rw [cellI_len, HL.out]; exact hlt)
      have hcell : wr.cell? ⟨b, o + k, none⟩ = some (.int .i64 z) := (hbel.cell (p := ⟨b, o + k, none⟩) (show b < _ by omega)).trans (hc k _ (cellI_get hz))
      have HP := Lib.hid (smallL_get (m := m) hz hlt2)
      have HO := Lib.hid hown
      have HB := Lib.hid hbel
      have hsz := hbel.size
      clear hc hz hown hbel
      go_wp2_with (at_builtin; refine wpList_append_own _ rfl (.tmp 20) (.tmp 27) 22 rfl w.heap.size 3 i0 _ 1 8 Tryz.underlying22 hi0 hz0 hz1 hz2 rfl (by decide) _ k _ rfl (HO.out.alloc _) ⟨wr.heap.size, 0, none⟩ 1 1 [.int .i64 (z.tmod m)] rfl rfl ?c1 ?c2 ?c3 ?c4 ?c5 ?_)
      case c1 => exact cells_new wr _ 3
      case c2 => intro u hu; simp at hu; subst hu; rfl
      case c3 => unfold maxLen; omega
      case c4 => omega
      case c5 => simp; omega
      intro v' w3 hown3 hgrow _
      have hbel3 := below_grown (HB.out.alloc HB.out.size _) (by simp; omega) (HO.out.alloc _) (Nat.le_refl _) hgrow
      rw [← cellI_succ _ k _ HP.out] at hown3
      clear HO HB hgrow
      go_wp2
      go_roundw
      case rel => exact ⟨k + 1, by omega, by omega, by go_num, hown3, hbel3⟩
      case measure => simp [intOf]; omega
    · have hke : k = min most len := by omega
      have hll : (smallL l most m).length = k := by rw [smallL_len, HL.out, hke]
      rw [← hll, List.take_of_length_le (Nat.le_refl _), hll] at hown
      obtain ⟨A1, c1, rfl, hR1⟩ := Rd.of_own hown
      have HK := Lib.hid hke
      clear hke hown hll
      rcases Nat.lt_or_ge k len with hkl | hkl
      · go_wp2
        go_ret
        exact ⟨A1, c1, by rw [← HK.out]; rfl, hR1, hbel⟩
      · go_wp2
        go_ret
        exact ⟨A1, c1, by rw [← HK.out]; rfl, hR1, hbel⟩

set_option maxRecDepth 100000 in
set_option maxHeartbeats 1600000 in
theorem sumsFull_any (B : Nat) (A : Option Addr) (len c : Nat) (l : List Int) (w : World) (hlen : l.length = len) (hl : len ≤ 1000) (hr : Rd w B A (cellI l)) (hB : B ≤ w.heap.size) :
    Calls Tryz.prog 11 #[.slice A len c] w fun e w' => ∃ A' c', e = .returned (.slice A' len c') ∧ Rd w' w'.heap.size A' (cellI (fullL l)) ∧ Below w.heap.size w w' := by
  obtain ⟨i0, hi0, hz0, hz1, hz2⟩ := info_parts Tryz.infoI3
  have HL : Hid (l.length = len) := hlen
  clear hlen
  go_enter Tryz.func11, Tryz.ntmps11
  go_wp2_with fail
  go_loopw [3, 4] (fun v i wr => ∃ k : Nat, k ≤ len ∧ i = .int .i64 k ∧ wr.ownsRow w.heap.size 3 1 v k (cellI ((fullL l).take k)) ∧ Below w.heap.size w wr)
    (fun _ i _ => len - (intOf i).toNat)
  case atStart => exact ⟨0, Nat.zero_le _, rfl, World.ownsRow_nil _ _ _ _, Below.refl _ _⟩
  case round =>
    obtain ⟨k, hk, rfl, hown, hbel⟩ := hrel
    by_cases hlt : k < len
    · obtain ⟨z, hz⟩ : ∃ z, l[k]? = some z := ⟨_, List.getElem?_eq_getElem (by rw [HL.out]; exact hlt)⟩
      obtain ⟨b, o, rfl, hbB, hc⟩ := hr.at_ (k := k) (by rw [cellI_len, HL.out]; exact hlt)
      have hcell : wr.cell? ⟨b, o + k, none⟩ = some (.int .i64 z) := (hbel.cell (p := ⟨b, o + k, none⟩) (show b < _ by omega)).trans (hc k _ (cellI_get hz))
      have hp := fullL_get hz
      have HO := Lib.hid hown
      have HB := Lib.hid hbel
      have hsz := hbel.size
      clear hc hz hown hbel
      by_cases hz0' : z = 0
      · rw [if_pos hz0'] at hp
        have HP := Lib.hid hp
        clear hp
        subst hz0'
        go_wp2_with (at_builtin; refine wpList_append_own _ rfl (.tmp 18) (.tmp 20) 22 rfl w.heap.size 3 i0 _ 1 8 Tryz.underlying22 hi0 hz0 hz1 hz2 rfl (by decide) _ k _ rfl (HO.out.alloc _) ⟨wr.heap.size, 0, none⟩ 1 1 [.int .i64 7] rfl rfl ?c1 ?c2 ?c3 ?c4 ?c5 ?_)
        case c1 => exact cells_new wr _ 3
        case c2 => intro u hu; simp at hu; subst hu; rfl
        case c3 => unfold maxLen; omega
        case c4 => omega
        case c5 => simp; omega
        intro v' w3 hown3 hgrow _
        have hbel3 := below_grown (HB.out.alloc HB.out.size _) (by simp; omega) (HO.out.alloc _) (Nat.le_refl _) hgrow
        rw [← cellI_succ _ k _ HP.out] at hown3
        clear HO HB hgrow
        go_wp2
        go_roundw
        case rel => exact ⟨k + 1, by omega, by go_num, hown3, hbel3⟩
        case measure => simp [intOf]; omega
      · rw [if_neg hz0'] at hp
        have HP := Lib.hid hp
        clear hp
        go_wp2_with (at_builtin; refine wpList_append_own _ rfl (.tmp 18) (.tmp 20) 22 rfl w.heap.size 3 i0 _ 1 8 Tryz.underlying22 hi0 hz0 hz1 hz2 rfl (by decide) _ k _ rfl (HO.out.alloc _) ⟨wr.heap.size, 0, none⟩ 1 1 [.int .i64 z] rfl rfl ?d1 ?d2 ?d3 ?d4 ?d5 ?_)
        case d1 => exact cells_new wr _ 3
        case d2 => intro u hu; simp at hu; subst hu; rfl
        case d3 => unfold maxLen; omega
        case d4 => omega
        case d5 => simp; omega
        intro v' w3 hown3 hgrow _
        have hbel3 := below_grown (HB.out.alloc HB.out.size _) (by simp; omega) (HO.out.alloc _) (Nat.le_refl _) hgrow
        rw [← cellI_succ _ k _ HP.out] at hown3
        clear HO HB hgrow
        go_wp2
        go_roundw
        case rel => exact ⟨k + 1, by omega, by go_num, hown3, hbel3⟩
        case measure => simp [intOf]; omega
    · have hke : k = len := by omega
      subst hke
      have hll : (fullL l).length = k := by rw [fullL_len, HL.out]
      rw [← hll, List.take_of_length_le (Nat.le_refl _), hll] at hown
      obtain ⟨A1, c1, rfl, hR1⟩ := Rd.of_own hown
      clear hown hll
      go_wp2
      go_ret
      exact ⟨A1, c1, rfl, hR1, hbel⟩
end Go.Proofs.YtojicbajcebjjaaGreatDoor
