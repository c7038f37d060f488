/-
  impl.in over numbers alone: the program's values become the package's.
-/
import Derived.Test.YtojicbajcebjjaaGreatDoorA
namespace Go.Proofs.YtojicbajcebjjaaGreatDoor
open Go.RowKit
attribute [local go_sem] run_store_float

theorem Tryz.info59 : (Tryz.prog.info? 59).map (fun i => (i.zero, i.size, i.bytes)) = some (some (.agg #[.int .i64 0, .float .f64 0, .string ⟨#[]⟩, .slice none 0 0]), 4, 56) := by kernel_rfl

theorem nvs_get (l : List Int) (k i : Nat) (n : Int) (h : l[k]? = some n) (hi : i < 4) : (nvs l)[k * 4 + i]? = (nv n)[i]? := by
  obtain ⟨hk, rfl⟩ := List.getElem?_eq_some_iff.1 h
  exact flat4_get nv nv_len l k i hk hi
theorem nvs_len (l : List Int) : (nvs l).length = l.length * 4 := flat4_len nv nv_len l

/-- The four cells of element k. -/
theorem nvs_cells {w : World} {b o : Nat} {l : List Int} {k : Nat} {n : Int} (hc : ∀ j u, (nvs l)[j]? = some u → w.cell? ⟨b, o + j, none⟩ = some u) (h : l[k]? = some n) :
    w.cell? ⟨b, o + k * 4, none⟩ = some (.int .i64 1) ∧ w.cell? ⟨b, o + k * 4 + 1, none⟩ = some (.float .f64 (fi n)) ∧ w.cell? ⟨b, o + k * 4 + 2, none⟩ = some (.string ⟨#[]⟩) ∧ w.cell? ⟨b, o + k * 4 + 3, none⟩ = some (.slice none 0 0) :=
  ⟨hc (k * 4 + 0) _ (nvs_get l k 0 n h (by omega)), hc (k * 4 + 1) _ (nvs_get l k 1 n h (by omega)), hc (k * 4 + 2) _ (nvs_get l k 2 n h (by omega)), hc (k * 4 + 3) _ (nvs_get l k 3 n h (by omega))⟩

set_option maxRecDepth 100000 in
set_option maxHeartbeats 1600000 in
theorem in_nums (B : Nat) (A : Option Addr) (len c : Nat) (ns : List Int) (w : World) (hlen : ns.length = len) (hl : len ≤ 1000) (hr : Rd w B A (nvs ns)) (hB : B ≤ w.heap.size) :
    Calls Tryz.prog 45 #[.slice A len c] w fun e w' => ∃ A' c', e = .returned (.slice A' len c') ∧ Rd w' w'.heap.size A' (nvs ns) ∧ Below w.heap.size w w' := by
  obtain ⟨i0, hi, hz0, hz1, hz2⟩ := info_parts Tryz.info59
  have HL : Hid (ns.length = len) := hlen
  clear hlen
  go_enter Tryz.func45, Tryz.ntmps45
  go_wp2
  go_loopw [3, 11] (fun v i wr => ∃ k : Nat, k ≤ len ∧ i = .int .i64 k ∧ wr.ownsRow w.heap.size 59 4 v k (nvs (ns.take k)) ∧ Below w.heap.size w wr)
    (fun _ i _ => len - (intOf i).toNat)
  case atStart => exact ⟨0, Nat.zero_le _, rfl, World.ownsRow_nil _ _ _ _, Below.refl _ _⟩
  case round =>
    obtain ⟨k, hk, rfl, hown, hbel⟩ := hrel
    by_cases hlt : k < len
    · obtain ⟨n, hn⟩ : ∃ n, ns[k]? = some n := ⟨_, List.getElem?_eq_getElem (by rw [HL.out]; exact hlt)⟩
      obtain ⟨b, o, rfl, hbB, hc⟩ := hr.at_ (k := k * 4) (by rw [nvs_len, HL.out]; omega)
      obtain ⟨c0, c1, c2, c3⟩ := nvs_cells (w := wr) (fun j u hu => (hbel.cell (p := ⟨b, o + j, none⟩) (show b < _ by omega)).trans (hc j u hu)) hn
      have HN := Lib.hid hn
      clear hn hc
      go_wp2_with fail
      refine wp_loop_once ?_
      have hown2 := (hown.alloc (.cells #[.int .i64 1, .float .f64 (fi n), .string ⟨#[]⟩, .slice none 0 0] 36)).alloc (.cells #[.int .i64 1, .float .f64 (fi n), .string ⟨#[]⟩, .slice none 0 0] 59)
      have hbel2 := (hbel.alloc hbel.size (.cells #[.int .i64 1, .float .f64 (fi n), .string ⟨#[]⟩, .slice none 0 0] 36)).alloc (by have := hbel.size; simp; omega) (.cells #[.int .i64 1, .float .f64 (fi n), .string ⟨#[]⟩, .slice none 0 0] 59)
      have HO := Lib.hid hown2
      have HB := Lib.hid hbel2
      have hsz := hbel.size
      clear hown hbel hown2 hbel2
      go_wp2_with (at_builtin; refine wpList_append_own _ rfl (.tmp 37) (.tmp 39) 61 rfl w.heap.size 59 i0 _ 4 56 Tryz.underlying61 hi hz0 hz1 hz2 rfl (by decide) _ k _ rfl (HO.out.alloc _) ⟨wr.heap.size + 1 + 1, 0, none⟩ 1 1 (nv n) rfl rfl ?c1 ?c2 ?c3 ?c4 ?c5 ?_)
      case c1 => exact cells_at _ _ (by simp) _ _
      case c2 => intro u hu; simp [nv] at hu; rcases hu with rfl | rfl | rfl | rfl <;> rfl
      case c3 => unfold maxLen; omega
      case c4 => omega
      case c5 => simp; omega
      intro v' w3 hown3 hgrow _
      have hbel3 := below_grown (HB.out.alloc HB.out.size _) (by simp; omega) (HO.out.alloc _) (Nat.le_refl _) hgrow
      clear HO HB hgrow
      go_wp2
      go_roundw
      case rel => exact ⟨k + 1, by omega, by go_num, by rw [nvs_succ ns k n HN.out]; exact hown3, hbel3⟩
      case measure => simp [intOf]; omega
    · have he : k = len := by omega
      subst he
      obtain ⟨A', c', hv, hR⟩ := Rd.of_own hown
      have hR' : Rd wr wr.heap.size A' (nvs ns) := by rw [List.take_of_length_le (by rw [HL.out]; exact Nat.le_refl _)] at hR; exact hR
      have HV := Lib.hid hv
      clear hown hR hv
      go_wp2
      go_ret
      exact ⟨A', c', by rw [HV.out]; rfl, hR', hbel⟩
end Go.Proofs.YtojicbajcebjjaaGreatDoor
