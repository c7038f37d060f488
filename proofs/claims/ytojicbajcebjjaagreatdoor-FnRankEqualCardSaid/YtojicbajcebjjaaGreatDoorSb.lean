/-
  Columns of whole numbers: the reference's; a row of one number as the program's.
-/
import Derived.Test.YtojicbajcebjjaaGreatDoorSa
namespace Go.Proofs.YtojicbajcebjjaaGreatDoor
open Go.RowKit
attribute [local go_sem] run_store_float

theorem Tryz.info31 : (Tryz.prog.info? 31).map (fun i => (i.zero, i.size, i.bytes)) = some (some (.slice none 0 0), 1, 24) := by kernel_rfl
theorem Tryz.info25 : (Tryz.prog.info? 25).map (fun i => (i.zero, i.size, i.bytes)) = some (some (.slice none 0 0), 1, 24) := by kernel_rfl

/-- the cells of a number of the reference -/
def sv (n : Int) : List Value := [.int .i64 1, .int .i64 n, .int .i64 1, .string ⟨#[]⟩, .slice none 0 0]

set_option maxHeartbeats 400000 in
theorem table_any (A : Option Addr) (n c : Nat) (w : World) :
    Calls Tryz.prog 42 #[.slice A n c] w fun e w' => e = .returned (.agg #[.int .i64 5, .int .i64 0, .int .i64 0, .string ⟨#[]⟩, .slice A n c]) ∧ Below w.heap.size w w' := by
  go_enter Tryz.func42, Tryz.ntmps42
  go_wp2
  exact bodyPost_ret (v := .agg #[.int .i64 5, .int .i64 0, .int .i64 0, .string ⟨#[]⟩, .slice A n c]) (by simp [results, Tryz.results42, go_sem]) rfl ⟨rfl, (Below.refl _ _).alloc (Nat.le_refl _) _⟩

set_option maxRecDepth 100000 in
set_option maxHeartbeats 1600000 in
theorem sumsColumn_any (B : Nat) (A : Option Addr) (len c : Nat) (l : List Int) (w : World) (hlen : l.length = len) (hl : len ≤ 1000) (hr : Rd w B A (cellI l)) (hB : B ≤ w.heap.size) (hs : ∀ z ∈ l, z ≤ 99999999999 ∧ -99999999999 ≤ z) :
    Calls Tryz.prog 14 #[.slice A len c] w fun e w' => ∃ A' c', e = .returned (.agg #[.int .i64 5, .int .i64 0, .int .i64 0, .string ⟨#[]⟩, .slice A' len c']) ∧ Col w' w.heap.size w'.heap.size 29 A' sv l ∧ Below w.heap.size w w' := by
  obtain ⟨i0, hi0, hz0, hz1, hz2⟩ := info_parts Tryz.info31
  have HL : Hid (l.length = len) := hlen
  clear hlen
  go_enter Tryz.func14, Tryz.ntmps14
  go_wp2_with fail
  have R1 := Bk.new w 29 #[.int .i64 0, .int .i64 0, .int .i64 0, .string ⟨#[]⟩, .slice none 0 0]
  have bz := (Below.refl _ w).alloc (Nat.le_refl _) (.cells #[.int .i64 0, .int .i64 0, .int .i64 0, .string ⟨#[]⟩, .slice none 0 0] 29)
  have s0 : w.heap.size < (w.alloc (.cells #[.int .i64 0, .int .i64 0, .int .i64 0, .string ⟨#[]⟩, .slice none 0 0] 29)).heap.size := by simp
  have hr0 := hr.below (bz.mono hB)
  generalize w.alloc (.cells #[.int .i64 0, .int .i64 0, .int .i64 0, .string ⟨#[]⟩, .slice none 0 0] 29) = W0 at *
  go_loopw [3, 4] (fun v i wr => ∃ (k : Nat) (rows : List Value), k ≤ len ∧ i = .int .i64 k ∧ wr.ownsRow W0.heap.size 31 1 v k rows ∧ Rows wr W0.heap.size wr.heap.size 29 sv (l.take k) rows ∧ Below W0.heap.size W0 wr)
    (fun _ i _ => len - (intOf i).toNat)
  case atStart => exact ⟨0, [], Nat.zero_le _, rfl, World.ownsRow_nil _ _ _ _, Rows.nil, Below.refl _ _⟩
  case round =>
    obtain ⟨k, rows, hk, rfl, hown, hrows, hbel⟩ := hrel
    have hsz := hbel.size
    by_cases hlt : k < len
    · obtain ⟨z, hz⟩ : ∃ z, l[k]? = some z := ⟨_, List.getElem?_eq_getElem (by rw [HL.out]; exact hlt)⟩
      obtain ⟨b, o, rfl, hbB, hc⟩ := hr0.at_ (k := k) (by rw [cellI_len, HL.out]; exact hlt)
      have hcell : wr.cell? ⟨b, o + k, none⟩ = some (.int .i64 z) := (hbel.cell (p := ⟨b, o + k, none⟩) (show b < _ by omega)).trans (hc k _ (cellI_get hz))
      obtain ⟨f0, f1⟩ := hs z (List.mem_of_getElem? hz)
      have HZ := Lib.hid hz
      clear hc hz
      go_wp2_with fail
      refine (int_any z _ f0 f1).mono ?_
      rintro e w1 ⟨rfl, b1⟩
      have s1 := b1.size
      have hown1 := (own_below hown b1).alloc (.cells #[.int .i64 1, .int .i64 z, .int .i64 1, .string ⟨#[]⟩, .slice none 0 0] 29)
      have hrows1 := ((hrows.below b1 (Nat.le_refl _)).alloc b1.size (.cells #[.int .i64 1, .int .i64 z, .int .i64 1, .string ⟨#[]⟩, .slice none 0 0] 29)).alloc (by simp; omega) (.cells #[.slice (some ⟨w1.heap.size, 0, none⟩) 1 1] 31)
      have hrow := Rw.of_bk ((Bk.new w1 29 #[.int .i64 1, .int .i64 z, .int .i64 1, .string ⟨#[]⟩, .slice none 0 0]).alloc (.cells #[.slice (some ⟨w1.heap.size, 0, none⟩) 1 1] 31)) |>.more (show W0.heap.size ≤ w1.heap.size by omega) (Nat.le_refl _)
      have hbel1 := ((hbel.trans (b1.mono hsz)).alloc (Nat.le_trans hsz s1) (.cells #[.int .i64 1, .int .i64 z, .int .i64 1, .string ⟨#[]⟩, .slice none 0 0] 29)).alloc (by simp; omega) (.cells #[.slice (some ⟨w1.heap.size, 0, none⟩) 1 1] 31)
      have hrows2 := hrows1.more (hi' := ((w1.alloc (.cells #[.int .i64 1, .int .i64 z, .int .i64 1, .string ⟨#[]⟩, .slice none 0 0] 29)).alloc (.cells #[.slice (some ⟨w1.heap.size, 0, none⟩) 1 1] 31)).heap.size) (Nat.le_refl _) (by simp; omega)
      have HO := Lib.hid hown1
      have HB := Lib.hid hbel1
      have HR := Lib.hid hrows2
      have HW := Lib.hid hrow
      clear hown hrows hown1 hrows1 hrows2 hbel1 hrow b1 hbel
      go_wp2_with (at_builtin; refine wpList_append_own _ rfl (.tmp 11) (.tmp 18) 27 rfl W0.heap.size 31 i0 _ 1 24 Tryz.underlying27 hi0 hz0 hz1 hz2 rfl (by decide) _ k _ rfl (HO.out.alloc _) ⟨w1.heap.size + 1, 0, none⟩ 1 1 [.slice (some ⟨w1.heap.size, 0, none⟩) 1 1] rfl rfl ?c1 ?c2 ?c3 ?c4 ?c5 ?_)
      case c1 => exact cells_at _ _ (by simp) _ _
      case c2 => intro u hu; simp at hu; subst hu; rfl
      case c3 => unfold maxLen; omega
      case c4 => omega
      case c5 => simp; omega
      intro v' w3 hown3 hgrow _
      have hbel3 := below_grown HB.out (by simp; omega) (HO.out.alloc _) (Nat.le_refl _) hgrow
      have hrows3 := HR.out.push HZ.out HW.out (Nat.le_refl _) (HO.out.alloc _) (by decide) hgrow
      clear HO HB HR HW hgrow
      go_wp2
      go_roundw
      case rel => exact ⟨k + 1, _, by omega, by go_num, hown3, hrows3, hbel3⟩
      case measure => simp [intOf]; omega
    · have hke : k = len := by omega
      subst hke
      rw [← HL.out, List.take_of_length_le (Nat.le_refl _)] at hrows
      obtain ⟨A1, c1, rfl, hcol⟩ := Col.of_own hown hrows
      have R2 := R1.below hbel s0
      have hbel2 := bz.trans (hbel.mono (by omega))
      clear hown hrows
      go_wp2_with fail
      refine (table_any _ _ _ _).mono ?_
      rintro e w4 ⟨rfl, b4⟩
      have R4 := R2.later b4
      have r4 := fun i => R4.cell i
      have q4 := fun i => R4.frozen i
      have hcol4 := hcol.below b4 (Nat.le_refl _)
      have s4 := b4.size
      have hbel4 := hbel2.trans (b4.mono (by omega))
      clear hcol b4 hbel2
      go_wp2
      refine bodyPost_ret (v := .agg #[.int .i64 5, .int .i64 0, .int .i64 0, .string ⟨#[]⟩, .slice A1 k c1]) (by simp [results, Tryz.results14, go_sem, r4]) rfl ⟨A1, c1, rfl, ?_, ?_⟩
      · refine (hcol4.keep (w' := _) fun b hl hb => ?_).more (by omega) (by simp; omega)
        repeat refine (Below.heap_setCell _ _ _ b (by simp; omega)).trans ?_
        rfl
      · repeat refine Below.setCell ?_ (by simp) _
        exact hbel4
end Go.Proofs.YtojicbajcebjjaaGreatDoor
