/-
  Arguments that are numbers or columns: the program's as the package's.
-/
import Derived.Test.YtojicbajcebjjaaGreatDoorSd
namespace Go.Proofs.YtojicbajcebjjaaGreatDoor
open Go.RowKit
attribute [local go_sem] run_store_float

set_option maxRecDepth 100000 in
set_option maxHeartbeats 1600000 in
/-- A row of one number. -/
theorem in_row (b o c : Nat) (n : Int) (w : World) (hc : ∀ j u, (nv n)[j]? = some u → w.cell? ⟨b, o + j, none⟩ = some u) (hb : b < w.heap.size) :
    Calls Tryz.prog 45 #[.slice (some ⟨b, o, none⟩) 1 c] w fun e w' => ∃ v, e = .returned v ∧ Rw w' w.heap.size w'.heap.size 59 v (nv n) ∧ Below w.heap.size w w' := by
  obtain ⟨i0, hi, hz0, hz1, hz2⟩ := info_parts Tryz.info59
  go_enter Tryz.func45, Tryz.ntmps45
  go_wp2
  go_loopw [3, 11] (fun v i wr => ∃ k : Nat, k ≤ 1 ∧ i = .int .i64 k ∧ wr.ownsRow w.heap.size 59 4 v k (nvs ([n].take k)) ∧ Below w.heap.size w wr)
    (fun _ i _ => 1 - (intOf i).toNat)
  case atStart => exact ⟨0, Nat.zero_le _, rfl, World.ownsRow_nil _ _ _ _, Below.refl _ _⟩
  case round =>
    obtain ⟨k, hk, rfl, hown, hbel⟩ := hrel
    by_cases hlt : k < 1
    · have hk0 : k = 0 := by omega
      have d := fun j u hu => (hbel.cell (p := ⟨b, o + j, none⟩) hb).trans (hc j u hu)
      have d0 : wr.cell? ⟨b, o + k * 4, none⟩ = some (.int .i64 1) := by have := d 0 _ rfl; rwa [← add_zero4 o k 0 hk0] at this
      have d1 : wr.cell? ⟨b, o + k * 4 + 1, none⟩ = some (.float .f64 (fi n)) := by rw [add_zero4 o k 1 hk0]; exact d 1 _ rfl
      have d2 : wr.cell? ⟨b, o + k * 4 + 2, none⟩ = some (.string ⟨#[]⟩) := by rw [add_zero4 o k 2 hk0]; exact d 2 _ rfl
      have d3 : wr.cell? ⟨b, o + k * 4 + 3, none⟩ = some (.slice none 0 0) := by rw [add_zero4 o k 3 hk0]; exact d 3 _ rfl
      have HK := Lib.hid hk0
      have hsz := hbel.size
      clear d hk0
      go_wp2_with fail
      refine wp_loop_once ?_
      have hown2 := (hown.alloc (.cells #[.int .i64 1, .float .f64 (fi n), .string ⟨#[]⟩, .slice none 0 0] 36)).alloc (.cells #[.int .i64 1, .float .f64 (fi n), .string ⟨#[]⟩, .slice none 0 0] 59)
      have hbel2 := (hbel.alloc hbel.size (.cells #[.int .i64 1, .float .f64 (fi n), .string ⟨#[]⟩, .slice none 0 0] 36)).alloc (by have := hbel.size; simp; omega) (.cells #[.int .i64 1, .float .f64 (fi n), .string ⟨#[]⟩, .slice none 0 0] 59)
      have HO := Lib.hid hown2
      have HB := Lib.hid hbel2
      clear hown hbel hown2 hbel2
      go_wp2_with (at_builtin; refine wpList_append_own _ rfl (.tmp 37) (.tmp 39) 61 rfl w.heap.size 59 i0 _ 4 56 Tryz.underlying61 hi hz0 hz1 hz2 rfl (by decide) _ k _ rfl (HO.out.alloc _) ⟨wr.heap.size + 1 + 1, 0, none⟩ 1 1 (nv n) rfl rfl ?c1 ?c2 ?c3 ?c4 ?c5 ?_)
      case c1 => exact cells_at _ _ (by simp) _ _
      case c2 => intro u hu; simp [nv] at hu; rcases hu with rfl | rfl | rfl | rfl <;> rfl
      case c3 => unfold maxLen; omega
      case c4 => omega
      case c5 => simp; omega
      intro v' w3 hown3 hgrow _
      have hbel3 := below_grown (HB.out.alloc HB.out.size _) (by simp; omega) (HO.out.alloc _) (Nat.le_refl _) hgrow
      have hn3 : nvs ([n].take k) ++ nv n = nvs ([n].take (k + 1)) := by rw [HK.out]; rfl
      rw [hn3] at hown3
      clear HO HB hgrow d0 d1 d2 d3
      go_wp2
      go_roundw
      case rel => exact ⟨k + 1, by omega, by go_num, hown3, hbel3⟩
      case measure => simp [intOf]; omega
    · obtain rfl : k = 1 := by omega
      have hrw := Rw.of_own hown
      have e1 : nvs ([n].take 1) = nv n := by simp [nvs]
      rw [e1] at hrw
      clear hown
      go_wp2
      go_ret
      exact ⟨_, rfl, hrw, hbel⟩

theorem Tryz.info61 : (Tryz.prog.info? 61).map (fun i => (i.zero, i.size, i.bytes)) = some (some (.slice none 0 0), 1, 24) := by kernel_rfl

set_option maxRecDepth 100000 in
set_option maxHeartbeats 6400000 in
/-- The arguments: as the package's. -/
theorem in_args (B : Nat) (A : Option Addr) (len c : Nat) (ags : List Ag) (cs : List (List Value)) (w : World) (hlen : ags.length = len) (hl : len ≤ 1000) (hr : Rd w B A cs.flatten) (hB : B ≤ w.heap.size) (ha : Args (AgI 36) w none ags cs) (hf : ∀ a ∈ ags, a.fits) :
    Calls Tryz.prog 45 #[.slice A len c] w fun e w' => ∃ A' c' cs', e = .returned (.slice A' len c') ∧ Rd w' w'.heap.size A' cs'.flatten ∧ Args (AgI 59) w' none ags cs' ∧ Below w.heap.size w w' := by
  obtain ⟨i0, hi, hz0, hz1, hz2⟩ := info_parts Tryz.info59
  obtain ⟨j0, ji, jz0, jz1, jz2⟩ := info_parts Tryz.info61
  have HL : Hid (ags.length = len) := hlen
  have hcl := ha.lens (s := 4) fun w lo hi a x h => h.len
  clear hlen
  go_enter Tryz.func45, Tryz.ntmps45
  go_wp2_with fail
  go_loopw [3, 11] (fun v i wr => ∃ (k : Nat) (ds : List (List Value)), k ≤ len ∧ i = .int .i64 k ∧ wr.ownsRow w.heap.size 59 4 v k ds.flatten ∧ Args (AgI 59) wr v.ownBlock (ags.take k) ds ∧ Below w.heap.size w wr)
    (fun _ i _ => len - (intOf i).toNat)
  case atStart => exact ⟨0, [], Nat.zero_le _, rfl, World.ownsRow_nil _ _ _ _, Args.nil, Below.refl _ _⟩
  case round =>
    obtain ⟨k, ds, hk, rfl, hown, hargs, hbel⟩ := hrel
    have hsz := hbel.size
    by_cases hlt : k < len
    · obtain ⟨a, hak⟩ : ∃ a, ags[k]? = some a := ⟨_, List.getElem?_eq_getElem (by rw [HL.out]; exact hlt)⟩
      obtain ⟨x, lo, hi', hx, hhi, hP⟩ := (ha.below (near_I 36) hbel).at_ hak
      obtain ⟨b, o, rfl, hbB, hc⟩ := hr.at_ (k := k * 4) (by rw [flat_len 4 cs hcl, ha.1, HL.out]; omega)
      have hcell : ∀ j u, j < 4 → x[j]? = some u → wr.cell? ⟨b, o + (k * 4 + j), none⟩ = some u := fun j u hj hu => (hbel.cell (p := ⟨b, o + (k * 4 + j), none⟩) (show b < _ by omega)).trans (hc _ u (by rw [flat_get 4 cs hcl k j x hx hj]; exact hu))
      have hfa := hf a (List.mem_of_getElem? hak)
      have HO := Lib.hid hown
      have HA := Lib.hid hargs
      have HB := Lib.hid hbel
      have HK := Lib.hid hak
      clear hc hown hargs hbel hx hak
      cases a with
      | num n =>
        obtain rfl : x = nv n := hP
        have d0 : wr.cell? ⟨b, o + k * 4, none⟩ = some (.int .i64 1) := hcell 0 _ (by omega) rfl
        have d1 : wr.cell? ⟨b, o + k * 4 + 1, none⟩ = some (.float .f64 (fi n)) := hcell 1 _ (by omega) rfl
        have d2 : wr.cell? ⟨b, o + k * 4 + 2, none⟩ = some (.string ⟨#[]⟩) := hcell 2 _ (by omega) rfl
        have d3 : wr.cell? ⟨b, o + k * 4 + 3, none⟩ = some (.slice none 0 0) := hcell 3 _ (by omega) rfl
        clear hcell
        go_wp2_with fail
        refine wp_loop_once ?_
        have hown2 := (HO.out.alloc (.cells #[.int .i64 1, .float .f64 (fi n), .string ⟨#[]⟩, .slice none 0 0] 36)).alloc (.cells #[.int .i64 1, .float .f64 (fi n), .string ⟨#[]⟩, .slice none 0 0] 59)
        have hargs2 := (HA.out.alloc (near_I 59) (.cells #[.int .i64 1, .float .f64 (fi n), .string ⟨#[]⟩, .slice none 0 0] 36)).alloc (near_I 59) (.cells #[.int .i64 1, .float .f64 (fi n), .string ⟨#[]⟩, .slice none 0 0] 59)
        have hbel2 := (HB.out.alloc hsz (.cells #[.int .i64 1, .float .f64 (fi n), .string ⟨#[]⟩, .slice none 0 0] 36)).alloc (by simp; omega) (.cells #[.int .i64 1, .float .f64 (fi n), .string ⟨#[]⟩, .slice none 0 0] 59)
        clear HO HA HB d0 d1 d2 d3
        have HO2 := Lib.hid hown2
        have HA2 := Lib.hid hargs2
        have HB2 := Lib.hid hbel2
        clear hown2 hargs2 hbel2
        go_wp2_with (at_builtin; refine wpList_append_own_at _ rfl (.tmp 37) (.tmp 39) 61 rfl w.heap.size 59 i0 _ 4 56 Tryz.underlying61 hi hz0 hz1 hz2 rfl (by decide) _ k _ rfl (HO2.out.alloc _) ⟨wr.heap.size + 1 + 1, 0, none⟩ 1 1 (nv n) rfl rfl ?c1 ?c2 ?c3 ?c4 ?c5 ?_)
        case c1 => exact cells_at _ _ (by simp) _ _
        case c2 => intro u hu; simp [nv] at hu; rcases hu with rfl | rfl | rfl | rfl <;> rfl
        case c3 => unfold maxLen; omega
        case c4 => omega
        case c5 => simp; omega
        intro v' w3 hown3 hgrow _ hat
        have hbel3 := below_grown (HB2.out.alloc HB2.out.size _) (by simp; omega) (HO2.out.alloc _) (Nat.le_refl _) hgrow
        have hargs3 := ((HA2.out.alloc (near_I 59) _).snoc HK.out 0 0 (Nat.zero_le _) (fun _ _ => .inr (Nat.zero_le _)) (show AgI 59 _ 0 0 (.num n) (nv n) from rfl)).grown (g' := v'.ownBlock) (near_I 59) hgrow (by simpa using hat)
        have hfl : ds.flatten ++ nv n = (ds ++ [nv n]).flatten := by simp
        rw [hfl] at hown3
        clear HO2 HA2 HB2 hgrow hat
        go_wp2
        go_roundw
        case rel => exact ⟨k + 1, _, by omega, by go_num, hown3, hargs3, hbel3⟩
        case measure => simp [intOf]; omega
      | col l =>
        obtain ⟨V0, rfl⟩ : ∃ V0, V0 = wr := ⟨wr, rfl⟩
        obtain ⟨A1, c1, rfl, hcol⟩ := hP
        have d0 : V0.cell? ⟨b, o + k * 4, none⟩ = some (.int .i64 5) := hcell 0 _ (by omega) rfl
        have d1 : V0.cell? ⟨b, o + k * 4 + 1, none⟩ = some (.float .f64 0) := hcell 1 _ (by omega) rfl
        have d2 : V0.cell? ⟨b, o + k * 4 + 2, none⟩ = some (.string ⟨#[]⟩) := hcell 2 _ (by omega) rfl
        have d3 : V0.cell? ⟨b, o + k * 4 + 3, none⟩ = some (.slice A1 l.length c1) := hcell 3 _ (by omega) rfl
        obtain ⟨f0, f1⟩ := hfa
        have hcol' := hcol.more (Nat.le_refl lo) hhi
        clear hcell hcol
        go_wp2_with fail
        have G6 : Bk ((V0.alloc (.cells #[.int .i64 5, .float .f64 0, .string ⟨#[]⟩, .slice A1 l.length c1] 36)).alloc (.cells #[.int .i64 5, .float .f64 0, .string ⟨#[]⟩, .slice none 0 0] 59)) (V0.heap.size + 1) 59 #[.int .i64 5, .float .f64 0, .string ⟨#[]⟩, .slice none 0 0] := by
          have := Bk.new (V0.alloc (.cells #[.int .i64 5, .float .f64 0, .string ⟨#[]⟩, .slice A1 l.length c1] 36)) 59 #[.int .i64 5, .float .f64 0, .string ⟨#[]⟩, .slice none 0 0]
          simpa using this
        have bz := ((Below.refl V0.heap.size V0).alloc (Nat.le_refl _) (.cells #[.int .i64 5, .float .f64 0, .string ⟨#[]⟩, .slice A1 l.length c1] 36)).alloc (by simp) (.cells #[.int .i64 5, .float .f64 0, .string ⟨#[]⟩, .slice none 0 0] 59)
        have sz : ((V0.alloc (.cells #[.int .i64 5, .float .f64 0, .string ⟨#[]⟩, .slice A1 l.length c1] 36)).alloc (.cells #[.int .i64 5, .float .f64 0, .string ⟨#[]⟩, .slice none 0 0] 59)).heap.size = V0.heap.size + 1 + 1 := by simp
        have hcol0 := hcol'.below bz (Nat.le_refl _)
        clear hcol' d0 d1 d2 d3
        generalize ((V0.alloc (.cells #[.int .i64 5, .float .f64 0, .string ⟨#[]⟩, .slice A1 l.length c1] 36)).alloc (.cells #[.int .i64 5, .float .f64 0, .string ⟨#[]⟩, .slice none 0 0] 59)) = W0 at *
        generalize hH : V0.heap.size = H at *
        go_loopw [25] (fun i wr => ∃ (j : Nat) (rows : List Value) (v : Value), j ≤ l.length ∧ i = .int .i64 j ∧ Bk wr (H + 1) 59 #[.int .i64 5, .float .f64 0, .string ⟨#[]⟩, v] ∧ wr.ownsRow (H + 1 + 1) 61 1 v j rows ∧ Rows wr (H + 1 + 1) wr.heap.size 59 nv (l.take j) rows ∧ Below (H + 1) W0 wr)
          (fun i _ => l.length - (intOf i).toNat)
        case atStart => exact ⟨0, [], _, Nat.zero_le _, rfl, G6, World.ownsRow_nil _ _ _ _, Rows.nil, Below.refl _ _⟩
        case round =>
          obtain ⟨j, rows, v, hj, rfl, N3, hown, hrows, hbel⟩ := hrel
          have hsx := hbel.size
          have n3 := fun i => N3.cell i
          have q3 := fun i => N3.frozen i
          by_cases hjl : j < l.length
          · obtain ⟨z, hz⟩ : ∃ z, l[j]? = some z := ⟨_, List.getElem?_eq_getElem hjl⟩
            obtain ⟨b, o, b1, o1, c1, rfl, hb, hrow, hb1, hc⟩ := (hcol0.below hbel (by omega)).at_ hz
            have hcd : ∀ j u, (nv z)[j]? = some u → wr.drew.cell? ⟨b1, o1 + j, none⟩ = some u := hc
            have hbd : b1 < wr.drew.heap.size := show b1 < wr.heap.size by omega
            have HZ := Lib.hid hz
            have HC := Lib.hid hcd
            have HO1 := Lib.hid hown
            have HR1 := Lib.hid hrows
            have HB1 := Lib.hid hbel
            have hg1 : H + 1 < H + 1 + 1 := by omega
            have hg2 : H + 1 + 1 ≤ wr.heap.size := by omega
            have hne59 : (59 : Nat) ≠ 61 := by decide
            clear hc hz hcd hown hrows hbel
            go_wp2_with fail
            go_region_law (first
              | (go_simp; go_at_call 45; refine (in_row b1 o1 c1 z _ HC.out hbd).mono ?_; rintro e w2 ⟨v2, rfl, r2, b2⟩; have R2 := Lib.hid r2; obtain ⟨g2, o2, c2, rfl, _, _, _, _⟩ := r2; have M2 := Bk.later (w := wr.drew) N3 b2; have l2 := M2.lt; have m2 := fun i => M2.cell i)
              | (refine step_append_lies _ rfl (.tmp 30) (.tmp 33) 57 rfl (H + 1 + 1) 61 j0 _ 1 24 Tryz.underlying57 ji jz0 jz1 jz2 rfl Nat.one_pos v j rows ?_ ?_ ⟨w2.heap.size, 0, none⟩ 1 1 [.slice (some ⟨g2, o2, none⟩) 1 c2] ?_ rfl (cells_new w2 _ 61) ?_ Nat.one_pos ?_ ?_ ?_ _ rfl ?_
                 · simp [Act.eval]
                 · exact (own_below (w := wr.drew) HO1.out b2).alloc _
                 · simp [Act.eval]
                 · intro u hu; simp at hu; subst hu; rfl
                 · unfold maxLen; omega
                 · omega
                 · exact Nat.le_trans hg2 (Nat.le_trans (show wr.heap.size ≤ w2.heap.size from b2.size) (by simp))
                 intro g4 cap4 w3 hown3 hgrow3 _ _
                 have hx := after_push N3 HO1.out HR1.out HB1.out HZ.out b2 R2.out hgrow3 hg1 hg2 hne59
                 have M3 := hx.1
                 have m3 := fun i => M3.cell i
                 have p3 := fun i => M3.frozen i
                 have HX := Lib.hid hx
                 have HO3 := Lib.hid hown3
                 clear hx hown3 hgrow3))
            all_goals
              obtain ⟨y1, y2, y3, y4⟩ := after_store 3 (Value.slice (some ⟨g4, 0, none⟩) (j + 1) cap4) HX.out.1 HO3.out HX.out.2.1 HX.out.2.2 hg1
              clear HX HO3 HO1 HR1 HB1 HC m2 M2 l2 R2 b2 M3 m3 p3 N3 n3 q3
              generalize World.setCell w3 _ _ = W4 at *
              go_wp2
              go_roundw
              case rel => exact ⟨j + 1, _, _, by omega, by go_num, y1, y2, y3, y4⟩
              case measure => simp [intOf]; omega
          · have hje : j = l.length := by omega
            subst hje
            rw [List.take_of_length_le (Nat.le_refl _)] at hrows
            obtain ⟨A2, c2, rfl, hcol1⟩ := Col.of_own hown hrows
            have be : Below V0.heap.size V0 wr := by rw [hH]; exact bz.trans (hbel.mono (by omega))
            have hown2 := own_below HO.out be
            have hargs2 := HA.out.below (near_I 59) be
            have hbel2 := HB.out.trans (be.mono (by omega))
            have hnew := fun (b : Nat) (hb : _) => (HO.out.lt b hb).2
            have hcol3 : AgI 59 (wr.alloc (.cells #[.int .i64 5, .float .f64 0, .string ⟨#[]⟩, .slice A2 l.length c2] 59)) (H + 1 + 1) wr.heap.size (.col l) [.int .i64 5, .float .f64 0, .string ⟨#[]⟩, .slice A2 l.length c2] := ⟨A2, c2, rfl, hcol1.alloc (Nat.le_refl _) _⟩
            have HO2 := Lib.hid hown2
            have HA2 := Lib.hid hargs2
            have HB2 := Lib.hid hbel2
            have HN := Lib.hid hnew
            have HC := Lib.hid hcol3
            have hs2 : w.heap.size ≤ wr.heap.size := hbel2.size
            clear hown hrows hown2 hargs2 hbel2 hnew hcol3 hcol1 be HO HA HB hbel N3 bz hcol0 G6
            go_wp2_with (at_builtin; refine wpList_append_own_at _ rfl (.tmp 37) (.tmp 39) 61 rfl w.heap.size 59 i0 _ 4 56 Tryz.underlying61 hi hz0 hz1 hz2 rfl (by decide) _ k _ rfl (HO2.out.alloc _) ⟨wr.heap.size, 0, none⟩ 1 1 [.int .i64 5, .float .f64 0, .string ⟨#[]⟩, .slice A2 l.length c2] rfl rfl ?d1 ?d2 ?d3 ?d4 ?d5 ?_)
            case d1 => exact cells_new wr _ 59
            case d2 => intro u hu; simp at hu; rcases hu with rfl | rfl | rfl | rfl <;> rfl
            case d3 => unfold maxLen; omega
            case d4 => omega
            case d5 => simp; omega
            intro v' w3 hown3 hgrow _ hat
            have hbel3 := below_grown (HB2.out.alloc HB2.out.size _) (by simp; omega) (HO2.out.alloc _) (Nat.le_refl _) hgrow
            have hargs3 := ((HA2.out.alloc (near_I 59) _).snoc HK.out (H + 1 + 1) wr.heap.size (by simp) (fun b hb => .inl (by have := HN.out b hb; omega)) HC.out).grown (g' := v'.ownBlock) (near_I 59) hgrow (by simpa using hat)
            have hfl : ds.flatten ++ [.int .i64 5, .float .f64 0, .string ⟨#[]⟩, .slice A2 l.length c2] = (ds ++ [([.int .i64 5, .float .f64 0, .string ⟨#[]⟩, .slice A2 l.length c2] : List Value)]).flatten := by simp
            rw [hfl] at hown3
            clear HO2 HA2 HB2 HN HC hgrow hat n3 q3
            go_wp2
            go_roundw
            case rel => exact ⟨k + 1, _, by omega, by go_num, hown3, hargs3, hbel3⟩
            case measure => simp [intOf]; omega
    · have hke : k = len := by omega
      subst hke
      rw [← HL.out, List.take_of_length_le (Nat.le_refl _)] at hargs
      obtain ⟨A1, c1, rfl, hR1⟩ := Rd.of_own hown
      have hargs' := hargs.free
      clear hown hargs
      go_wp2
      go_ret
      exact ⟨A1, c1, ds, rfl, hR1, hargs', hbel⟩
end Go.Proofs.YtojicbajcebjjaaGreatDoor
