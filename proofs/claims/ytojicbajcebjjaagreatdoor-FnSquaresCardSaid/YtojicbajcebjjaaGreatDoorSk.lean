/-
  SUMXMY2 over two columns.
-/
import Derived.Test.YtojicbajcebjjaaGreatDoorSr
import Derived.Deep.DeepCutAuto
namespace Go.Proofs.YtojicbajcebjjaaGreatDoor
open Go.RowKit
attribute [local go_sem] run_store_float

set_option maxRecDepth 100000 in
set_option maxHeartbeats 6400000 in
theorem sumx_diff (g L : Nat) (es : List Nat) (vs : List Value) (a b : List Int) (n : Nat) (w : World) (hl : FList w L es [.col a, .col b] vs) (ha : a.length = n) (hb : b.length = n) (hn : n ≤ 50)
    (fa' : ∀ z ∈ a, -1000 < z ∧ z < 1000 ∧ z ≠ 0) (fb' : ∀ z ∈ b, -1000 < z ∧ z < 1000 ∧ z ≠ 0) :
    Calls Tryz.prog 80 #[.pointer (some ⟨g, 0, none⟩), .string ⟨#[83, 85, 77, 88, 77, 89, 50]⟩, .pointer (some ⟨L, 0, none⟩)] w fun e w' => e = .returned (.agg #[.string ⟨#[]⟩, .float .f64 (fi (pairSum (fun x y => (x - y) * (x - y)) a b)), .string ⟨#[]⟩, .slice none 0 0, .slice none 0 0, .bool false, .string ⟨#[]⟩, .int .u8 1, .pointer none, .pointer none]) ∧ Below w.heap.size w w' := by
  have HA := Lib.hid ha
  have HB := Lib.hid hb
  have HFA := Lib.hid fa'
  have HFB := Lib.hid fb'
  clear ha hb fa' fb'
  obtain ⟨hlist, hvl, hel⟩ := hl
  obtain ⟨v0, v1, rfl⟩ : ∃ v0 v1, vs = [v0, v1] := by
    match vs, hvl with
    | [x, y], _ => exact ⟨x, y, rfl⟩
  obtain ⟨lo0, hi0, q1, _, _, A0, c0, p0, q0, rfl, hcol0⟩ := hel 0 (.col a) v0 rfl rfl
  obtain ⟨lo1, hi1, q2, _, _, A1, c1, p1, q3, rfl, hcol1⟩ := hel 1 (.col b) v1 rfl rfl
  rw [HA.out] at hlist
  rw [HB.out] at hlist
  have hcol0 := hcol0.more (Nat.le_refl _) q1
  have hcol1 := hcol1.more (Nat.le_refl _) q2
  obtain ⟨e0, e1, pp0, pp1, rfl, B0, B1⟩ := two_cells hlist
  have l0 := B0.lt
  have l1 := B1.lt
  have lL := hlist.root.lt
  have hta := assert73
  clear hel hvl q1 q2
  unfold fm at *
  go_enter Tryz.func80, Tryz.ntmps80
  go_wp2_with fail
  have R1 := Bk.new w 73 #[.string ⟨#[]⟩, .float .f64 0, .string ⟨#[]⟩, .slice none 0 0, .slice none 0 0, .bool false, .string ⟨#[]⟩, .int .u8 0, .pointer none, .pointer none]
  have bz := (Below.refl _ w).alloc (Nat.le_refl _) (.cells #[.string ⟨#[]⟩, .float .f64 0, .string ⟨#[]⟩, .slice none 0 0, .slice none 0 0, .bool false, .string ⟨#[]⟩, .int .u8 0, .pointer none, .pointer none] 73)
  have hl1 := hlist.below bz
  refine (list_len L _ _ _ hl1).mono ?_
  rintro e w1 ⟨rfl, rfl⟩
  go_wp2_with fail
  refine (list_front L e0 [e1] _ _ hl1).mono ?_
  rintro e w1 ⟨rfl, rfl⟩
  have k0 := fun i => (B0.alloc (.cells #[.string ⟨#[]⟩, .float .f64 0, .string ⟨#[]⟩, .slice none 0 0, .slice none 0 0, .bool false, .string ⟨#[]⟩, .int .u8 0, .pointer none, .pointer none] 73)).cell i
  go_wp2_with fail
  have hl2 := hl1.below ((Below.refl _ _).alloc (Nat.le_refl _) (.cells (fmc A0 n c0 p0 q0) 73))
  unfold fmc at hl2
  refine (list_back L e1 [e0] _ _ hl2).mono ?_
  rintro e w1 ⟨rfl, rfl⟩
  have k1 := fun i => ((B1.alloc (.cells #[.string ⟨#[]⟩, .float .f64 0, .string ⟨#[]⟩, .slice none 0 0, .slice none 0 0, .bool false, .string ⟨#[]⟩, .int .u8 0, .pointer none, .pointer none] 73)).alloc (.cells (fmc A0 n c0 p0 q0) 73)).cell i
  unfold fmc at k1
  clear k0
  go_wp2_with fail
  have R3 := (R1.alloc (.cells (fmc A0 n c0 p0 q0) 73)).alloc (.cells (fmc A1 n c1 p1 q3) 73)
  have T0 : Two (((w.alloc (.cells #[.string ⟨#[]⟩, .float .f64 0, .string ⟨#[]⟩, .slice none 0 0, .slice none 0 0, .bool false, .string ⟨#[]⟩, .int .u8 0, .pointer none, .pointer none] 73)).alloc (.cells (fmc A0 n c0 p0 q0) 73)).alloc (.cells (fmc A1 n c1 p1 q3) 73)) (w.heap.size + 1) (fmc A0 n c0 p0 q0) (fmc A1 n c1 p1 q3) (((w.alloc (.cells #[.string ⟨#[]⟩, .float .f64 0, .string ⟨#[]⟩, .slice none 0 0, .slice none 0 0, .bool false, .string ⟨#[]⟩, .int .u8 0, .pointer none, .pointer none] 73)).alloc (.cells (fmc A0 n c0 p0 q0) 73)).alloc (.cells (fmc A1 n c1 p1 q3) 73)) := by
    have h1 := (Bk.new (w.alloc (.cells #[.string ⟨#[]⟩, .float .f64 0, .string ⟨#[]⟩, .slice none 0 0, .slice none 0 0, .bool false, .string ⟨#[]⟩, .int .u8 0, .pointer none, .pointer none] 73)) 73 (fmc A0 n c0 p0 q0)).alloc (.cells (fmc A1 n c1 p1 q3) 73)
    have h2 := Bk.new ((w.alloc (.cells #[.string ⟨#[]⟩, .float .f64 0, .string ⟨#[]⟩, .slice none 0 0, .slice none 0 0, .bool false, .string ⟨#[]⟩, .int .u8 0, .pointer none, .pointer none] 73)).alloc (.cells (fmc A0 n c0 p0 q0) 73)) 73 (fmc A1 n c1 p1 q3)
    refine ⟨by simpa using h1, by simpa using h2, Below.refl _ _⟩
  have bW := (bz.alloc (by simp) (.cells (fmc A0 n c0 p0 q0) 73)).alloc (by simp; omega) (.cells (fmc A1 n c1 p1 q3) 73)
  have sW : w.heap.size < (((w.alloc (.cells #[.string ⟨#[]⟩, .float .f64 0, .string ⟨#[]⟩, .slice none 0 0, .slice none 0 0, .bool false, .string ⟨#[]⟩, .int .u8 0, .pointer none, .pointer none] 73)).alloc (.cells (fmc A0 n c0 p0 q0) 73)).alloc (.cells (fmc A1 n c1 p1 q3) 73)).heap.size := by simp; omega
  have d0 := (hcol0.below bW (Nat.le_refl _)).more (Nat.le_refl _) (Nat.le_of_lt sW)
  have d1 := (hcol1.below bW (Nat.le_refl _)).more (Nat.le_refl _) (Nat.le_of_lt sW)
  clear hcol0 hcol1 k1 hl1 hl2 bz R1 B0 B1 hlist l0 l1 lL hta
  change Code.wp _ _ _ _ (((w.alloc (.cells #[.string ⟨#[]⟩, .float .f64 0, .string ⟨#[]⟩, .slice none 0 0, .slice none 0 0, .bool false, .string ⟨#[]⟩, .int .u8 0, .pointer none, .pointer none] 73)).alloc (.cells (fmc A0 n c0 p0 q0) 73)).alloc (.cells (fmc A1 n c1 p1 q3) 73))
  generalize (((w.alloc (.cells #[.string ⟨#[]⟩, .float .f64 0, .string ⟨#[]⟩, .slice none 0 0, .slice none 0 0, .bool false, .string ⟨#[]⟩, .int .u8 0, .pointer none, .pointer none] 73)).alloc (.cells (fmc A0 n c0 p0 q0) 73)).alloc (.cells (fmc A1 n c1 p1 q3) 73)) = W at *
  have C0 : ∀ w', Two W (w.heap.size + 1) (fmc A0 n c0 p0 q0) (fmc A1 n c1 p1 q3) w' → Col w' lo0 w'.heap.size 73 A0 nf a := fun w' h => (d0.below h.2.2 (Nat.le_refl _)).more (Nat.le_refl _) h.2.2.size
  have C1 : ∀ w', Two W (w.heap.size + 1) (fmc A0 n c0 p0 q0) (fmc A1 n c1 p1 q3) w' → Col w' lo1 w'.heap.size 73 A1 nf b := fun w' h => (d1.below h.2.2 (Nat.le_refl _)).more (Nat.le_refl _) h.2.2.size
  have HC0 := Lib.hid C0
  have HC1 := Lib.hid C1
  have hn1 : n ≤ 1000 := by omega
  clear d0 d1 C0 C1
  generalize hg : w.heap.size = H at *
  go_region_held3 (fun w' => Two W (H + 1) (fmc A0 n c0 p0 q0) (fmc A1 n c1 p1 q3) w' ∧ w'.cell? ⟨H + 1, 0, none⟩ = some (.string ⟨#[]⟩) ∧ w'.cell? ⟨H + 1, 1, none⟩ = some (.float .f64 0) ∧ w'.cell? ⟨H + 1, 2, none⟩ = some (.string ⟨#[]⟩) ∧ w'.cell? ⟨H + 1, 3, none⟩ = some (.slice none 0 0) ∧ w'.cell? ⟨H + 1, 4, none⟩ = some (.slice A0 n c0) ∧ w'.cell? ⟨H + 1, 5, none⟩ = some (.bool false) ∧ w'.cell? ⟨H + 1, 6, none⟩ = some (.string ⟨#[]⟩) ∧ w'.cell? ⟨H + 1, 7, none⟩ = some (.int .u8 4) ∧ w'.cell? ⟨H + 1, 8, none⟩ = some (.pointer (some ⟨p0, 0, none⟩)) ∧ w'.cell? ⟨H + 1, 9, none⟩ = some (.pointer (some ⟨q0, 0, none⟩)) ∧ w'.cell? ⟨H + 1 + 1, 0, none⟩ = some (.string ⟨#[]⟩) ∧ w'.cell? ⟨H + 1 + 1, 1, none⟩ = some (.float .f64 0) ∧ w'.cell? ⟨H + 1 + 1, 2, none⟩ = some (.string ⟨#[]⟩) ∧ w'.cell? ⟨H + 1 + 1, 3, none⟩ = some (.slice none 0 0) ∧ w'.cell? ⟨H + 1 + 1, 4, none⟩ = some (.slice A1 n c1) ∧ w'.cell? ⟨H + 1 + 1, 5, none⟩ = some (.bool false) ∧ w'.cell? ⟨H + 1 + 1, 6, none⟩ = some (.string ⟨#[]⟩) ∧ w'.cell? ⟨H + 1 + 1, 7, none⟩ = some (.int .u8 4) ∧ w'.cell? ⟨H + 1 + 1, 8, none⟩ = some (.pointer (some ⟨p1, 0, none⟩)) ∧ w'.cell? ⟨H + 1 + 1, 9, none⟩ = some (.pointer (some ⟨q3, 0, none⟩)))
    (first
      | exact Two.cells (Two.drew T0)
      | exact Two.cells (Two.later (And.left (by assumption)) (by assumption)))
    (first
      | (go_at_call_of 101 (Value.pointer (some ⟨p0, 0, none⟩)); refine (toList_col lo0 A0 n c0 p0 q0 a _ HA.out hn1 (HC0.out _ (And.left (by assumption)))).mono ?_; rintro e w2 ⟨X0, y0, rfl, r0, b0⟩)
      | (go_at_call_of 101 (Value.pointer (some ⟨p1, 0, none⟩)); refine (toList_col lo1 A1 n c1 p1 q3 b _ HB.out hn1 (HC1.out _ (And.left (by assumption)))).mono ?_; rintro e w3 ⟨X1, y1, rfl, r1, b1⟩))
  rename_i hlast
  have T3 : Two W (H + 1) (fmc A0 n c0 p0 q0) (fmc A1 n c1 p1 q3) w3 := hlast.1
  clear hlast
  have r0' := (r0.below b1).more b1.size
  have b3 := bW.trans (T3.2.2.mono (by omega))
  have R4 := R3.later T3.2.2
  have s3 : H < w3.heap.size := by have := T3.2.2.size; omega
  clear T3 R3 T0 bW sW HC0 HC1 r0 b0 b1
  go_wp2_with fail
  go_loopw [12, 13] (fun v i wr => ∃ k : Nat, k ≤ n ∧ i = .int .i64 k ∧ v = .float .f64 (fi (pairSum (fun x y => (x - y) * (x - y)) (a.take k) (b.take k))) ∧ Below w3.heap.size w3 wr)
    (fun _ i _ => n - (intOf i).toNat)
  case atStart => exact ⟨0, Nat.zero_le _, rfl, rfl, Below.refl _ _⟩
  case round =>
    obtain ⟨k, hk, rfl, rfl, hbel⟩ := hrel
    have hsz := hbel.size
    by_cases hlt : k < n
    · obtain ⟨x, hx⟩ : ∃ x, a[k]? = some x := ⟨_, List.getElem?_eq_getElem (by rw [HA.out]; exact hlt)⟩
      obtain ⟨y, hy⟩ : ∃ y, b[k]? = some y := ⟨_, List.getElem?_eq_getElem (by rw [HB.out]; exact hlt)⟩
      obtain ⟨bx, ox, rfl, hbx, hcx⟩ := r0'.at_ (k := k * 10) (by rw [List.flatMap_def, flat_len 10 _ (by intro y hy; simp at hy; obtain ⟨z, _, rfl⟩ := hy; rfl), List.length_map, HA.out]; omega)
      obtain ⟨by', oy, rfl, hby, hcy⟩ := r1.at_ (k := k * 10) (by rw [List.flatMap_def, flat_len 10 _ (by intro y hy; simp at hy; obtain ⟨z, _, rfl⟩ := hy; rfl), List.length_map, HB.out]; omega)
      have hX := Lib.hid (flat10 hcx hx)
      have hY := Lib.hid (flat10 hcy hy)
      have HX := Lib.hid hx
      have HY := Lib.hid hy
      obtain ⟨x1, x2, x3⟩ := HFA.out x (List.mem_of_getElem? hx)
      obtain ⟨y1', y2, y3⟩ := HFB.out y (List.mem_of_getElem? hy)
      have hxs : x.natAbs < 2 ^ 53 := by omega
      have hys : y.natAbs < 2 ^ 53 := by omega
      have hS := Lib.hid (pairSum_succ (fun x y => (x - y) * (x - y)) a b k x y hx hy)
      have hbd1 := pairSum_bd (fun x y => (x - y) * (x - y)) 4000000 opBdD a b (fun z hz => ⟨(HFA.out z hz).1, (HFA.out z hz).2.1⟩) (fun z hz => ⟨(HFB.out z hz).1, (HFB.out z hz).2.1⟩) k
      generalize pairSum (fun x y => (x - y) * (x - y)) (a.take k) (b.take k) = S at *
      obtain ⟨u1, u2⟩ := sq_bd x x1 x2
      obtain ⟨v1, v2⟩ := sq_bd y y1' y2
      have u3 := sq_pos x x3
      have v3 := sq_pos y y3
      have hbS : S.natAbs < 2 ^ 40 := by
        have : (k : Int) ≤ 50 := by omega
        omega
      obtain ⟨t1, t2, t3⟩ := sqd_bd (x - y) (by omega) (by omega)
      have e3 := fun (w : World) => run_float_arith (P := Tryz.prog) w .sub 33 .f64 _ _ _ (sub_fi x y (by omega) (by omega) (by omega) (.inl (by omega)))
      have e1 := fun (w : World) => run_float_arith (P := Tryz.prog) w .mul 33 .f64 _ _ _ (mul_fi (x - y) (x - y) (by omega) (by omega) (by omega) t3)
      have e4 := fun (w : World) => run_float_arith (P := Tryz.prog) w .add 33 .f64 _ _ _ (add_fi S ((x - y) * (x - y)) (by omega) (by omega) (by omega))
      have e2 := e1
      clear t3
      have hx0 : (FloatKind.f64.format.order (fi x) 0 != some .eq) = true := ne_zero x hxs x3
      have hy0 : (FloatKind.f64.format.order (fi y) 0 != some .eq) = true := ne_zero y hys y3
      clear hcx hcy hx hy
      have hbd : Below w3.heap.size w3 wr.drew := below_drewN hbel 1
      go_upto_region 13 with fail
      go_cut [14, 15] (fun p q wx => ∃ g1 g2 : Nat, p = .pointer (some ⟨g1, 0, none⟩) ∧ q = .pointer (some ⟨g2, 0, none⟩) ∧ wx.cell? ⟨g1, 1, none⟩ = some (.float .f64 (fi x)) ∧ wx.cell? ⟨g2, 1, none⟩ = some (.float .f64 (fi y)) ∧ Below w3.heap.size w3 wx)
      case first =>
        go_region_held3 (fun w' => Below w3.heap.size w3 w' ∧ w'.cell? ⟨bx, ox + k * 10, none⟩ = some (.string ⟨#[]⟩) ∧ w'.cell? ⟨bx, ox + k * 10 + 1, none⟩ = some (.float .f64 (fi x)) ∧ w'.cell? ⟨bx, ox + k * 10 + 2, none⟩ = some (.string ⟨#[]⟩) ∧ w'.cell? ⟨bx, ox + k * 10 + 3, none⟩ = some (.slice none 0 0) ∧ w'.cell? ⟨bx, ox + k * 10 + 4, none⟩ = some (.slice none 0 0) ∧ w'.cell? ⟨bx, ox + k * 10 + 5, none⟩ = some (.bool false) ∧ w'.cell? ⟨bx, ox + k * 10 + 6, none⟩ = some (.string ⟨#[]⟩) ∧ w'.cell? ⟨bx, ox + k * 10 + 7, none⟩ = some (.int .u8 1) ∧ w'.cell? ⟨bx, ox + k * 10 + 8, none⟩ = some (.pointer none) ∧ w'.cell? ⟨bx, ox + k * 10 + 9, none⟩ = some (.pointer none) ∧ w'.cell? ⟨by', oy + k * 10, none⟩ = some (.string ⟨#[]⟩) ∧ w'.cell? ⟨by', oy + k * 10 + 1, none⟩ = some (.float .f64 (fi y)) ∧ w'.cell? ⟨by', oy + k * 10 + 2, none⟩ = some (.string ⟨#[]⟩) ∧ w'.cell? ⟨by', oy + k * 10 + 3, none⟩ = some (.slice none 0 0) ∧ w'.cell? ⟨by', oy + k * 10 + 4, none⟩ = some (.slice none 0 0) ∧ w'.cell? ⟨by', oy + k * 10 + 5, none⟩ = some (.bool false) ∧ w'.cell? ⟨by', oy + k * 10 + 6, none⟩ = some (.string ⟨#[]⟩) ∧ w'.cell? ⟨by', oy + k * 10 + 7, none⟩ = some (.int .u8 1) ∧ w'.cell? ⟨by', oy + k * 10 + 8, none⟩ = some (.pointer none) ∧ w'.cell? ⟨by', oy + k * 10 + 9, none⟩ = some (.pointer none))
          (first
            | with_reducible exact ten_cells hbd hbx hby hX.out hY.out
            | with_reducible exact ten_cells (by with_reducible assumption) hbx hby hX.out hY.out
            | (with_reducible refine ten_cells ?_ hbx hby hX.out hY.out
               repeat (first | with_reducible assumption | with_reducible refine K.dr ?_ | with_reducible refine Below.setCell ?_ (by first | omega | (simp; done) | (simp; omega)) _ | with_reducible refine Below.alloc ?_ (by first | omega | (simp; done) | (simp; omega)) _)))
          (first
            | (go_at_call_of 87 (Value.float .f64 (fi x))
               refine (toNumber_num x _ hxs).mono ?_
               rintro e w4 ⟨rfl, b4⟩
               have hw4 := K.later (by assumption) b4
               have hv4 := hw4.size
               have hz4 := b4.size
               (try simp at hz4)
               obtain ⟨hc4, hf4⟩ := below_cells b4
               (try have q40 : wr.heap.size < w4.heap.size := by omega)
               (try have q41 : wr.heap.size + 1 < w4.heap.size := by omega)
               (try have q42 : wr.heap.size ≠ w4.heap.size := by omega)
               (try have q43 : wr.heap.size + 1 ≠ w4.heap.size := by omega)
               clear b4)
            | (go_at_call_of 87 (Value.float .f64 (fi y))
               refine (toNumber_num y _ hys).mono ?_
               rintro e w5 ⟨rfl, b5⟩
               have hw5 := K.later (by assumption) b5
               have hv5 := hw5.size
               have hz5 := b5.size
               (try simp at hz5)
               obtain ⟨hc5, hf5⟩ := below_cells b5
               (try have q50 : wr.heap.size < w5.heap.size := by omega)
               (try have q51 : wr.heap.size + 1 < w5.heap.size := by omega)
               (try have q52 : w4.heap.size < w5.heap.size := by omega)
               (try have q53 : w4.heap.size + 1 < w5.heap.size := by omega)
               (try have q54 : wr.heap.size ≠ w5.heap.size := by omega)
               (try have q55 : wr.heap.size + 1 ≠ w5.heap.size := by omega)
               (try have q56 : w4.heap.size ≠ w5.heap.size := by omega)
               (try have q57 : w4.heap.size + 1 ≠ w5.heap.size := by omega)
               clear b5))
        all_goals
          rename_i hlast
          have hb13 := hlast.1
          clear hlast
          go_wp2_with fail
          go_meet
          refine ⟨_, _, rfl, rfl, ?_, ?_, hb13⟩
        all_goals
          clear hX hY hS e1 e2 e3 e4 hb13
          first
            | (go_simp; done)
            | (simp [*]; done)
            | (repeat (first | refine (cell_far _ _ _ _ (by dsimp only; omega)).trans ?_ | refine (cell_off _ _ _ _ _ (by decide)).trans ?_)
               refine cell_same _ _ _ ?_
               repeat refine some_set _ _ _ _ _ _ ?_
               first
                 | exact ⟨_, (hc5 _ _ (by first | omega | (simp; done) | (simp; omega))).trans (cells_new w4 #[.string ⟨#[]⟩, .float .f64 0, .string ⟨#[]⟩, .slice none 0 0, .slice none 0 0, .bool false, .string ⟨#[]⟩, .int .u8 0, .pointer none, .pointer none] 73 1 _ rfl)⟩
                 | exact ⟨_, (hc5 _ _ (by first | omega | (simp; done) | (simp; omega))).trans (((Bk.new w4 73 #[.string ⟨#[]⟩, .float .f64 0, .string ⟨#[]⟩, .slice none 0 0, .slice none 0 0, .bool false, .string ⟨#[]⟩, .int .u8 0, .pointer none, .pointer none]).alloc (.cells #[.string ⟨#[]⟩, .float .f64 0, .string ⟨#[]⟩, .slice none 0 0, .slice none 0 0, .bool false, .string ⟨#[]⟩, .int .u8 0, .pointer none, .pointer none] 73)).cell 1)⟩
                 | exact ⟨_, (hc5 _ _ (by first | omega | (simp; done) | (simp; omega))).trans ((show Bk ((w4.alloc (.cells #[.string ⟨#[]⟩, .float .f64 0, .string ⟨#[]⟩, .slice none 0 0, .slice none 0 0, .bool false, .string ⟨#[]⟩, .int .u8 0, .pointer none, .pointer none] 73)).alloc (.cells #[.string ⟨#[]⟩, .float .f64 0, .string ⟨#[]⟩, .slice none 0 0, .slice none 0 0, .bool false, .string ⟨#[]⟩, .int .u8 0, .pointer none, .pointer none] 73)) (w4.heap.size + 1) 73 #[.string ⟨#[]⟩, .float .f64 0, .string ⟨#[]⟩, .slice none 0 0, .slice none 0 0, .bool false, .string ⟨#[]⟩, .int .u8 0, .pointer none, .pointer none] by have h := Bk.new (w4.alloc (.cells #[.string ⟨#[]⟩, .float .f64 0, .string ⟨#[]⟩, .slice none 0 0, .slice none 0 0, .bool false, .string ⟨#[]⟩, .int .u8 0, .pointer none, .pointer none] 73)) 73 #[.string ⟨#[]⟩, .float .f64 0, .string ⟨#[]⟩, .slice none 0 0, .slice none 0 0, .bool false, .string ⟨#[]⟩, .int .u8 0, .pointer none, .pointer none]; simpa using h).cell 1)⟩
                 | exact ⟨_, (hc5 wr.heap.size 1 (by first | omega | (simp; omega))).trans ((hc4 wr.heap.size 1 (by first | omega | (simp; done) | (simp; omega))).trans ((Bk.new wr 73 #[.string ⟨#[]⟩, .float .f64 0, .string ⟨#[]⟩, .slice none 0 0, .slice none 0 0, .bool false, .string ⟨#[]⟩, .int .u8 0, .pointer none, .pointer none]).cell 1))⟩
                 | exact ⟨_, (hc5 wr.heap.size 1 (by first | omega | (simp; omega))).trans ((hc4 wr.heap.size 1 (by first | omega | (simp; done) | (simp; omega))).trans (((Bk.new wr 73 #[.string ⟨#[]⟩, .float .f64 0, .string ⟨#[]⟩, .slice none 0 0, .slice none 0 0, .bool false, .string ⟨#[]⟩, .int .u8 0, .pointer none, .pointer none]).alloc (.cells #[.string ⟨#[]⟩, .float .f64 0, .string ⟨#[]⟩, .slice none 0 0, .slice none 0 0, .bool false, .string ⟨#[]⟩, .int .u8 0, .pointer none, .pointer none] 73)).cell 1))⟩
                 | exact ⟨_, (hc5 wr.heap.size 1 (by first | omega | (simp; omega))).trans ((World.cell?_alloc_lt w4 _ ⟨wr.heap.size, 1, none⟩ (by dsimp only; omega)).trans ((hc4 wr.heap.size 1 (by first | omega | (simp; done) | (simp; omega))).trans ((Bk.new wr 73 #[.string ⟨#[]⟩, .float .f64 0, .string ⟨#[]⟩, .slice none 0 0, .slice none 0 0, .bool false, .string ⟨#[]⟩, .int .u8 0, .pointer none, .pointer none]).cell 1)))⟩
                 | (rw [hc5 _ _ (by first | omega | (simp; done) | (simp; omega))]
                    first
                      | exact ⟨_, by go_simp⟩
                      | exact ⟨_, by simp [*]⟩)
                 | (trace_state; sorry))
      case rest =>
        obtain ⟨g1, g2, rfl, rfl, hg1, hg2, hb13⟩ := hcut
        go_wp2
        go_roundw
        case rel => exact ⟨k + 1, by omega, by go_num, by rw [hS.out], hb13⟩
        case measure => simp [intOf]; omega
    · obtain rfl : k = n := by omega
      have hbd1 := pairSum_bd (fun x y => (x - y) * (x - y)) 4000000 opBdD a b (fun z hz => ⟨(HFA.out z hz).1, (HFA.out z hz).2.1⟩) (fun z hz => ⟨(HFB.out z hz).1, (HFB.out z hz).2.1⟩) k
      have et : pairSum (fun x y => (x - y) * (x - y)) (a.take k) (b.take k) = pairSum (fun x y => (x - y) * (x - y)) a b := by
        rw [List.take_of_length_le (Nat.le_of_eq HA.out), List.take_of_length_le (Nat.le_of_eq HB.out)]
      rw [et] at hbd1 ⊢
      have R5 := R4.below hbel s3
      generalize hSe : pairSum (fun x y => (x - y) * (x - y)) a b = S at *
      have hbS : S.natAbs < 2 ^ 53 := by
        have : (k : Int) ≤ 50 := by omega
        omega
      go_wp2_with fail
      refine (newNum S _ hbS).mono ?_
      rintro e w9 ⟨rfl, b9⟩
      have R6 := R5.later b9
      have r6 := fun i => R6.cell i
      have q6 := fun i => R6.frozen i
      have bE := (b3.trans (hbel.mono (by omega))).trans (b9.mono (by omega))
      go_wp2
      refine bodyPost_ret (v := (.agg #[.string ⟨#[]⟩, .float .f64 (fi S), .string ⟨#[]⟩, .slice none 0 0, .slice none 0 0, .bool false, .string ⟨#[]⟩, .int .u8 1, .pointer none, .pointer none])) (by simp [results, Tryz.results80, go_sem, r6]) rfl ⟨by rw [hSe], ?_⟩
      rw [hg]
      repeat refine Below.setCell ?_ (by simp) _
      exact bE
end Go.Proofs.YtojicbajcebjjaaGreatDoor
