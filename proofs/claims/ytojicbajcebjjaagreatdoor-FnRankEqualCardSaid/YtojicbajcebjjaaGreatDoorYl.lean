/-
  RANK of a number in a column.
-/
import Derived.Test.YtojicbajcebjjaaGreatDoorYk
import Derived.Test.YtojicbajcebjjaaGreatDoorSq
namespace Go.Proofs.YtojicbajcebjjaaGreatDoor
open Go.RowKit
attribute [local go_sem] run_store_float

theorem Tryz.infoF33 : (Tryz.prog.info? 33).map (fun i => (i.zero, i.size, i.bytes)) = some (some (.float .f64 0), 1, 8) := by kernel_rfl

theorem Bk.all10 {w : World} {g : Nat} {t : TypeId} {a0 a1 a2 a3 a4 a5 a6 a7 a8 a9 : Value} (h : Bk w g t #[a0, a1, a2, a3, a4, a5, a6, a7, a8, a9]) (v0 v1 v2 v3 v4 v5 v6 v7 v8 v9 : Value) : Bk ((((((((((w.setCell ⟨g, 0, none⟩ v0).setCell ⟨g, 1, none⟩ v1).setCell ⟨g, 2, none⟩ v2).setCell ⟨g, 3, none⟩ v3).setCell ⟨g, 4, none⟩ v4).setCell ⟨g, 5, none⟩ v5).setCell ⟨g, 6, none⟩ v6).setCell ⟨g, 7, none⟩ v7).setCell ⟨g, 8, none⟩ v8).setCell ⟨g, 9, none⟩ v9) g t #[v0, v1, v2, v3, v4, v5, v6, v7, v8, v9] := by
  have H := ((((((((((h.set_ 0 v0).set_ 1 v1).set_ 2 v2).set_ 3 v3).set_ 4 v4).set_ 5 v5).set_ 6 v6).set_ 7 v7).set_ 8 v8).set_ 9 v9)
  simpa using H

set_option maxRecDepth 100000 in
set_option maxHeartbeats 6400000 in
theorem rank_any (g L : Nat) (nm : ByteArray) (es : List Nat) (vs : List Value) (x : Int) (l : List Int) (up : Bool) (n : Nat) (w : World) (hl : FList w L es [.num x, .col l, .num (if up then 1 else 0)] vs) (hn : l.length = n) (h1 : 1 ≤ n) (h60 : n ≤ 60)
    (hz : ∀ z ∈ l, -200 ≤ z ∧ z ≤ 200) (hx : x ∈ l) :
    Calls Tryz.prog 100 #[.pointer (some ⟨g, 0, none⟩), .string nm, .pointer (some ⟨L, 0, none⟩)] w fun e w' => e = .returned (.agg #[.string ⟨#[]⟩, .float .f64 (fi (rk up l x + 1 : Nat)), .string ⟨#[]⟩, .slice none 0 0, .slice none 0 0, .bool false, .string ⟨#[]⟩, .int .u8 1, .pointer none, .pointer none]) ∧ Below w.heap.size w w' := by
  obtain ⟨i0, hif, hz0, hz1, hz2⟩ := info_parts Tryz.infoF33
  have HN : Hid (l.length = n) := hn
  have HZ := Lib.hid hz
  have HX := Lib.hid hx
  have hxz := hz x hx
  clear hn hz hx
  obtain ⟨o, ho⟩ : ∃ o : Int, o = if up then 1 else 0 := ⟨_, rfl⟩
  rw [← ho] at hl
  have HU := Lib.hid ho
  have hoz : o.natAbs < 2 ^ 53 := by rw [ho]; cases up <;> decide
  clear ho
  obtain ⟨hlist, hvl, hel⟩ := hl
  obtain ⟨v0, v1, v2, rfl⟩ : ∃ v0 v1 v2, vs = [v0, v1, v2] := by
    match vs, hvl with
    | [a, b, c], _ => exact ⟨a, b, c, rfl⟩
  obtain ⟨_, _, _, _, _, e0⟩ := hel 0 (.num x) v0 rfl rfl
  obtain ⟨lo1, hi1, q2, _, _, A1, c1, p1, q1, rfl, hcol⟩ := hel 1 (.col l) v1 rfl rfl
  obtain ⟨_, _, _, _, _, e2⟩ := hel 2 (.num o) v2 rfl rfl
  obtain rfl : v0 = fa x := e0
  obtain rfl : v2 = fa o := e2
  rw [HN.out] at hlist
  obtain ⟨b0, b1, b2, rfl⟩ : ∃ b0 b1 b2, es = [b0, b1, b2] := by
    match es, hlist.len with
    | [a, b, c], _ => exact ⟨a, b, c, rfl⟩
  obtain ⟨pp0, B0⟩ := hlist.elem 0 b0 _ rfl rfl
  obtain ⟨pp1, B1⟩ := hlist.elem 1 b1 _ rfl rfl
  obtain ⟨pp2, B2⟩ := hlist.elem 2 b2 _ rfl rfl
  have hcol := hcol.more (Nat.le_refl _) q2
  have hta := assert73
  clear hel hvl q2
  unfold fm at *
  go_enter Tryz.func100, Tryz.ntmps100
  go_wp2_with fail
  have R1 := Bk.new w 73 #[.string ⟨#[]⟩, .float .f64 0, .string ⟨#[]⟩, .slice none 0 0, .slice none 0 0, .bool false, .string ⟨#[]⟩, .int .u8 0, .pointer none, .pointer none]
  have bz := (Below.refl _ w).alloc (Nat.le_refl _) (.cells #[.string ⟨#[]⟩, .float .f64 0, .string ⟨#[]⟩, .slice none 0 0, .slice none 0 0, .bool false, .string ⟨#[]⟩, .int .u8 0, .pointer none, .pointer none] 73)
  have s0 : w.heap.size < (w.alloc (.cells #[.string ⟨#[]⟩, .float .f64 0, .string ⟨#[]⟩, .slice none 0 0, .slice none 0 0, .bool false, .string ⟨#[]⟩, .int .u8 0, .pointer none, .pointer none] 73)).heap.size := by simp
  have hl1 := hlist.below bz
  have C1 := (hcol.below bz (Nat.le_refl _)).more (Nat.le_refl _) (Nat.le_of_lt s0)
  have B0 := B0.later bz
  have B1 := B1.later bz
  have B2 := B2.later bz
  clear hlist hcol
  generalize w.alloc (.cells #[.string ⟨#[]⟩, .float .f64 0, .string ⟨#[]⟩, .slice none 0 0, .slice none 0 0, .bool false, .string ⟨#[]⟩, .int .u8 0, .pointer none, .pointer none] 73) = W0 at *
  refine (list_len L _ _ _ hl1).mono ?_
  rintro e w1 ⟨rfl, rfl⟩
  go_wp2_with fail
  refine (list_len L _ _ _ hl1).mono ?_
  rintro e w1 ⟨rfl, rfl⟩
  go_wp2_with fail
  refine (list_front L b0 [b1, b2] _ _ hl1).mono ?_
  rintro e w1 ⟨rfl, rfl⟩
  have k0 := fun i => B0.cell i
  go_wp2_with fail
  refine (toNumber_num x _ (by omega)).mono ?_
  rintro e w1 ⟨rfl, hb1⟩
  go_wp2_with fail
  have s1 := hb1.size
  have bz1 := bz.trans (hb1.mono (Nat.le_of_lt s0))
  have N1 := Bk.new w1 73 #[.string ⟨#[]⟩, .float .f64 (fi x), .string ⟨#[]⟩, .slice none 0 0, .slice none 0 0, .bool false, .string ⟨#[]⟩, .int .u8 1, .pointer none, .pointer none]
  have bz2 := (bz1.alloc (by omega) (.cells #[.string ⟨#[]⟩, .float .f64 (fi x), .string ⟨#[]⟩, .slice none 0 0, .slice none 0 0, .bool false, .string ⟨#[]⟩, .int .u8 1, .pointer none, .pointer none] 73))
  have s2 : w1.heap.size < (w1.alloc (.cells #[.string ⟨#[]⟩, .float .f64 (fi x), .string ⟨#[]⟩, .slice none 0 0, .slice none 0 0, .bool false, .string ⟨#[]⟩, .int .u8 1, .pointer none, .pointer none] 73)).heap.size := by simp
  have hb2 := hb1.alloc s1 (.cells #[.string ⟨#[]⟩, .float .f64 (fi x), .string ⟨#[]⟩, .slice none 0 0, .slice none 0 0, .bool false, .string ⟨#[]⟩, .int .u8 1, .pointer none, .pointer none] 73)
  have hl2 := hl1.below hb2
  have C2 := (C1.below hb2 (Nat.le_refl _)).more (Nat.le_refl _) hb2.size
  have R2 := R1.later hb2
  have B1 := B1.later hb2
  have B2 := B2.later hb2
  clear k0 B0 hl1 C1 R1 bz bz1 hb1 hb2
  generalize w1.alloc (.cells #[.string ⟨#[]⟩, .float .f64 (fi x), .string ⟨#[]⟩, .slice none 0 0, .slice none 0 0, .bool false, .string ⟨#[]⟩, .int .u8 1, .pointer none, .pointer none] 73) = W2 at *
  generalize w1.heap.size = nb at *
  refine (list_front L b0 [b1, b2] _ _ hl2).mono ?_
  rintro e w2 ⟨rfl, rfl⟩
  go_wp2_with fail
  refine (list_next L [b0, b1, b2] _ 0 b0 _ hl2 rfl).mono ?_
  rintro e w2 ⟨rfl, rfl⟩
  have k1 := fun i => B1.cell i
  go_wp2_with fail
  refine (toList_col lo1 A1 n c1 p1 q1 l _ HN.out (by omega) C2).mono ?_
  rintro e w3 ⟨A3, c3, rfl, hR3, hb3⟩
  go_wp2_with fail
  have s3 := hb3.size
  have bz3 := bz2.trans (hb3.mono (by omega))
  have N3 := N1.later hb3
  have hl3 := hl2.below hb3
  have R3 := R2.later hb3
  have B2 := B2.later hb3
  clear k1 B1 hl2 C2 R2 N1 bz2 hb3
  go_loopw [8, 45] (fun v i wr => ∃ k : Nat, k ≤ n ∧ i = .int .i64 k ∧ wr.ownsRow w3.heap.size 33 1 v k (cellF (l.take k)) ∧ Below w3.heap.size w3 wr)
    (fun _ i _ => n - (intOf i).toNat)
  case atStart => exact ⟨0, Nat.zero_le _, rfl, World.ownsRow_nil _ _ _ _, Below.refl _ _⟩
  case round =>
    obtain ⟨k, hk, rfl, hown, hbel⟩ := hrel
    have hsz := hbel.size
    by_cases hlt : k < n
    · obtain ⟨z, hzk⟩ : ∃ z, l[k]? = some z := ⟨_, List.getElem?_eq_getElem (by rw [HN.out]; exact hlt)⟩
      obtain ⟨bx, ox, rfl, hbx, hcx⟩ := hR3.at_ (k := k * 10) (by rw [List.flatMap_def, flat_len 10 _ (by intro y hy; simp at hy; obtain ⟨z, _, rfl⟩ := hy; rfl), List.length_map, HN.out]; omega)
      have hX : ∀ j u, j < 10 → (nf z)[j]? = some u → wr.cell? ⟨bx, ox + (k * 10 + j), none⟩ = some u := fun j u hj hu => (hbel.cell (p := ⟨bx, ox + (k * 10 + j), none⟩) (show bx < _ by omega)).trans (flat10 hcx hzk j u hj hu)
      have d0 : wr.cell? ⟨bx, ox + k * 10, none⟩ = some (.string ⟨#[]⟩) := hX 0 _ (by omega) rfl
      have d1 : wr.cell? ⟨bx, ox + k * 10 + 1, none⟩ = some (.float .f64 (fi z)) := hX 1 _ (by omega) rfl
      have d2 : wr.cell? ⟨bx, ox + k * 10 + 2, none⟩ = some (.string ⟨#[]⟩) := hX 2 _ (by omega) rfl
      have d3 : wr.cell? ⟨bx, ox + k * 10 + 3, none⟩ = some (.slice none 0 0) := hX 3 _ (by omega) rfl
      have d4 : wr.cell? ⟨bx, ox + k * 10 + 4, none⟩ = some (.slice none 0 0) := hX 4 _ (by omega) rfl
      have d5 : wr.cell? ⟨bx, ox + k * 10 + 5, none⟩ = some (.bool false) := hX 5 _ (by omega) rfl
      have d6 : wr.cell? ⟨bx, ox + k * 10 + 6, none⟩ = some (.string ⟨#[]⟩) := hX 6 _ (by omega) rfl
      have d7 : wr.cell? ⟨bx, ox + k * 10 + 7, none⟩ = some (.int .u8 1) := hX 7 _ (by omega) rfl
      have d8 : wr.cell? ⟨bx, ox + k * 10 + 8, none⟩ = some (.pointer none) := hX 8 _ (by omega) rfl
      have d9 : wr.cell? ⟨bx, ox + k * 10 + 9, none⟩ = some (.pointer none) := hX 9 _ (by omega) rfl
      have HO := Lib.hid hown
      have HB := Lib.hid hbel
      have HP := Lib.hid (cellF_succ l k z hzk)
      clear hX hcx hown hbel hzk
      go_wp2_with (at_builtin; refine wpList_append_own _ rfl (.tmp 52) (.tmp 55) 135 rfl w3.heap.size 33 i0 _ 1 8 Tryz.underlying135 hif hz0 hz1 hz2 rfl (by decide) _ k _ rfl ((HO.out.alloc _).alloc _) ⟨wr.heap.size + 1, 0, none⟩ 1 1 [.float .f64 (fi z)] rfl rfl ?c1 ?c2 ?c3 ?c4 ?c5 ?_)
      case c1 => exact cells_at _ _ (by simp) _ _
      case c2 => intro u hu; simp at hu; subst hu; rfl
      case c3 => unfold maxLen; omega
      case c4 => omega
      case c5 => simp; omega
      intro v' w4 hown4 hgrow _
      have hbel4 := below_grown ((HB.out.alloc hsz _).alloc (by simp; omega) _) (by simp; omega) ((HO.out.alloc _).alloc _) (Nat.le_refl _) hgrow
      rw [← HP.out] at hown4
      clear HO HB hgrow HP d0 d1 d2 d3 d4 d5 d6 d7 d8 d9
      go_wp2
      go_roundw
      case rel => exact ⟨k + 1, by omega, by go_num, hown4, hbel4⟩
      case measure => simp [intOf]; omega
    · have hke : k = n := by omega
      subst hke
      rw [show l.take k = l from by rw [← HN.out]; exact List.take_of_length_le (Nat.le_refl _)] at hown
      obtain ⟨gr, cr, rfl, hgb, hgl, hcap, hH⟩ := own_holds hown h1 HN.out HZ.out
      have hd4 : (arrK l).size = k := by rw [arrK_size, HN.out]
      have hfs := float64s_K gr 0 cr (arrK l) wr hH hgl (by rw [hd4]; omega)
      rw [hd4] at hfs
      have HW3 := Lib.hid (And.intro N3 (And.intro hl3 (And.intro R3 (And.intro B2 bz3))))
      have HH4 := Lib.hid hH
      have HB4 := Lib.hid hbel
      have HV := Lib.hid (valK_arrK HZ.out)
      clear hown hbel N3 hl3 R3 B2 bz3 hH hR3
      go_wp2_with fail
      refine hfs.mono ?_
      rintro e w5 ⟨rfl, d5, q5, os5, hp5, hs5, hw5⟩
      have b5 : Below w3.heap.size w3 w5 := by rw [hw5]; exact below_put os5 HB4.out hgb hsz
      have hd5 : d5.size = k := by rw [hp5.1, hd4]
      have H5 : Sort.Holds encK w5 gr 0 d5 := by
        rw [hw5]
        exact Sort.holds_grow _ _ _ _ _ _ (by simpa using hgl) (Sort.holds_putRow _ _ _ _ _ _ (Sort.holds_ahead _ _ _ _ _ _ HH4.out) hp5.1)
      have g5 : gr < w5.heap.size := by rw [hw5]; simp; omega
      obtain ⟨N3, hl3, R3, B2, bz3⟩ := HW3.out
      have hnb3 := N3.lt
      have hrb3 := R3.lt
      have N5 := N3.later b5
      have hnb := N5.lt
      have l5 := hl3.below b5
      have R5 := R3.later b5
      have hrb := R5.lt
      have B5 := B2.later b5
      have bz5 := bz3.trans (b5.mono (by omega))
      have HP5 := Lib.hid hp5
      have HS5 := Lib.hid hs5
      have HH5 := Lib.hid H5
      have hsw := s0
      clear N3 hl3 R3 B2 bz3 HW3 hp5 hs5 hw5 HH4 HB4 hfs H5 b5 hta
      have hta := assert73
      have hz0 := fun w => newNum 0 w (by decide)
      rw [fi_zero] at hz0
      go_wp2_with fail
      refine (hz0 _).mono ?_
      rintro e w6 ⟨rfl, b6⟩
      go_wp2_with fail
      have s6 := b6.size
      have O7 := Bk.new w6 73 #[.string ⟨#[]⟩, .float .f64 (0), .string ⟨#[]⟩, .slice none 0 0, .slice none 0 0, .bool false, .string ⟨#[]⟩, .int .u8 1, .pointer none, .pointer none]
      have b7 := b6.alloc s6 (.cells #[.string ⟨#[]⟩, .float .f64 (0), .string ⟨#[]⟩, .slice none 0 0, .slice none 0 0, .bool false, .string ⟨#[]⟩, .int .u8 1, .pointer none, .pointer none] 73)
      have s7 : w6.heap.size < (w6.alloc (.cells #[.string ⟨#[]⟩, .float .f64 (0), .string ⟨#[]⟩, .slice none 0 0, .slice none 0 0, .bool false, .string ⟨#[]⟩, .int .u8 1, .pointer none, .pointer none] 73)).heap.size := by simp
      have N7 := N5.later b7
      have l7 := l5.below b7
      have R7 := R5.later b7
      have B7 := B5.later b7
      have hob : w5.heap.size ≤ w6.heap.size := s6
      clear l5 B5 b6 s6 hz0
      generalize w6.alloc (.cells #[.string ⟨#[]⟩, .float .f64 (0), .string ⟨#[]⟩, .slice none 0 0, .slice none 0 0, .bool false, .string ⟨#[]⟩, .int .u8 1, .pointer none, .pointer none] 73) = W7 at *
      generalize w6.heap.size = ob at *
      refine (list_len L _ _ _ l7).mono ?_
      rintro e w8 ⟨rfl, rfl⟩
      go_wp2_with fail
      refine (list_back L b2 [b0, b1] _ _ l7).mono ?_
      rintro e w8 ⟨rfl, rfl⟩
      have k2 := fun i => B7.cell i
      go_wp2_with fail
      refine (toNumber_num o _ hoz).mono ?_
      rintro e w8 ⟨rfl, b8⟩
      have s8 := b8.size
      have O8 := O7.later b8
      have N8 := N7.later b8
      have R8 := R7.later b8
      have b9 := b7.trans (b8.mono (by omega))
      clear O7 N7 l7 R7 B7 k2 b8 b7
      have o8 := fun i => O8.cell i
      have p8 := fun i => O8.frozen i
      go_upto_region 19 with fail
      have O9 := O8.all10 (.string ⟨#[]⟩) (.float .f64 (fi o)) (.string ⟨#[]⟩) (.slice none 0 0) (.slice none 0 0) (.bool false) (.string ⟨#[]⟩) (.int .u8 1) (.pointer none) (.pointer none)
      have b10 : Below w5.heap.size w5 ((((((((((w8.setCell ⟨ob, 0, none⟩ (.string ⟨#[]⟩)).setCell ⟨ob, 1, none⟩ (.float .f64 (fi o))).setCell ⟨ob, 2, none⟩ (.string ⟨#[]⟩)).setCell ⟨ob, 3, none⟩ (.slice none 0 0)).setCell ⟨ob, 4, none⟩ (.slice none 0 0)).setCell ⟨ob, 5, none⟩ (.bool false)).setCell ⟨ob, 6, none⟩ (.string ⟨#[]⟩)).setCell ⟨ob, 7, none⟩ (.int .u8 1)).setCell ⟨ob, 8, none⟩ (.pointer none)).setCell ⟨ob, 9, none⟩ (.pointer none)) := by
        repeat refine Below.setCell ?_ (by exact hob) _
        exact b9
      have s10 := b10.size
      generalize ((((((((((w8.setCell ⟨ob, 0, none⟩ (.string ⟨#[]⟩)).setCell ⟨ob, 1, none⟩ (.float .f64 (fi o))).setCell ⟨ob, 2, none⟩ (.string ⟨#[]⟩)).setCell ⟨ob, 3, none⟩ (.slice none 0 0)).setCell ⟨ob, 4, none⟩ (.slice none 0 0)).setCell ⟨ob, 5, none⟩ (.bool false)).setCell ⟨ob, 6, none⟩ (.string ⟨#[]⟩)).setCell ⟨ob, 7, none⟩ (.int .u8 1)).setCell ⟨ob, 8, none⟩ (.pointer none)).setCell ⟨ob, 9, none⟩ (.pointer none)) = W9 at O9 b10 s10 ⊢
      have N9 := N5.below b10 hnb
      have R9 := R5.below b10 hrb
      have H9 : Sort.Holds encK W9 gr 0 d5 := fun j hj => ⟨(b10.cell (p := ⟨gr, 0 + j, none⟩) g5).trans (HH5.out j hj).1, (b10.frozen (p := ⟨gr, 0 + j, none⟩) g5).trans (HH5.out j hj).2⟩
      have g9 : gr < W9.heap.size := by omega
      have w9z := O9.lt
      have hbW : Below w.heap.size w W9 := bz5.trans (b10.mono (by omega))
      clear o8 p8 O8 N8 R8 b9 b10 N5 R5 HH5 bz5
      have HH9 := Lib.hid H9
      have n9 := fun i => N9.cell i
      have o9 := fun i => O9.cell i
      clear H9
      cases up with
      | true =>
        obtain rfl : o = 1 := HU.out
        have hne : (FloatKind.f64.format.order (fi 1) 0 == some .eq) = false := by decide
        go_wp2_with fail
        have hperm : (valK d5).Perm l := (valK_perm (by rw [hd4]; exact HP5.out)).trans (by rw [HV.out])
        have hasc := valK_asc (d := d5) (by rw [hd5]; exact HS5.out)
        have hmem : x ∈ valK d5 := hperm.mem_iff.2 HX.out
        obtain ⟨hfx, hbef⟩ := rk_at true x (valK d5) hasc hmem
        have hrk : rk true (valK d5) x = rk true l x := rk_perm hperm x
        rw [hrk] at hfx hbef
        have hm := rk_le true l x
        rw [HN.out] at hm
        have hfirst := first_at gr cr k (rk true l x) (valK d5) x W9 (by rw [valK_len]; omega) (by omega) (fun j z hj => holds_cell HH9.out hj) hfx hbef (valK_bd d5)
        obtain ⟨m, hmd⟩ : ∃ m, m = rk true l x := ⟨_, rfl⟩
        rw [← hmd] at hm hfirst hfx hbef
        have HM := Lib.hid hmd
        clear hmd
        refine hfirst.mono ?_
        rintro e wa ⟨rfl, ba⟩
        clear hfirst hbef hfx hmem hrk
        have R11 := R9.later ba
        have hsa := ba.size
        have hmm : ((m : Int) == -1) = false := by rw [beq_eq_false_iff_ne]; omega
        have hw11 : w.heap.size < W9.heap.size := R9.lt
        have bWa := hbW.trans (ba.mono (by omega))
        go_wp2_with fail
        refine (newNum ((m : Int) + 1) _ (by omega)).mono ?_
        rintro e wb ⟨rfl, bb⟩
        have R12 := R11.later bb
        have r12 := fun i => R12.cell i
        have q12 := fun i => R12.frozen i
        have bE := bWa.trans (bb.mono (by omega))
        clear ba bb bWa
        go_wp2
        refine bodyPost_ret (v := (.agg #[.string ⟨#[]⟩, .float .f64 (fi ((m : Int) + 1)), .string ⟨#[]⟩, .slice none 0 0, .slice none 0 0, .bool false, .string ⟨#[]⟩, .int .u8 1, .pointer none, .pointer none])) (by simp [results, Tryz.results100, go_sem, r12]) rfl ⟨by rw [← HM.out]; simp, ?_⟩
        repeat refine Below.setCell ?_ (by simp) _
        exact bE
      | false =>
        obtain rfl : o = 0 := HU.out
        have hne : (FloatKind.f64.format.order (fi 0) 0 == some .eq) = true := by decide
        go_wp2_with fail
        refine (reverse_any (some ⟨gr, 0, none⟩) k cr W9).mono ?_
        rintro e w10 ⟨rfl, hw10⟩
        have hA : Below W9.heap.size W9 w10 := by rw [hw10]; exact (Below.refl _ _).alloc (Nat.le_refl _) _
        have hz10 : w10.heap.size = W9.heap.size + 1 := by rw [hw10]; simp
        have hc10 : w10.cell? ⟨W9.heap.size, 0, none⟩ = some (.iface 141 (.slice (some ⟨gr, 0, none⟩) k cr)) := by rw [hw10]; simp
        have H10 : Sort.Holds encK w10 gr 0 d5 := fun j hj => ⟨(hA.cell (p := ⟨gr, 0 + j, none⟩) g9).trans (HH9.out j hj).1, (hA.frozen (p := ⟨gr, 0 + j, none⟩) g9).trans (HH9.out j hj).2⟩
        have N10 := N9.later hA
        have R10 := R9.later hA
        have hbW10 := hbW.trans (hA.mono (by omega))
        have HK : Hid (∃ K : Cx, K.w0 = w10 ∧ K.blk = gr ∧ K.off = 0 ∧ K.c = cr ∧ K.RB = W9.heap.size ∧ K.size = k ∧ Sx K d5 w10) :=
          ⟨⟨w10, gr, 0, cr, W9.heap.size, k, d5, hd5, by omega, by omega, by omega, H10, hc10, by omega⟩, rfl, rfl, rfl, rfl, rfl, rfl, SW.start H10, hd5⟩
        clear hw10 hA hc10 H10 n9 o9
        go_wp2_with fail
        obtain ⟨K, hK0, hK1, _, _, hK4, hK5, S10⟩ := HK.out
        have hsort := sort_any K d5 w10 S10
        rw [hK4] at hsort
        refine hsort.mono ?_
        rintro e w11 ⟨rfl, d6, hp6, hs6, S11⟩
        have hB11 : Below w3.heap.size w10 w11 := below_sx S11 (by rw [hK0]; exact Below.refl _ _) (by rw [hK1]; exact hgb)
        have H11 : Sort.Holds encK w11 gr 0 d6 := by have := S11.holds; rwa [hK1, show K.off = 0 by assumption] at this
        have hd6 : d6.size = k := S11.2.trans hK5
        rw [hK5] at hp6 hs6
        have N11 := N10.below hB11 hnb3
        have R11' := R10.below hB11 hrb3
        have hbW11 := hbW10.trans (hB11.mono (by omega))
        have n11 := fun i => N11.cell i
        have HH11 := Lib.hid H11
        have hperm5 : (valK d5).Perm l := (valK_perm (by rw [hd4]; exact HP5.out)).trans (by rw [HV.out])
        have hperm : (valK d6).Perm l := (valK_perm (by rw [hd5]; exact hp6)).trans hperm5
        have hdesc := valK_desc (d := d6) (by rw [hd6]; exact hs6)
        clear hsort S10 S11 hK0 hK1 hK4 hK5 hp6 hs6 H11 hperm5
        go_wp2_with fail
        have hmem : x ∈ valK d6 := hperm.mem_iff.2 HX.out
        obtain ⟨hfx, hbef⟩ := rk_at false x (valK d6) hdesc hmem
        have hrk : rk false (valK d6) x = rk false l x := rk_perm hperm x
        rw [hrk] at hfx hbef
        have hm := rk_le false l x
        rw [HN.out] at hm
        have hfirst := first_at gr cr k (rk false l x) (valK d6) x w11 (by rw [valK_len]; omega) (by omega) (fun j z hj => holds_cell HH11.out hj) hfx hbef (valK_bd d6)
        obtain ⟨m, hmd⟩ : ∃ m, m = rk false l x := ⟨_, rfl⟩
        rw [← hmd] at hm hfirst hfx hbef
        have HM := Lib.hid hmd
        clear hmd
        refine hfirst.mono ?_
        rintro e wa ⟨rfl, ba⟩
        clear hfirst hbef hfx hmem hrk
        have R11 := R11'.later ba
        have hsa := ba.size
        have hmm : ((m : Int) == -1) = false := by rw [beq_eq_false_iff_ne]; omega
        have hw11 : w.heap.size < w11.heap.size := R11'.lt
        have bWa := hbW11.trans (ba.mono (by omega))
        go_wp2_with fail
        refine (newNum ((m : Int) + 1) _ (by omega)).mono ?_
        rintro e wb ⟨rfl, bb⟩
        have R12 := R11.later bb
        have r12 := fun i => R12.cell i
        have q12 := fun i => R12.frozen i
        have bE := bWa.trans (bb.mono (by omega))
        clear ba bb bWa
        go_wp2
        refine bodyPost_ret (v := (.agg #[.string ⟨#[]⟩, .float .f64 (fi ((m : Int) + 1)), .string ⟨#[]⟩, .slice none 0 0, .slice none 0 0, .bool false, .string ⟨#[]⟩, .int .u8 1, .pointer none, .pointer none])) (by simp [results, Tryz.results100, go_sem, r12]) rfl ⟨by rw [← HM.out]; simp, ?_⟩
        repeat refine Below.setCell ?_ (by simp) _
        exact bE

end Go.Proofs.YtojicbajcebjjaaGreatDoor
