/-
  The law FnMultinomial, walked.
-/
import Derived.Test.YtojicbajcebjjaaGreatDoorU
import Derived.Deep.RegionHeld3
import Derived.BigQuiet
namespace Go.Proofs.YtojicbajcebjjaaGreatDoor
open Go.RowKit
attribute [local go_sem] run_store_float

theorem Tryz.info3 : (Tryz.prog.info? 3).map (fun i => (i.zero, i.size, i.bytes)) = some (some (.int .i64 0), 1, 8) := by kernel_rfl

/-- a list's parts as the law makes them -/
def parts (l : List Int) : List Nat := (l.take 4).map fun z => (small z 5).toNat
theorem parts_len (l : List Int) : (parts l).length = min 4 l.length := by simp [parts]
theorem parts_le (l : List Int) : ∀ x ∈ parts l, x ≤ 5 := by
  intro x hx
  simp only [parts, List.mem_map] at hx
  obtain ⟨z, _, rfl⟩ := hx
  have := small_bd z 5 (by omega)
  omega
theorem parts_get (l : List Int) (k : Nat) (z : Int) (h : l[k]? = some z) (hk : k < 4) : (parts l)[k]? = some (small z 5).toNat := by
  simp [parts, hk, h]

/-- the cells of a row of ints -/
def ints (l : List Nat) : List Value := l.map fun n : Nat => .int .i64 (n : Int)
theorem ints_eq (l : List Nat) : ints l = (castN l).map (.int .i64) := by simp [ints, castN]
theorem ints_len (l : List Nat) : (ints l).length = l.length := by simp [ints]
theorem ints_succ (l : List Nat) (k x : Nat) (h : l[k]? = some x) : ints (l.take (k + 1)) = ints (l.take k) ++ [.int .i64 x] := by
  obtain ⟨hk, rfl⟩ := List.getElem?_eq_some_iff.1 h
  rw [List.take_succ_eq_append_getElem hk]
  simp only [ints, List.map_append, List.map_cons, List.map_nil]
theorem ints_get {l : List Nat} {k x : Nat} (h : l[k]? = some x) : (ints l)[k]? = some (.int .i64 x) := by simp [ints, h]

/-- What stands through the statement on two parts: the reference's number, and the two parts. -/
abbrev Holds2 (w : World) (g : Nat) (n : Int) (b o : Nat) (x y : Int) (w' : World) : Prop :=
  Holds w g n w' ∧ w'.cell? ⟨b, o, none⟩ = some (.int .i64 x) ∧ w'.cell? ⟨b, o + 1, none⟩ = some (.int .i64 y)
theorem Holds2.mk' {w w' : World} {g b o : Nat} {n x y : Int} (hb : b < w.heap.size) (h0 : w.cell? ⟨b, o, none⟩ = some (.int .i64 x)) (h1 : w.cell? ⟨b, o + 1, none⟩ = some (.int .i64 y)) (h : Holds w g n w') : Holds2 w g n b o x y w' :=
  ⟨h, (h.2.1.1.cell (p := ⟨b, o, none⟩) hb).trans h0, (h.2.1.1.cell (p := ⟨b, o + 1, none⟩) hb).trans h1⟩
theorem mulN23 : mulN [2, 3] 2 = 10 := by decide
theorem fi_ten : ((10 : Nat) : Int) = 10 := rfl

set_option maxRecDepth 100000 in
set_option maxHeartbeats 40000000 in
theorem fnMultinomial_walk (B : Nat) (A : Option Addr) (len c : Nat) (l : List Int) (w : World) (hlen : l.length = len) (hr : Rd w B A (l.map (.int .i64))) (hB : B ≤ w.heap.size) (hi : ∀ z ∈ l, -9223372036854775808 ≤ z ∧ z ≤ 9223372036854775807) (hmax : (len : Int) ≤ 9223372036854775807) :
    Calls Tryz.prog 6 #[.slice A len c] w fun e w' => e = .returned (.bool true) ∧ Below w.heap.size w w' := by
  obtain ⟨i0, hi0, hz0, hz1, hz2⟩ := info_parts Tryz.info3
  have HL : Hid (l.length = len) := hlen
  have HI := Lib.hid hi
  clear hlen hi
  by_cases hbig : 2147483647 < len
  · go_enter Tryz.func6, Tryz.ntmps6
    go_wp2
    go_ret
    exact ⟨rfl, Below.refl _ _⟩
  have hpl := parts_len l
  rw [HL.out] at hpl
  have HPL := Lib.hid hpl
  clear hpl
  go_enter Tryz.func6, Tryz.ntmps6
  go_wp2_with fail
  go_loopw [3, 5, 6] (fun v n i wr => ∃ k : Nat, k ≤ len ∧ k ≤ 4 ∧ i = .int .i64 k ∧ n = .int .i64 (sumTo (parts l) k : Nat) ∧ wr.ownsRow w.heap.size 3 1 v k (ints ((parts l).take k)) ∧ Below w.heap.size w wr)
    (fun _ _ i _ => 4 - (intOf i).toNat)
  case atStart => exact ⟨0, Nat.zero_le _, by omega, rfl, rfl, World.ownsRow_nil _ _ _ _, Below.refl _ _⟩
  case round =>
    obtain ⟨k, hk, hk4, rfl, rfl, hown, hbel⟩ := hrel
    have hsl := sumTo_le (parts l) (parts_le l) k (by rw [HPL.out]; omega)
    by_cases hlt : k < len ∧ k < 4
    · obtain ⟨hlt, hlt4⟩ := hlt
      obtain ⟨z, hz⟩ : ∃ z, l[k]? = some z := ⟨_, List.getElem?_eq_getElem (by rw [HL.out]; exact hlt)⟩
      obtain ⟨b, o, rfl, hbB, hc⟩ := hr.at_ (k := k) (by simpa [HL.out] using hlt)
      have hcell : wr.cell? ⟨b, o + k, none⟩ = some (.int .i64 z) := (hbel.cell (p := ⟨b, o + k, none⟩) (show b < _ by omega)).trans (hc k _ (by simp [hz]))
      have hzb := HI.out z (List.mem_of_getElem? hz)
      have hp := parts_get l k z hz hlt4
      obtain ⟨x, hx, hx5⟩ := small_nat z 5 (by omega)
      rw [show (small z 5).toNat = x by omega] at hp
      have HX := Lib.hid hx
      have HP := Lib.hid hp
      have HS := Lib.hid (sumTo_succ (parts l) k x hp)
      clear hc hz hx hp
      generalize hS : sumTo (parts l) k = S at *
      have HS0 := Lib.hid hS
      clear hS
      go_wp2_with fail
      refine (combSmall_any z 5 _ (by omega) (by omega) hzb).mono ?_
      rintro e w1 ⟨rfl, rfl⟩
      rw [HX.out]
      have HO := Lib.hid hown
      have HB := Lib.hid hbel
      have hsz := hbel.size
      clear hown hbel hcell
      go_wp2_with (at_builtin; refine wpList_append_own _ rfl (.tmp 25) (.tmp 31) 22 rfl w.heap.size 3 i0 _ 1 8 Tryz.underlying22 hi0 hz0 hz1 hz2 rfl (by decide) _ k _ rfl (HO.out.alloc _) ⟨wr.heap.size, 0, none⟩ 1 1 [.int .i64 x] rfl rfl ?c1 ?c2 ?c3 ?c4 ?c5 ?_)
      case c1 => exact cells_new wr _ 3
      case c2 => intro u hu; simp at hu; subst hu; rfl
      case c3 => unfold maxLen; omega
      case c4 => omega
      case c5 => simp; omega
      intro v' w3 hown3 hgrow _
      have hbel3 := below_grown (HB.out.alloc HB.out.size _) (by simp; omega) (HO.out.alloc _) (Nat.le_refl _) hgrow
      rw [← ints_succ (parts l) k x HP.out] at hown3
      obtain ⟨A1, c1, rfl, hR1⟩ := Rd.of_own hown3
      obtain ⟨b1, o1, rfl, hb1, hc1⟩ := hR1.at_ (k := k) (by rw [ints_len, List.length_take, HPL.out]; omega)
      have hcell1 := hc1 k (.int .i64 x) (ints_get (by rw [List.getElem?_take, if_pos (by omega)]; exact HP.out))
      clear HO HB hgrow hc1 hR1
      go_wp2
      go_roundw
      case rel => exact ⟨k + 1, by omega, by omega, by go_num, val_int (by rw [HS.out]; omega), hown3, hbel3⟩
      case measure => simp [intOf]; omega
    -- THE END
    · have hkl : k = (parts l).length := by rw [HPL.out]; omega
      rw [hkl, List.take_of_length_le (Nat.le_refl _), ← hkl] at hown
      obtain ⟨A1, c1, rfl, hR1⟩ := Rd.of_own hown
      have hT : sumTo (parts l) k = (parts l).sum := by unfold sumTo; rw [hkl, List.take_of_length_le (Nat.le_refl _)]
      rw [hT] at hsl ⊢
      have HKL := Lib.hid hkl
      have hs0 := hbel.size
      clear hown hkl hT
      by_cases hkz1 : k < len
      · obtain rfl : k = 4 := by omega
        have HRQ := Lib.hid hR1
        generalize wr = W0 at *
        have hb0 := hbel
        have HQL := Lib.hid HKL.out.symm
        have hkz : (((4 : Nat) : Int) == 0) = false := by decide
        go_wp2_with fail
        go_loopw [4, 7] (fun v i wr => ∃ kk : Nat, kk ≤ 4 ∧ i = .int .i64 ((3 : Int) - kk) ∧ wr.ownsRow W0.heap.size 3 1 v kk (ints ((parts l).reverse.take kk)) ∧ Below W0.heap.size W0 wr)
          (fun _ i _ => (intOf i + 1).toNat)
        case atStart => exact ⟨0, Nat.zero_le _, val_int (by omega), World.ownsRow_nil _ _ _ _, Below.refl _ _⟩
        case round =>
          obtain ⟨k2, hk2, rfl, hown2, hbel2⟩ := hrel
          by_cases hlt2 : k2 < 4
          · obtain ⟨x, hx⟩ : ∃ x, (parts l).reverse[k2]? = some x := ⟨_, List.getElem?_eq_getElem (by rw [List.length_reverse, HQL.out]; exact hlt2)⟩
            have hx2 : (parts l)[3 - k2]? = some x := by rw [List.getElem?_reverse (by rw [HQL.out]; exact hlt2), HQL.out] at hx; exact hx
            obtain ⟨b2, o2, hA2, hb2, hc2⟩ := HRQ.out.at_ (k := 3 - k2) (by rw [ints_len, HQL.out]; omega)
            have hcell := (hbel2.cell (p := ⟨b2, o2 + (3 - k2), none⟩) (show b2 < _ by omega)).trans (hc2 _ _ (ints_get hx2))
            have hidx : ((3 : Int) - k2).toNat = 3 - k2 := by omega
            have HX := Lib.hid hx
            clear hx hx2 hc2
            subst hA2
            have HO := Lib.hid hown2
            have HB := Lib.hid hbel2
            have hsz2 := hbel2.size
            clear hown2 hbel2
            go_wp2_with (at_builtin; refine wpList_append_own _ rfl (.tmp 50) (.tmp 55) 22 rfl W0.heap.size 3 i0 _ 1 8 Tryz.underlying22 hi0 hz0 hz1 hz2 rfl (by decide) _ k2 _ rfl (HO.out.alloc _) ⟨wr.heap.size, 0, none⟩ 1 1 [.int .i64 x] rfl rfl ?c1f ?c2f ?c3f ?c4f ?c5f ?_)
            try (case c1f => exact cells_new wr _ 3)
            try (case c2f => first | rfl | (intro u hu; simp at hu; subst hu; rfl))
            case c3f => unfold maxLen; omega
            case c4f => omega
            case c5f => first | omega | (simp; omega)
            intro v' w3 hown3 hgrow _
            have hbel3 := below_grown (HB.out.alloc HB.out.size _) (by simp; omega) (HO.out.alloc _) (Nat.le_refl _) hgrow
            rw [← ints_succ (parts l).reverse k2 x HX.out] at hown3
            clear HO HB hgrow hcell
            go_wp2
            go_roundw
            case rel => exact ⟨k2 + 1, by omega, val_int (by omega), hown3, hbel3⟩
            case measure => simp [intOf]; omega
          · obtain rfl : 4 = k2 := by omega
            obtain ⟨A2, c2, rfl, hR2⟩ := Rd.of_own hown2
            rw [List.take_of_length_le (by rw [List.length_reverse, HQL.out]; exact Nat.le_refl _)] at hR2
            have hRQ2 := (HRQ.out.below hbel2).more hbel2.size
            have bw := hb0.trans (hbel2.mono hs0)
            have sw := bw.size
            clear hown2 hbel2 hlt2 hb0 hs0 hk2
            generalize wr = W3 at *
            have bb := Below.refl W3.heap.size W3
            have sb := bb.size
            have R2 := Lib.hid hR2
            have RQ := Lib.hid hRQ2
            clear hR2 hRQ2
            have H5 := Lib.hid (parts_le l)
            go_wp2_with fail
            refine (combMulti_any _ _ 4 _ (parts l) _ HQL.out (by omega) H5.out (by rw [← ints_eq]; exact RQ.out) (Nat.le_refl _)).mono ?_
            rintro e w1 ⟨rfl, b1⟩
            replace bb := bb.trans (b1.mono sb)
            replace sb := bb.size
            clear b1
            have hz1 : mulN (parts l) 4 ≤ 11732745024 := by
              have h1 := (mul_le (parts l) H5.out (by rw [HQL.out]; omega) 4 (by rw [HQL.out]; omega)).1
              have h2 := mB_le 4
              omega
            generalize hZ : mulN (parts l) 4 = Z at *
            have HZ := Lib.hid hZ
            clear hZ
            go_wp2_with fail
            have K := Bk.new w1 29 #[.int .i64 1, .int .i64 (Z : Nat), .int .i64 1, .string ⟨#[]⟩, .slice none 0 0]
            replace bb := bb.alloc sb (.cells #[.int .i64 1, .int .i64 (Z : Nat), .int .i64 1, .string ⟨#[]⟩, .slice none 0 0] 29)
            replace sb := bb.size
            generalize w1.alloc (.cells #[.int .i64 1, .int .i64 (Z : Nat), .int .i64 1, .string ⟨#[]⟩, .slice none 0 0] 29) = W4 at *
            generalize w1.heap.size = g at *
            refine (doubtful_num _ _).mono ?_
            rintro e w5 ⟨rfl, b1⟩
            replace K := K.later b1
            replace bb := bb.trans (b1.mono sb)
            replace sb := bb.size
            clear b1
            by_cases hT : 16 < (parts l).sum
            · go_wp2_with fail
              have b0 := bb.alloc sb (.cells #[.int .i64 2, .int .i64 3] 3)
              have r0 := Rd.of_bk (Bk.new w5 3 #[.int .i64 2, .int .i64 3]) ((castN [2, 3]).map (.int .i64)) rfl
              have s1 := b0.size
              generalize w5.alloc (.cells #[.int .i64 2, .int .i64 3] 3) = W6 at *
              refine (numArgs_any _ _ 2 2 (castN [2, 3]) _ rfl (by omega) r0 (Nat.le_refl _) (castN_fits [2, 3] (by decide))).mono ?_
              rintro e w6 ⟨A3, c3, rfl, r1, b1⟩
              replace bb := b0.trans (b1.mono s1)
              replace sb := bb.size
              clear b0 b1 r0
              go_wp2_with fail
              refine (multinomial_nums _ A3 2 c3 [2, 3] _ rfl r1 (Nat.le_refl _) (by decide) (by decide) (by omega) (by omega)).mono ?_
              rintro e w7 ⟨rfl, b1⟩
              rw [mulN23]
              replace bb := bb.trans (b1.mono sb)
              replace sb := bb.size
              clear b1 r1
              go_wp2_with fail
              refine (int_any 10 _ (by omega) (by omega)).mono ?_
              rintro e w8 ⟨rfl, b1⟩
              replace bb := bb.trans (b1.mono sb)
              replace sb := bb.size
              clear b1
              go_wp2_with fail
              refine (same_num _ _ _ (by omega) (by omega) (by decide) true (by decide)).mono ?_
              rintro e w9 ⟨rfl, b1⟩
              replace bb := bb.trans (b1.mono sb)
              have bfin := bw.trans (bb.mono sw)
              clear b1
              go_wp2
              go_ret
              exact ⟨rfl, bfin⟩
            · have hQs : (parts l).sum ≤ 16 := by omega
              have hrev : mulN (parts l).reverse 4 = Z := by
                have h1 := mul_rev (parts l) H5.out hQs
                rw [HQL.out] at h1
                exact h1.trans HZ.out
              have HREV := Lib.hid hrev
              clear hrev
              go_wp2_with fail
              refine (numArgs_any _ _ 4 _ (castN (parts l)) _ ((castN_len (parts l)).trans HQL.out) (by omega) (by rw [← ints_eq]; exact RQ.out.below bb) (by omega) (castN_fits (parts l) H5.out)).mono ?_
              rintro e w6 ⟨A3, c3, rfl, r1, b1⟩
              replace K := K.later b1
              replace bb := bb.trans (b1.mono sb)
              replace sb := bb.size
              clear b1
              go_wp2_with fail
              refine (multinomial_nums _ A3 4 c3 (parts l) _ HQL.out r1 (Nat.le_refl _) H5.out hQs (by omega) (by omega)).mono ?_
              rintro e w7 ⟨rfl, b1⟩
              rw [HZ.out]
              replace K := K.later b1
              replace bb := bb.trans (b1.mono sb)
              replace sb := bb.size
              clear b1 r1
              go_wp2_with fail
              have K9 := Bk.new w7 36 #[.int .i64 1, .float .f64 (fi (Z : Nat)), .string ⟨#[]⟩, .slice none 0 0]
              replace K := K.alloc (.cells #[.int .i64 1, .float .f64 (fi (Z : Nat)), .string ⟨#[]⟩, .slice none 0 0] 36)
              replace bb := bb.alloc sb (.cells #[.int .i64 1, .float .f64 (fi (Z : Nat)), .string ⟨#[]⟩, .slice none 0 0] 36)
              replace sb := bb.size
              generalize w7.alloc (.cells #[.int .i64 1, .float .f64 (fi (Z : Nat)), .string ⟨#[]⟩, .slice none 0 0] 36) = W8 at *
              generalize w7.heap.size = g9 at *
              refine (numArgs_any _ _ 4 _ (castN (parts l).reverse) _ (by rw [castN_len, List.length_reverse]; exact HQL.out) (by omega) (by rw [← ints_eq]; exact R2.out.below bb) (by omega) (castN_fits (parts l).reverse fun x hx => H5.out x (List.mem_reverse.1 hx))).mono ?_
              rintro e w9 ⟨A4, c4, rfl, r1, b1⟩
              replace K := K.later b1
              replace K9 := K9.later b1
              replace bb := bb.trans (b1.mono sb)
              replace sb := bb.size
              clear b1
              go_wp2_with fail
              refine (multinomial_nums _ A4 4 c4 (parts l).reverse _ (by rw [List.length_reverse]; exact HQL.out) r1 (Nat.le_refl _) (fun x hx => H5.out x (List.mem_reverse.1 hx)) (by rw [List.sum_reverse]; exact hQs) (by omega) (by omega)).mono ?_
              rintro e w10 ⟨rfl, b1⟩
              rw [HREV.out]
              replace K := K.later b1
              replace K9 := K9.later b1
              replace bb := bb.trans (b1.mono sb)
              replace sb := bb.size
              clear b1 r1
              go_wp2_with fail
              have K10 := Bk.new w10 36 #[.int .i64 1, .float .f64 (fi (Z : Nat)), .string ⟨#[]⟩, .slice none 0 0]
              replace K := K.alloc (.cells #[.int .i64 1, .float .f64 (fi (Z : Nat)), .string ⟨#[]⟩, .slice none 0 0] 36)
              replace K9 := K9.alloc (.cells #[.int .i64 1, .float .f64 (fi (Z : Nat)), .string ⟨#[]⟩, .slice none 0 0] 36)
              replace bb := bb.alloc sb (.cells #[.int .i64 1, .float .f64 (fi (Z : Nat)), .string ⟨#[]⟩, .slice none 0 0] 36)
              replace sb := bb.size
              generalize w10.alloc (.cells #[.int .i64 1, .float .f64 (fi (Z : Nat)), .string ⟨#[]⟩, .slice none 0 0] 36) = W11 at *
              generalize w10.heap.size = g10 at *
              have hh : Holds W11 g (Z : Nat) W11 := .mk' K (Below.refl _ _) (Nat.le_refl _)
              have hne2 : ((4 : Int) != 2) = true := by decide
              have hDr : ∀ nq, Holds W11 g (Z : Nat) (W11.drewN nq) := fun nq => .mk' K (below_drewN (Below.refl _ W11) nq) (Nat.le_refl _)
              go_big_quiet (fail)
              have hH := hDr nq
              clear hDr
              generalize W11.drewN nq = Wd at *
              have hHb := hH.2.1.1
              have hK9 := K9.later hHb
              have hK10 := K10.later hHb
              have hK := hH.1
              replace bb := bb.trans (hHb.mono sb)
              replace sb := bb.size
              clear hHb hH hh K K9 K10
              have c9 := fun i => hK9.cell i
              have c29 := fun i => hK.cell i
              go_wp2_with fail
              refine (same_num _ _ _ (by omega) (by omega) (by omega) true (by simp)).mono ?_
              rintro e w12 ⟨rfl, b1⟩
              replace hK10 := hK10.later b1
              replace hK := hK.later b1
              replace bb := bb.trans (b1.mono sb)
              replace sb := bb.size
              clear b1 c9 c29
              have c10 := fun i => hK10.cell i
              have c29 := fun i => hK.cell i
              go_wp2_with fail
              refine (same_num _ _ _ (by omega) (by omega) (by omega) true (by simp)).mono ?_
              rintro e w13 ⟨rfl, b1⟩
              replace bb := bb.trans (b1.mono sb)
              have bfin := bw.trans (bb.mono sw)
              clear b1 c10 c29
              go_wp2
              go_ret
              exact ⟨rfl, bfin⟩
      obtain rfl : k = len := by omega
      by_cases hk0 : k = 0
      · have hP : (parts l).sum = 0 := by rw [List.eq_nil_of_length_eq_zero (HKL.out.symm.trans hk0)]; rfl
        have hkz : ((k : Int) == 0) = true := by rw [hk0]; rfl
        have HP := Lib.hid hP
        have HK0 := Lib.hid hk0
        clear hk0 hP
        obtain ⟨Q, hQ⟩ : ∃ Q : List Nat, Q = [2, 3] := ⟨_, rfl⟩
        have HRQ := Lib.hid (Rd.of_bk (Bk.new wr 3 #[.int .i64 2, .int .i64 3]) (ints Q) (by rw [hQ]; rfl))
        have hb0 := hbel.alloc hs0 (.cells #[.int .i64 2, .int .i64 3] 3)
        replace hs0 := hb0.size
        have HQL : Hid (Q.length = 2) := Lib.hid (by rw [hQ]; rfl)
        have HQ := Lib.hid hQ
        clear hQ
        go_wp2_with fail
        generalize wr.alloc (.cells #[.int .i64 2, .int .i64 3] 3) = W0 at *
        generalize wr.heap.size = a0 at *
        go_wp2_with fail
        go_loopw [4, 7] (fun v i wr => ∃ kk : Nat, kk ≤ 2 ∧ i = .int .i64 ((1 : Int) - kk) ∧ wr.ownsRow W0.heap.size 3 1 v kk (ints (Q.reverse.take kk)) ∧ Below W0.heap.size W0 wr)
          (fun _ i _ => (intOf i + 1).toNat)
        case atStart => exact ⟨0, Nat.zero_le _, val_int (by omega), World.ownsRow_nil _ _ _ _, Below.refl _ _⟩
        case round =>
          obtain ⟨k2, hk2, rfl, hown2, hbel2⟩ := hrel
          by_cases hlt2 : k2 < 2
          · obtain ⟨x, hx⟩ : ∃ x, Q.reverse[k2]? = some x := ⟨_, List.getElem?_eq_getElem (by rw [List.length_reverse, HQL.out]; exact hlt2)⟩
            have hx2 : Q[1 - k2]? = some x := by rw [List.getElem?_reverse (by rw [HQL.out]; exact hlt2), HQL.out] at hx; exact hx
            obtain ⟨b2, o2, hA2, hb2, hc2⟩ := HRQ.out.at_ (k := 1 - k2) (by rw [ints_len, HQL.out]; omega)
            have hcell := (hbel2.cell (p := ⟨b2, o2 + (1 - k2), none⟩) (show b2 < _ by omega)).trans (hc2 _ _ (ints_get hx2))
            have hidx : ((1 : Int) - k2).toNat = 1 - k2 := by omega
            have HX := Lib.hid hx
            clear hx hx2 hc2
            obtain ⟨rfl, rfl⟩ : a0 = b2 ∧ 0 = o2 := by simpa using hA2
            rw [Nat.zero_add] at hcell
            have HO := Lib.hid hown2
            have HB := Lib.hid hbel2
            have hsz2 := hbel2.size
            clear hown2 hbel2
            go_wp2_with (at_builtin; refine wpList_append_own _ rfl (.tmp 50) (.tmp 55) 22 rfl W0.heap.size 3 i0 _ 1 8 Tryz.underlying22 hi0 hz0 hz1 hz2 rfl (by decide) _ k2 _ rfl (HO.out.alloc _) ⟨wr.heap.size, 0, none⟩ 1 1 [.int .i64 x] rfl rfl ?c1z ?c2z ?c3z ?c4z ?c5z ?_)
            try (case c1z => exact cells_new wr _ 3)
            try (case c2z => first | rfl | (intro u hu; simp at hu; subst hu; rfl))
            case c3z => unfold maxLen; omega
            case c4z => omega
            case c5z => first | omega | (simp; omega)
            intro v' w3 hown3 hgrow _
            have hbel3 := below_grown (HB.out.alloc HB.out.size _) (by simp; omega) (HO.out.alloc _) (Nat.le_refl _) hgrow
            rw [← ints_succ Q.reverse k2 x HX.out] at hown3
            clear HO HB hgrow hcell
            go_wp2
            go_roundw
            case rel => exact ⟨k2 + 1, by omega, val_int (by omega), hown3, hbel3⟩
            case measure => simp [intOf]; omega
          · obtain rfl : 2 = k2 := by omega
            obtain ⟨A2, c2, rfl, hR2⟩ := Rd.of_own hown2
            rw [List.take_of_length_le (by rw [List.length_reverse, HQL.out]; exact Nat.le_refl _)] at hR2
            have hRQ2 := (HRQ.out.below hbel2).more hbel2.size
            have bw := hb0.trans (hbel2.mono hs0)
            have sw := bw.size
            clear hown2 hbel2 hlt2 hb0 hs0 hk2
            generalize wr = W3 at *
            have bb := Below.refl W3.heap.size W3
            have sb := bb.size
            have R2 := Lib.hid hR2
            have RQ := Lib.hid hRQ2
            clear hR2 hRQ2
            have H5 : Hid (∀ x ∈ Q, x ≤ 5) := Lib.hid (by rw [HQ.out]; decide)
            go_wp2_with fail
            refine (combMulti_any _ _ 2 _ Q _ HQL.out (by omega) H5.out (by rw [← ints_eq]; exact RQ.out) (Nat.le_refl _)).mono ?_
            rintro e w1 ⟨rfl, b1⟩
            replace bb := bb.trans (b1.mono sb)
            replace sb := bb.size
            clear b1
            have hz1 : mulN Q 2 ≤ 11732745024 := by
              have h1 := (mul_le Q H5.out (by rw [HQL.out]; omega) 2 (by rw [HQL.out]; omega)).1
              have h2 := mB_le 2
              omega
            generalize hZ : mulN Q 2 = Z at *
            have HZ := Lib.hid hZ
            clear hZ
            go_wp2_with fail
            have K := Bk.new w1 29 #[.int .i64 1, .int .i64 (Z : Nat), .int .i64 1, .string ⟨#[]⟩, .slice none 0 0]
            replace bb := bb.alloc sb (.cells #[.int .i64 1, .int .i64 (Z : Nat), .int .i64 1, .string ⟨#[]⟩, .slice none 0 0] 29)
            replace sb := bb.size
            generalize w1.alloc (.cells #[.int .i64 1, .int .i64 (Z : Nat), .int .i64 1, .string ⟨#[]⟩, .slice none 0 0] 29) = W4 at *
            generalize w1.heap.size = g at *
            refine (doubtful_num _ _).mono ?_
            rintro e w5 ⟨rfl, b1⟩
            replace K := K.later b1
            replace bb := bb.trans (b1.mono sb)
            replace sb := bb.size
            clear b1
            have hT : (parts l).sum = 0 := HP.out
            have hQs : Q.sum ≤ 16 := by rw [HQ.out]; decide
            have hrev : mulN Q.reverse 2 = Z := by
              have h1 := mul_rev Q H5.out hQs
              rw [HQL.out] at h1
              exact h1.trans HZ.out
            have HREV := Lib.hid hrev
            clear hrev
            go_wp2_with fail
            refine (numArgs_any _ _ 2 _ (castN Q) _ ((castN_len Q).trans HQL.out) (by omega) (by rw [← ints_eq]; exact RQ.out.below bb) (by omega) (castN_fits Q H5.out)).mono ?_
            rintro e w6 ⟨A3, c3, rfl, r1, b1⟩
            replace K := K.later b1
            replace bb := bb.trans (b1.mono sb)
            replace sb := bb.size
            clear b1
            go_wp2_with fail
            refine (multinomial_nums _ A3 2 c3 Q _ HQL.out r1 (Nat.le_refl _) H5.out hQs (by omega) (by omega)).mono ?_
            rintro e w7 ⟨rfl, b1⟩
            rw [HZ.out]
            replace K := K.later b1
            replace bb := bb.trans (b1.mono sb)
            replace sb := bb.size
            clear b1 r1
            go_wp2_with fail
            have K9 := Bk.new w7 36 #[.int .i64 1, .float .f64 (fi (Z : Nat)), .string ⟨#[]⟩, .slice none 0 0]
            replace K := K.alloc (.cells #[.int .i64 1, .float .f64 (fi (Z : Nat)), .string ⟨#[]⟩, .slice none 0 0] 36)
            replace bb := bb.alloc sb (.cells #[.int .i64 1, .float .f64 (fi (Z : Nat)), .string ⟨#[]⟩, .slice none 0 0] 36)
            replace sb := bb.size
            generalize w7.alloc (.cells #[.int .i64 1, .float .f64 (fi (Z : Nat)), .string ⟨#[]⟩, .slice none 0 0] 36) = W8 at *
            generalize w7.heap.size = g9 at *
            refine (numArgs_any _ _ 2 _ (castN Q.reverse) _ (by rw [castN_len, List.length_reverse]; exact HQL.out) (by omega) (by rw [← ints_eq]; exact R2.out.below bb) (by omega) (castN_fits Q.reverse fun x hx => H5.out x (List.mem_reverse.1 hx))).mono ?_
            rintro e w9 ⟨A4, c4, rfl, r1, b1⟩
            replace K := K.later b1
            replace K9 := K9.later b1
            replace bb := bb.trans (b1.mono sb)
            replace sb := bb.size
            clear b1
            go_wp2_with fail
            refine (multinomial_nums _ A4 2 c4 Q.reverse _ (by rw [List.length_reverse]; exact HQL.out) r1 (Nat.le_refl _) (fun x hx => H5.out x (List.mem_reverse.1 hx)) (by rw [List.sum_reverse]; exact hQs) (by omega) (by omega)).mono ?_
            rintro e w10 ⟨rfl, b1⟩
            rw [HREV.out]
            replace K := K.later b1
            replace K9 := K9.later b1
            replace bb := bb.trans (b1.mono sb)
            replace sb := bb.size
            clear b1 r1
            go_wp2_with fail
            have K10 := Bk.new w10 36 #[.int .i64 1, .float .f64 (fi (Z : Nat)), .string ⟨#[]⟩, .slice none 0 0]
            replace K := K.alloc (.cells #[.int .i64 1, .float .f64 (fi (Z : Nat)), .string ⟨#[]⟩, .slice none 0 0] 36)
            replace K9 := K9.alloc (.cells #[.int .i64 1, .float .f64 (fi (Z : Nat)), .string ⟨#[]⟩, .slice none 0 0] 36)
            replace bb := bb.alloc sb (.cells #[.int .i64 1, .float .f64 (fi (Z : Nat)), .string ⟨#[]⟩, .slice none 0 0] 36)
            replace sb := bb.size
            generalize w10.alloc (.cells #[.int .i64 1, .float .f64 (fi (Z : Nat)), .string ⟨#[]⟩, .slice none 0 0] 36) = W11 at *
            generalize w10.heap.size = g10 at *
            have hh : Holds W11 g (Z : Nat) W11 := .mk' K (Below.refl _ _) (Nat.le_refl _)
            obtain ⟨x, y, hxy⟩ : ∃ x y, Q = [x, y] := by
              have := HQL.out
              match Q, this with
              | [x, y], _ => exact ⟨x, y, rfl⟩
            obtain ⟨bq, oq, hAq, hbq, hcq⟩ := RQ.out.at_ (k := 0) (by rw [ints_len, HQL.out]; omega)
            have hx5 := H5.out x (by rw [hxy]; simp)
            have hy5 := H5.out y (by rw [hxy]; simp)
            have cx := (bb.cell (p := ⟨bq, oq + 0, none⟩) hbq).trans (hcq 0 (.int .i64 x) (by rw [hxy]; rfl))
            have cy := (bb.cell (p := ⟨bq, oq + 1, none⟩) hbq).trans (hcq 1 (.int .i64 y) (by rw [hxy]; rfl))
            have hZ2 : choose (x + y) x = Z := by
              have h1 := HZ.out
              rw [hxy] at h1
              rw [← mul_two x y hx5 hy5]; exact h1
            have hpm := fun (B : Nat) (A : Option Addr) (c : Nat) (w : World) hr hB => (combin_ints B A c ((x : Int) + y) x (x + y) x w hr hB (by omega) rfl (by omega) (by omega))
            rw [hZ2] at hpm
            have HFT := fitTwoI ((x : Int) + y) (x : Int) (by omega) (by omega) (by omega) (by omega)
            have hbq2 : bq < W11.heap.size := by omega
            have hwr : IntKind.i64.wrap ((x : Int) + y) = (x : Int) + y := IntWalk.i64_in _ (by omega)
            obtain ⟨rfl, rfl⟩ : a0 = bq ∧ 0 = oq := by simpa using hAq
            have hzz : (Z : Int) ≤ 11732745024 := by omega
            have hrd : Rd (W11.alloc (.cells #[.int .i64 ((x : Int) + y), .int .i64 x] 3)).drew (W11.alloc (.cells #[.int .i64 ((x : Int) + y), .int .i64 x] 3)).heap.size (some ⟨W11.heap.size, 0, none⟩) ([((x : Int) + y), (x : Int)].map (.int .i64)) := Rd.of_bk (Bk.new W11 3 #[.int .i64 ((x : Int) + y), .int .i64 x]) _ rfl
            clear hcq hZ2 hx5 hy5 hxy hbq
            go_region_held3 (fun w' => (Bk w' g 29 #[.int .i64 1, .int .i64 (Z : Nat), .int .i64 1, .string ⟨#[]⟩, .slice none 0 0] ∧ (Below W11.heap.size W11 w' ∧ W11.heap.size ≤ w'.heap.size) ∧
                  w'.cell? ⟨g, 0, none⟩ = some (.int .i64 1) ∧ w'.cell? ⟨g, 1, none⟩ = some (.int .i64 (Z : Nat)) ∧ w'.cell? ⟨g, 2, none⟩ = some (.int .i64 1) ∧ w'.cell? ⟨g, 3, none⟩ = some (.string ⟨#[]⟩) ∧ w'.cell? ⟨g, 4, none⟩ = some (.slice none 0 0)) ∧
                  w'.cell? ⟨a0, 0, none⟩ = some (.int .i64 x) ∧ w'.cell? ⟨a0, 1, none⟩ = some (.int .i64 y))
                (first
                  | exact Holds2.mk' hbq2 cx cy (Holds.drew hh)
                  | exact Holds2.mk' hbq2 cx cy (Holds.alloc (And.left (by assumption)) _)
                  | exact Holds2.mk' hbq2 cx cy (Holds.later (And.left (by assumption)) (by assumption)))
                (first
                  | (go_at_call 22; refine (numArgs_any _ _ 2 2 [((x : Int) + y), (x : Int)] _ rfl (by omega) hrd (Nat.le_refl _) HFT).mono ?_; rintro e w2 ⟨A5, c5, rfl, r1, b1⟩)
                  | (go_at_call 21; refine (hpm _ _ _ _ (by assumption) (Nat.le_refl _)).mono ?_; rintro e w2 ⟨rfl, b1⟩)
                  | (go_at_call 15; refine (same_num _ _ _ (by omega) (by omega) (by omega) true (by simp)).mono ?_; rintro e w2 ⟨rfl, b1⟩))
            rename_i hlast
            have hH : Holds W11 g (Z : Nat) _ := hlast.1
            clear hlast
            have hHb := hH.2.1.1
            have hK9 := K9.later hHb
            have hK10 := K10.later hHb
            have hK := hH.1
            replace bb := bb.trans (hHb.mono sb)
            replace sb := bb.size
            clear hHb hH hh K K9 K10
            have c9 := fun i => hK9.cell i
            have c29 := fun i => hK.cell i
            go_wp2_with fail
            refine (same_num _ _ _ (by omega) (by omega) (by omega) true (by simp)).mono ?_
            rintro e w12 ⟨rfl, b1⟩
            replace hK10 := hK10.later b1
            replace hK := hK.later b1
            replace bb := bb.trans (b1.mono sb)
            replace sb := bb.size
            clear b1 c9 c29
            have c10 := fun i => hK10.cell i
            have c29 := fun i => hK.cell i
            go_wp2_with fail
            refine (same_num _ _ _ (by omega) (by omega) (by omega) true (by simp)).mono ?_
            rintro e w13 ⟨rfl, b1⟩
            replace bb := bb.trans (b1.mono sb)
            have bfin := bw.trans (bb.mono sw)
            clear b1 c10 c29
            go_wp2
            go_ret
            exact ⟨rfl, bfin⟩
      · skip
        have HRQ := Lib.hid hR1
        generalize wr = W0 at *
        have hb0 := hbel
        have HQL := Lib.hid HKL.out.symm
        have hkz : ((k : Int) == 0) = false := by rw [beq_eq_false_iff_ne]; omega
        go_wp2_with fail
        go_loopw [4, 7] (fun v i wr => ∃ kk : Nat, kk ≤ k ∧ i = .int .i64 (((k : Int) - 1) - kk) ∧ wr.ownsRow W0.heap.size 3 1 v kk (ints ((parts l).reverse.take kk)) ∧ Below W0.heap.size W0 wr)
          (fun _ i _ => (intOf i + 1).toNat)
        case atStart => exact ⟨0, Nat.zero_le _, val_int (by omega), World.ownsRow_nil _ _ _ _, Below.refl _ _⟩
        case round =>
          obtain ⟨k2, hk2, rfl, hown2, hbel2⟩ := hrel
          by_cases hlt2 : k2 < k
          · obtain ⟨x, hx⟩ : ∃ x, (parts l).reverse[k2]? = some x := ⟨_, List.getElem?_eq_getElem (by rw [List.length_reverse, HQL.out]; exact hlt2)⟩
            have hx2 : (parts l)[k - 1 - k2]? = some x := by rw [List.getElem?_reverse (by rw [HQL.out]; exact hlt2), HQL.out] at hx; exact hx
            obtain ⟨b2, o2, hA2, hb2, hc2⟩ := HRQ.out.at_ (k := k - 1 - k2) (by rw [ints_len, HQL.out]; omega)
            have hcell := (hbel2.cell (p := ⟨b2, o2 + (k - 1 - k2), none⟩) (show b2 < _ by omega)).trans (hc2 _ _ (ints_get hx2))
            have hidx : (((k : Int) - 1) - k2).toNat = k - 1 - k2 := by omega
            have HX := Lib.hid hx
            clear hx hx2 hc2
            subst hA2
            have HO := Lib.hid hown2
            have HB := Lib.hid hbel2
            have hsz2 := hbel2.size
            clear hown2 hbel2
            go_wp2_with (at_builtin; refine wpList_append_own _ rfl (.tmp 50) (.tmp 55) 22 rfl W0.heap.size 3 i0 _ 1 8 Tryz.underlying22 hi0 hz0 hz1 hz2 rfl (by decide) _ k2 _ rfl (HO.out.alloc _) ⟨wr.heap.size, 0, none⟩ 1 1 [.int .i64 x] rfl rfl ?c1k ?c2k ?c3k ?c4k ?c5k ?_)
            try (case c1k => exact cells_new wr _ 3)
            try (case c2k => first | rfl | (intro u hu; simp at hu; subst hu; rfl))
            case c3k => unfold maxLen; omega
            case c4k => omega
            case c5k => first | omega | (simp; omega)
            intro v' w3 hown3 hgrow _
            have hbel3 := below_grown (HB.out.alloc HB.out.size _) (by simp; omega) (HO.out.alloc _) (Nat.le_refl _) hgrow
            rw [← ints_succ (parts l).reverse k2 x HX.out] at hown3
            clear HO HB hgrow hcell
            go_wp2
            go_roundw
            case rel => exact ⟨k2 + 1, by omega, val_int (by omega), hown3, hbel3⟩
            case measure => simp [intOf]; omega
          · obtain rfl : k = k2 := by omega
            obtain ⟨A2, c2, rfl, hR2⟩ := Rd.of_own hown2
            rw [List.take_of_length_le (by rw [List.length_reverse, HQL.out]; exact Nat.le_refl _)] at hR2
            have hRQ2 := (HRQ.out.below hbel2).more hbel2.size
            have bw := hb0.trans (hbel2.mono hs0)
            have sw := bw.size
            clear hown2 hbel2 hlt2 hb0 hs0 hk2
            generalize wr = W3 at *
            have bb := Below.refl W3.heap.size W3
            have sb := bb.size
            have R2 := Lib.hid hR2
            have RQ := Lib.hid hRQ2
            clear hR2 hRQ2
            have H5 := Lib.hid (parts_le l)
            rw [show ((k : Int) - 1 - (k : Int)) = -1 by omega]
            go_wp2_with fail
            refine (combMulti_any _ _ k _ (parts l) _ HQL.out (by omega) H5.out (by rw [← ints_eq]; exact RQ.out) (Nat.le_refl _)).mono ?_
            rintro e w1 ⟨rfl, b1⟩
            replace bb := bb.trans (b1.mono sb)
            replace sb := bb.size
            clear b1
            have hz1 : mulN (parts l) k ≤ 11732745024 := by
              have h1 := (mul_le (parts l) H5.out (by rw [HQL.out]; omega) k (by rw [HQL.out]; omega)).1
              have h2 := mB_le k
              omega
            generalize hZ : mulN (parts l) k = Z at *
            have HZ := Lib.hid hZ
            clear hZ
            go_wp2_with fail
            have K := Bk.new w1 29 #[.int .i64 1, .int .i64 (Z : Nat), .int .i64 1, .string ⟨#[]⟩, .slice none 0 0]
            replace bb := bb.alloc sb (.cells #[.int .i64 1, .int .i64 (Z : Nat), .int .i64 1, .string ⟨#[]⟩, .slice none 0 0] 29)
            replace sb := bb.size
            generalize w1.alloc (.cells #[.int .i64 1, .int .i64 (Z : Nat), .int .i64 1, .string ⟨#[]⟩, .slice none 0 0] 29) = W4 at *
            generalize w1.heap.size = g at *
            refine (doubtful_num _ _).mono ?_
            rintro e w5 ⟨rfl, b1⟩
            replace K := K.later b1
            replace bb := bb.trans (b1.mono sb)
            replace sb := bb.size
            clear b1
            by_cases hT : 16 < (parts l).sum
            · go_wp2_with fail
              have b0 := bb.alloc sb (.cells #[.int .i64 2, .int .i64 3] 3)
              have r0 := Rd.of_bk (Bk.new w5 3 #[.int .i64 2, .int .i64 3]) ((castN [2, 3]).map (.int .i64)) rfl
              have s1 := b0.size
              generalize w5.alloc (.cells #[.int .i64 2, .int .i64 3] 3) = W6 at *
              refine (numArgs_any _ _ 2 2 (castN [2, 3]) _ rfl (by omega) r0 (Nat.le_refl _) (castN_fits [2, 3] (by decide))).mono ?_
              rintro e w6 ⟨A3, c3, rfl, r1, b1⟩
              replace bb := b0.trans (b1.mono s1)
              replace sb := bb.size
              clear b0 b1 r0
              go_wp2_with fail
              refine (multinomial_nums _ A3 2 c3 [2, 3] _ rfl r1 (Nat.le_refl _) (by decide) (by decide) (by omega) (by omega)).mono ?_
              rintro e w7 ⟨rfl, b1⟩
              rw [mulN23]
              replace bb := bb.trans (b1.mono sb)
              replace sb := bb.size
              clear b1 r1
              go_wp2_with fail
              refine (int_any 10 _ (by omega) (by omega)).mono ?_
              rintro e w8 ⟨rfl, b1⟩
              replace bb := bb.trans (b1.mono sb)
              replace sb := bb.size
              clear b1
              go_wp2_with fail
              refine (same_num _ _ _ (by omega) (by omega) (by decide) true (by decide)).mono ?_
              rintro e w9 ⟨rfl, b1⟩
              replace bb := bb.trans (b1.mono sb)
              have bfin := bw.trans (bb.mono sw)
              clear b1
              go_wp2
              go_ret
              exact ⟨rfl, bfin⟩
            · have hQs : (parts l).sum ≤ 16 := by omega
              have hrev : mulN (parts l).reverse k = Z := by
                have h1 := mul_rev (parts l) H5.out hQs
                rw [HQL.out] at h1
                exact h1.trans HZ.out
              have HREV := Lib.hid hrev
              clear hrev
              go_wp2_with fail
              refine (numArgs_any _ _ k _ (castN (parts l)) _ ((castN_len (parts l)).trans HQL.out) (by omega) (by rw [← ints_eq]; exact RQ.out.below bb) (by omega) (castN_fits (parts l) H5.out)).mono ?_
              rintro e w6 ⟨A3, c3, rfl, r1, b1⟩
              replace K := K.later b1
              replace bb := bb.trans (b1.mono sb)
              replace sb := bb.size
              clear b1
              go_wp2_with fail
              refine (multinomial_nums _ A3 k c3 (parts l) _ HQL.out r1 (Nat.le_refl _) H5.out hQs (by omega) (by omega)).mono ?_
              rintro e w7 ⟨rfl, b1⟩
              rw [HZ.out]
              replace K := K.later b1
              replace bb := bb.trans (b1.mono sb)
              replace sb := bb.size
              clear b1 r1
              go_wp2_with fail
              have K9 := Bk.new w7 36 #[.int .i64 1, .float .f64 (fi (Z : Nat)), .string ⟨#[]⟩, .slice none 0 0]
              replace K := K.alloc (.cells #[.int .i64 1, .float .f64 (fi (Z : Nat)), .string ⟨#[]⟩, .slice none 0 0] 36)
              replace bb := bb.alloc sb (.cells #[.int .i64 1, .float .f64 (fi (Z : Nat)), .string ⟨#[]⟩, .slice none 0 0] 36)
              replace sb := bb.size
              generalize w7.alloc (.cells #[.int .i64 1, .float .f64 (fi (Z : Nat)), .string ⟨#[]⟩, .slice none 0 0] 36) = W8 at *
              generalize w7.heap.size = g9 at *
              refine (numArgs_any _ _ k _ (castN (parts l).reverse) _ (by rw [castN_len, List.length_reverse]; exact HQL.out) (by omega) (by rw [← ints_eq]; exact R2.out.below bb) (by omega) (castN_fits (parts l).reverse fun x hx => H5.out x (List.mem_reverse.1 hx))).mono ?_
              rintro e w9 ⟨A4, c4, rfl, r1, b1⟩
              replace K := K.later b1
              replace K9 := K9.later b1
              replace bb := bb.trans (b1.mono sb)
              replace sb := bb.size
              clear b1
              go_wp2_with fail
              refine (multinomial_nums _ A4 k c4 (parts l).reverse _ (by rw [List.length_reverse]; exact HQL.out) r1 (Nat.le_refl _) (fun x hx => H5.out x (List.mem_reverse.1 hx)) (by rw [List.sum_reverse]; exact hQs) (by omega) (by omega)).mono ?_
              rintro e w10 ⟨rfl, b1⟩
              rw [HREV.out]
              replace K := K.later b1
              replace K9 := K9.later b1
              replace bb := bb.trans (b1.mono sb)
              replace sb := bb.size
              clear b1 r1
              go_wp2_with fail
              have K10 := Bk.new w10 36 #[.int .i64 1, .float .f64 (fi (Z : Nat)), .string ⟨#[]⟩, .slice none 0 0]
              replace K := K.alloc (.cells #[.int .i64 1, .float .f64 (fi (Z : Nat)), .string ⟨#[]⟩, .slice none 0 0] 36)
              replace K9 := K9.alloc (.cells #[.int .i64 1, .float .f64 (fi (Z : Nat)), .string ⟨#[]⟩, .slice none 0 0] 36)
              replace bb := bb.alloc sb (.cells #[.int .i64 1, .float .f64 (fi (Z : Nat)), .string ⟨#[]⟩, .slice none 0 0] 36)
              replace sb := bb.size
              generalize w10.alloc (.cells #[.int .i64 1, .float .f64 (fi (Z : Nat)), .string ⟨#[]⟩, .slice none 0 0] 36) = W11 at *
              generalize w10.heap.size = g10 at *
              have hh : Holds W11 g (Z : Nat) W11 := .mk' K (Below.refl _ _) (Nat.le_refl _)
              by_cases h2 : k = 2
              · obtain rfl := h2
                obtain ⟨x, y, hxy⟩ : ∃ x y, (parts l) = [x, y] := by
                  have := HQL.out
                  match (parts l), this with
                  | [x, y], _ => exact ⟨x, y, rfl⟩
                obtain ⟨bq, oq, hAq, hbq, hcq⟩ := RQ.out.at_ (k := 0) (by rw [ints_len, HQL.out]; omega)
                have hx5 := H5.out x (by rw [hxy]; simp)
                have hy5 := H5.out y (by rw [hxy]; simp)
                have cx := (bb.cell (p := ⟨bq, oq + 0, none⟩) hbq).trans (hcq 0 (.int .i64 x) (by rw [hxy]; rfl))
                have cy := (bb.cell (p := ⟨bq, oq + 1, none⟩) hbq).trans (hcq 1 (.int .i64 y) (by rw [hxy]; rfl))
                have hZ2 : choose (x + y) x = Z := by
                  have h1 := HZ.out
                  rw [hxy] at h1
                  rw [← mul_two x y hx5 hy5]; exact h1
                have hpm := fun (B : Nat) (A : Option Addr) (c : Nat) (w : World) hr hB => (combin_ints B A c ((x : Int) + y) x (x + y) x w hr hB (by omega) rfl (by omega) (by omega))
                rw [hZ2] at hpm
                have HFT := fitTwoI ((x : Int) + y) (x : Int) (by omega) (by omega) (by omega) (by omega)
                have hbq2 : bq < W11.heap.size := by omega
                have hwr : IntKind.i64.wrap ((x : Int) + y) = (x : Int) + y := IntWalk.i64_in _ (by omega)
                subst hAq
                have hzz : (Z : Int) ≤ 11732745024 := by omega
                have hrd : Rd (W11.alloc (.cells #[.int .i64 ((x : Int) + y), .int .i64 x] 3)).drew (W11.alloc (.cells #[.int .i64 ((x : Int) + y), .int .i64 x] 3)).heap.size (some ⟨W11.heap.size, 0, none⟩) ([((x : Int) + y), (x : Int)].map (.int .i64)) := Rd.of_bk (Bk.new W11 3 #[.int .i64 ((x : Int) + y), .int .i64 x]) _ rfl
                clear hcq hZ2 hx5 hy5 hxy hbq
                go_region_held3 (fun w' => (Bk w' g 29 #[.int .i64 1, .int .i64 (Z : Nat), .int .i64 1, .string ⟨#[]⟩, .slice none 0 0] ∧ (Below W11.heap.size W11 w' ∧ W11.heap.size ≤ w'.heap.size) ∧
                      w'.cell? ⟨g, 0, none⟩ = some (.int .i64 1) ∧ w'.cell? ⟨g, 1, none⟩ = some (.int .i64 (Z : Nat)) ∧ w'.cell? ⟨g, 2, none⟩ = some (.int .i64 1) ∧ w'.cell? ⟨g, 3, none⟩ = some (.string ⟨#[]⟩) ∧ w'.cell? ⟨g, 4, none⟩ = some (.slice none 0 0)) ∧
                      w'.cell? ⟨bq, oq, none⟩ = some (.int .i64 x) ∧ w'.cell? ⟨bq, oq + 1, none⟩ = some (.int .i64 y))
                    (first
                      | exact Holds2.mk' hbq2 cx cy (Holds.drew hh)
                      | exact Holds2.mk' hbq2 cx cy (Holds.alloc (And.left (by assumption)) _)
                      | exact Holds2.mk' hbq2 cx cy (Holds.later (And.left (by assumption)) (by assumption)))
                    (first
                      | (go_at_call 22; refine (numArgs_any _ _ 2 2 [((x : Int) + y), (x : Int)] _ rfl (by omega) hrd (Nat.le_refl _) HFT).mono ?_; rintro e w2 ⟨A5, c5, rfl, r1, b1⟩)
                      | (go_at_call 21; refine (hpm _ _ _ _ (by assumption) (Nat.le_refl _)).mono ?_; rintro e w2 ⟨rfl, b1⟩)
                      | (go_at_call 15; refine (same_num _ _ _ (by omega) (by omega) (by omega) true (by simp)).mono ?_; rintro e w2 ⟨rfl, b1⟩))
                rename_i hlast
                have hH : Holds W11 g (Z : Nat) _ := hlast.1
                clear hlast
                have hHb := hH.2.1.1
                have hK9 := K9.later hHb
                have hK10 := K10.later hHb
                have hK := hH.1
                replace bb := bb.trans (hHb.mono sb)
                replace sb := bb.size
                clear hHb hH hh K K9 K10
                have c9 := fun i => hK9.cell i
                have c29 := fun i => hK.cell i
                go_wp2_with fail
                refine (same_num _ _ _ (by omega) (by omega) (by omega) true (by simp)).mono ?_
                rintro e w12 ⟨rfl, b1⟩
                replace hK10 := hK10.later b1
                replace hK := hK.later b1
                replace bb := bb.trans (b1.mono sb)
                replace sb := bb.size
                clear b1 c9 c29
                have c10 := fun i => hK10.cell i
                have c29 := fun i => hK.cell i
                go_wp2_with fail
                refine (same_num _ _ _ (by omega) (by omega) (by omega) true (by simp)).mono ?_
                rintro e w13 ⟨rfl, b1⟩
                replace bb := bb.trans (b1.mono sb)
                have bfin := bw.trans (bb.mono sw)
                clear b1 c10 c29
                go_wp2
                go_ret
                exact ⟨rfl, bfin⟩
              · rcases (show k = 1 ∨ k = 3 ∨ k = 4 by omega) with h3 | h3 | h3
                · obtain rfl := h3
                  have hne2 : ((1 : Int) != 2) = true := by decide
                  have hDr : ∀ nq, Holds W11 g (Z : Nat) (W11.drewN nq) := fun nq => .mk' K (below_drewN (Below.refl _ W11) nq) (Nat.le_refl _)
                  go_big_quiet (fail)
                  have hH := hDr nq
                  clear hDr
                  generalize W11.drewN nq = Wd at *
                  have hHb := hH.2.1.1
                  have hK9 := K9.later hHb
                  have hK10 := K10.later hHb
                  have hK := hH.1
                  replace bb := bb.trans (hHb.mono sb)
                  replace sb := bb.size
                  clear hHb hH hh K K9 K10
                  have c9 := fun i => hK9.cell i
                  have c29 := fun i => hK.cell i
                  go_wp2_with fail
                  refine (same_num _ _ _ (by omega) (by omega) (by omega) true (by simp)).mono ?_
                  rintro e w12 ⟨rfl, b1⟩
                  replace hK10 := hK10.later b1
                  replace hK := hK.later b1
                  replace bb := bb.trans (b1.mono sb)
                  replace sb := bb.size
                  clear b1 c9 c29
                  have c10 := fun i => hK10.cell i
                  have c29 := fun i => hK.cell i
                  go_wp2_with fail
                  refine (same_num _ _ _ (by omega) (by omega) (by omega) true (by simp)).mono ?_
                  rintro e w13 ⟨rfl, b1⟩
                  replace bb := bb.trans (b1.mono sb)
                  have bfin := bw.trans (bb.mono sw)
                  clear b1 c10 c29
                  go_wp2
                  go_ret
                  exact ⟨rfl, bfin⟩
                · obtain rfl := h3
                  have hne2 : ((3 : Int) != 2) = true := by decide
                  have hDr : ∀ nq, Holds W11 g (Z : Nat) (W11.drewN nq) := fun nq => .mk' K (below_drewN (Below.refl _ W11) nq) (Nat.le_refl _)
                  go_big_quiet (fail)
                  have hH := hDr nq
                  clear hDr
                  generalize W11.drewN nq = Wd at *
                  have hHb := hH.2.1.1
                  have hK9 := K9.later hHb
                  have hK10 := K10.later hHb
                  have hK := hH.1
                  replace bb := bb.trans (hHb.mono sb)
                  replace sb := bb.size
                  clear hHb hH hh K K9 K10
                  have c9 := fun i => hK9.cell i
                  have c29 := fun i => hK.cell i
                  go_wp2_with fail
                  refine (same_num _ _ _ (by omega) (by omega) (by omega) true (by simp)).mono ?_
                  rintro e w12 ⟨rfl, b1⟩
                  replace hK10 := hK10.later b1
                  replace hK := hK.later b1
                  replace bb := bb.trans (b1.mono sb)
                  replace sb := bb.size
                  clear b1 c9 c29
                  have c10 := fun i => hK10.cell i
                  have c29 := fun i => hK.cell i
                  go_wp2_with fail
                  refine (same_num _ _ _ (by omega) (by omega) (by omega) true (by simp)).mono ?_
                  rintro e w13 ⟨rfl, b1⟩
                  replace bb := bb.trans (b1.mono sb)
                  have bfin := bw.trans (bb.mono sw)
                  clear b1 c10 c29
                  go_wp2
                  go_ret
                  exact ⟨rfl, bfin⟩
                · obtain rfl := h3
                  have hne2 : ((4 : Int) != 2) = true := by decide
                  have hDr : ∀ nq, Holds W11 g (Z : Nat) (W11.drewN nq) := fun nq => .mk' K (below_drewN (Below.refl _ W11) nq) (Nat.le_refl _)
                  go_big_quiet (fail)
                  have hH := hDr nq
                  clear hDr
                  generalize W11.drewN nq = Wd at *
                  have hHb := hH.2.1.1
                  have hK9 := K9.later hHb
                  have hK10 := K10.later hHb
                  have hK := hH.1
                  replace bb := bb.trans (hHb.mono sb)
                  replace sb := bb.size
                  clear hHb hH hh K K9 K10
                  have c9 := fun i => hK9.cell i
                  have c29 := fun i => hK.cell i
                  go_wp2_with fail
                  refine (same_num _ _ _ (by omega) (by omega) (by omega) true (by simp)).mono ?_
                  rintro e w12 ⟨rfl, b1⟩
                  replace hK10 := hK10.later b1
                  replace hK := hK.later b1
                  replace bb := bb.trans (b1.mono sb)
                  replace sb := bb.size
                  clear b1 c9 c29
                  have c10 := fun i => hK10.cell i
                  have c29 := fun i => hK.cell i
                  go_wp2_with fail
                  refine (same_num _ _ _ (by omega) (by omega) (by omega) true (by simp)).mono ?_
                  rintro e w13 ⟨rfl, b1⟩
                  replace bb := bb.trans (b1.mono sb)
                  have bfin := bw.trans (bb.mono sw)
                  clear b1 c10 c29
                  go_wp2
                  go_ret
                  exact ⟨rfl, bfin⟩
end Go.Proofs.YtojicbajcebjjaaGreatDoor
