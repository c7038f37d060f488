/-
  The law FnSquares, walked.
-/
import Derived.Test.YtojicbajcebjjaaGreatDoorSl
import Derived.Test.YtojicbajcebjjaaGreatDoorSm
import Derived.Test.YtojicbajcebjjaaGreatDoorJ
namespace Go.Proofs.YtojicbajcebjjaaGreatDoor
open Go.RowKit
attribute [local go_sem] run_store_float

theorem own_cap {w : World} {base size n : Nat} {e : TypeId} {A : Option Addr} {c : Nat} {xs : List Value} (h : w.ownsRow base e size (.slice A n c) n xs) : n ≤ c := by
  rcases h.2 with ⟨_, h0⟩ | ⟨g, cap, cur, h1, _, _, h2, _⟩
  · omega
  · injection h1 with _ _ h3
    omega
theorem Rd.take {w : World} {B : Nat} {A : Option Addr} {l : List Int} (h : Rd w B A (cellI l)) (n : Nat) : Rd w B A (cellI (l.take n)) := by
  rcases h with h | ⟨b, o, hA, hb, hc⟩
  · left
    have : l = [] := by cases l with
      | nil => rfl
      | cons a t => simp [cellI] at h
    rw [this]; simp [cellI]
  · refine .inr ⟨b, o, hA, hb, fun j u hu => hc j u ?_⟩
    simp only [cellI, List.map_take, List.getElem?_take] at hu ⊢
    split at hu
    · exact hu
    · cases hu
theorem two_args {P : Kind} {w : World} {a b : Ag} {x y : List Value} {hi0 hi1 : Nat} (hs : hi0 ≤ w.heap.size ∧ hi1 ≤ w.heap.size) (h0 : P w 0 hi0 a x) (h1 : P w 0 hi1 b y) : Args P w none [a, b] [x, y] := by
  refine ⟨rfl, fun k c z e1 e2 => ?_⟩
  match k, e1, e2 with
  | 0, e1, e2 =>
    simp at e1 e2
    subst e1 e2
    exact ⟨0, hi0, hs.1, fun b hb => by simp at hb, h0⟩
  | 1, e1, e2 =>
    simp at e1 e2
    subst e1 e2
    exact ⟨0, hi1, hs.2, fun b hb => by simp at hb, h1⟩
  | k + 2, e1, e2 => simp at e1
theorem fits_two (la lb : List Int) (n : Nat) (ha : la.length = n) (hb : lb.length = n) (hn : n ≤ 50) (fa' : ∀ z ∈ la, -1000 < z ∧ z < 1000 ∧ z ≠ 0) (fb' : ∀ z ∈ lb, -1000 < z ∧ z < 1000 ∧ z ≠ 0) : ∀ x ∈ [Ag.col la, Ag.col lb], x.fits := by
  intro x hx
  simp at hx
  rcases hx with rfl | rfl
  · exact ⟨by omega, fun z hz => by have := fa' z hz; omega⟩
  · exact ⟨by omega, fun z hz => by have := fb' z hz; omega⟩
theorem pairSum_le (op : Int → Int → Int) (hm : ∀ x y, -1000 < x ∧ x < 1000 → -1000 < y ∧ y < 1000 → -4000000 ≤ op x y ∧ op x y ≤ 4000000) (la lb : List Int) (n : Nat) (ha : la.length = n) (hb : lb.length = n) (fa' : ∀ z ∈ la, -1000 < z ∧ z < 1000 ∧ z ≠ 0) (fb' : ∀ z ∈ lb, -1000 < z ∧ z < 1000 ∧ z ≠ 0) (hn : n ≤ 50) :
    pairSum op la lb ≤ 99999999999 ∧ -99999999999 ≤ pairSum op la lb ∧ (pairSum op la lb).natAbs < 2 ^ 53 := by
  have h := pairSum_bd op 4000000 hm la lb (fun z hz => ⟨(fa' z hz).1, (fa' z hz).2.1⟩) (fun z hz => ⟨(fb' z hz).1, (fb' z hz).2.1⟩) n
  rw [List.take_of_length_le (Nat.le_of_eq ha), List.take_of_length_le (Nat.le_of_eq hb)] at h
  omega
theorem Rd.some_ {w : World} {B : Nat} {A : Option Addr} {l : List Int} (h : Rd w B A (cellI l)) (hl : 1 ≤ l.length) : ∃ b o, A = some ⟨b, o, none⟩ := by
  rcases h with h | ⟨b, o, hA, _⟩
  · have : l = [] := by cases l with
      | nil => rfl
      | cons a t => simp [cellI] at h
    subst this
    simp at hl
  · exact ⟨b, o, hA⟩

set_option maxRecDepth 100000 in
set_option maxHeartbeats 1600000 in
theorem sumsFull_cap (B : Nat) (A : Option Addr) (len c : Nat) (l : List Int) (w : World) (hlen : l.length = len) (hl : len ≤ 1000) (hr : Rd w B A (cellI l)) (hB : B ≤ w.heap.size) :
    Calls Tryz.prog 11 #[.slice A len c] w fun e w' => ∃ A' c', e = .returned (.slice A' len c') ∧ len ≤ c' ∧ Rd w' w'.heap.size A' (cellI (fullL l)) ∧ Below w.heap.size w w' := by
  obtain ⟨i0, hi0, hz0, hz1, hz2⟩ := info_parts Tryz.infoI3
  have HL : Hid (l.length = len) := hlen
  clear hlen
  go_enter Tryz.func11, Tryz.ntmps11
  go_wp2_with fail
  go_loopw [3, 4] (fun v i wr => ∃ k : Nat, k ≤ len ∧ i = .int .i64 k ∧ wr.ownsRow w.heap.size 3 1 v k (cellI ((fullL l).take k)) ∧ Below w.heap.size w wr)
    (fun _ i _ => len - (intOf i).toNat)
  case atStart => exact ⟨0, Nat.zero_le _, rfl, World.ownsRow_nil _ _ _ _, Below.refl _ _⟩
  case round =>
    obtain ⟨k, hk, rfl, hown, hbel⟩ := hrel
    by_cases hlt : k < len
    · obtain ⟨z, hz⟩ : ∃ z, l[k]? = some z := ⟨_, List.getElem?_eq_getElem (by rw [HL.out]; exact hlt)⟩
      obtain ⟨b, o, rfl, hbB, hc⟩ := hr.at_ (k := k) (by rw [cellI_len, HL.out]; exact hlt)
      have hcell : wr.cell? ⟨b, o + k, none⟩ = some (.int .i64 z) := (hbel.cell (p := ⟨b, o + k, none⟩) (show b < _ by omega)).trans (hc k _ (cellI_get hz))
      have hp := fullL_get hz
      have HO := Lib.hid hown
      have HB := Lib.hid hbel
      have hsz := hbel.size
      clear hc hz hown hbel
      by_cases hz0' : z = 0
      · rw [if_pos hz0'] at hp
        have HP := Lib.hid hp
        clear hp
        subst hz0'
        go_wp2_with (at_builtin; refine wpList_append_own _ rfl (.tmp 18) (.tmp 20) 22 rfl w.heap.size 3 i0 _ 1 8 Tryz.underlying22 hi0 hz0 hz1 hz2 rfl (by decide) _ k _ rfl (HO.out.alloc _) ⟨wr.heap.size, 0, none⟩ 1 1 [.int .i64 7] rfl rfl ?c1 ?c2 ?c3 ?c4 ?c5 ?_)
        case c1 => exact cells_new wr _ 3
        case c2 => intro u hu; simp at hu; subst hu; rfl
        case c3 => unfold maxLen; omega
        case c4 => omega
        case c5 => simp; omega
        intro v' w3 hown3 hgrow _
        have hbel3 := below_grown (HB.out.alloc HB.out.size _) (by simp; omega) (HO.out.alloc _) (Nat.le_refl _) hgrow
        rw [← cellI_succ _ k _ HP.out] at hown3
        clear HO HB hgrow
        go_wp2
        go_roundw
        case rel => exact ⟨k + 1, by omega, by go_num, hown3, hbel3⟩
        case measure => simp [intOf]; omega
      · rw [if_neg hz0'] at hp
        have HP := Lib.hid hp
        clear hp
        go_wp2_with (at_builtin; refine wpList_append_own _ rfl (.tmp 18) (.tmp 20) 22 rfl w.heap.size 3 i0 _ 1 8 Tryz.underlying22 hi0 hz0 hz1 hz2 rfl (by decide) _ k _ rfl (HO.out.alloc _) ⟨wr.heap.size, 0, none⟩ 1 1 [.int .i64 z] rfl rfl ?d1 ?d2 ?d3 ?d4 ?d5 ?_)
        case d1 => exact cells_new wr _ 3
        case d2 => intro u hu; simp at hu; subst hu; rfl
        case d3 => unfold maxLen; omega
        case d4 => omega
        case d5 => simp; omega
        intro v' w3 hown3 hgrow _
        have hbel3 := below_grown (HB.out.alloc HB.out.size _) (by simp; omega) (HO.out.alloc _) (Nat.le_refl _) hgrow
        rw [← cellI_succ _ k _ HP.out] at hown3
        clear HO HB hgrow
        go_wp2
        go_roundw
        case rel => exact ⟨k + 1, by omega, by go_num, hown3, hbel3⟩
        case measure => simp [intOf]; omega
    · have hke : k = len := by omega
      subst hke
      have hll : (fullL l).length = k := by rw [fullL_len, HL.out]
      rw [← hll, List.take_of_length_le (Nat.le_refl _), hll] at hown
      obtain ⟨A1, c1, rfl, hR1⟩ := Rd.of_own hown
      have hcap := own_cap hown
      clear hown hll
      go_wp2
      go_ret
      exact ⟨A1, c1, rfl, hcap, hR1, hbel⟩

set_option maxRecDepth 100000 in
set_option maxHeartbeats 6400000 in
theorem fnSquares_walk (B : Nat) (A0 A1 : Option Addr) (len0 len1 c0 c1 : Nat) (l0 l1 : List Int) (w : World) (h0 : l0.length = len0) (h1 : l1.length = len1) (r0 : Rd w B A0 (cellI l0)) (r1 : Rd w B A1 (cellI l1)) (hB : B ≤ w.heap.size) (hm0 : (len0 : Int) ≤ 9223372036854775807) (hm1 : (len1 : Int) ≤ 9223372036854775807) :
    Calls Tryz.prog 3 #[.slice A0 len0 c0, .slice A1 len1 c1] w fun e w' => e = .returned (.bool true) ∧ Below w.heap.size w w' := by
  by_cases hb0 : 2147483647 < len0
  · go_enter Tryz.func3, Tryz.ntmps3
    go_wp2
    go_ret
    exact ⟨rfl, Below.refl _ _⟩
  by_cases hb1 : 2147483647 < len1
  · go_enter Tryz.func3, Tryz.ntmps3
    go_wp2
    go_ret
    exact ⟨rfl, Below.refl _ _⟩
  have H0 := Lib.hid h0
  have H1 := Lib.hid h1
  have hsl0 := smallL_len l0 50 1000
  have hsl1 := smallL_len l1 50 1000
  rw [h0] at hsl0
  rw [h1] at hsl1
  have hbd0 := fullL_bd (smallL l0 50 1000) 1000 (by omega) (smallL_bd l0 50 1000 (by omega))
  have hbd1 := fullL_bd (smallL l1 50 1000) 1000 (by omega) (smallL_bd l1 50 1000 (by omega))
  have hfl0 := fullL_len (smallL l0 50 1000)
  have hfl1 := fullL_len (smallL l1 50 1000)
  rw [hsl0] at hfl0
  rw [hsl1] at hfl1
  have HS0 := Lib.hid hsl0
  have HS1 := Lib.hid hsl1
  have HF0 := Lib.hid hfl0
  have HF1 := Lib.hid hfl1
  have HB0 := Lib.hid hbd0
  have HB1 := Lib.hid hbd1
  clear h0 h1 hsl0 hsl1 hbd0 hbd1 hfl0 hfl1
  go_enter Tryz.func3, Tryz.ntmps3
  go_wp2_with fail
  refine (sumsSmall_any B A0 len0 c0 50 1000 l0 _ H0.out r0 hB (by omega) (by omega) (by omega)).mono ?_
  rintro e w1 ⟨X0, y0, rfl, x0, b1⟩
  have s1 := b1.size
  have r1' := r1.below (b1.mono hB)
  go_wp2_with fail
  refine (sumsFull_cap _ X0 (min 50 len0) y0 (smallL l0 50 1000) _ HS0.out (by omega) x0 (Nat.le_refl _)).mono ?_
  rintro e w2 ⟨P0, p0, rfl, cap0, u0, b2⟩
  have s2 := b2.size
  have r1'' := r1'.below (b2.mono (by omega))
  have bb := b1.trans (b2.mono (by omega))
  clear b1 b2 x0 r1' r1 r0
  go_wp2_with fail
  refine (sumsSmall_any B A1 len1 c1 50 1000 l1 _ H1.out r1'' (by omega) (by omega) (by omega) (by omega)).mono ?_
  rintro e w3 ⟨X1, y1, rfl, x1, b3⟩
  have s3 := b3.size
  have u0' := u0.below b3
  go_wp2_with fail
  refine (sumsFull_cap _ X1 (min 50 len1) y1 (smallL l1 50 1000) _ HS1.out (by omega) x1 (Nat.le_refl _)).mono ?_
  rintro e w4 ⟨P1, p1, rfl, cap1, u1, b4⟩
  have s4 := b4.size
  have v0 := (u0'.below (b4.mono (by omega))).more (show w2.heap.size ≤ w4.heap.size by omega)
  have be := (bb.trans (b3.mono (by omega))).trans (b4.mono (by omega))
  clear b3 b4 bb x1 r1'' u0 u0'
  generalize fullL (smallL l0 50 1000) = a0 at *
  generalize fullL (smallL l1 50 1000) = a1 at *
  have hm0' : min 50 len0 ≤ 50 := by omega
  have hm1' : min 50 len1 ≤ 50 := by omega
  generalize min 50 len0 = m0 at *
  generalize min 50 len1 = m1 at *
  clear hm0 hm1 hb0 hb1
  rcases Nat.lt_or_ge m1 m0 with hle | hle
  · by_cases hz : m1 = 0
    · have hz' : ((m1 : Int) == 0) = true := by rw [hz]; rfl
      go_wp2_with fail
      have K0 := (Bk.new w4 3 #[.int .i64 3]).alloc (.cells #[.int .i64 2] 3)
      have K1 : Bk ((w4.alloc (.cells #[.int .i64 3] 3)).alloc (.cells #[.int .i64 2] 3)) (w4.heap.size + 1) 3 #[.int .i64 2] := by have := Bk.new (w4.alloc (.cells #[.int .i64 3] 3)) 3 #[.int .i64 2]; simpa using this
      have be4 := (be.alloc (show w.heap.size ≤ w4.heap.size from be.size) (.cells #[.int .i64 3] 3)).alloc (by have := be.size; simp; omega) (.cells #[.int .i64 2] 3)
      have ra0 := Rd.of_bk K0 (cellI [3]) rfl
      have rb0 := Rd.of_bk K1 (cellI [2]) rfl
      generalize (w4.alloc (.cells #[.int .i64 3] 3)).alloc (.cells #[.int .i64 2] 3) = U at *
      generalize w4.heap.size = G at *
      go_big_quiet (fail)
      have ra : Rd (U.drewN nq) (U.drewN nq).heap.size (some ⟨G, 0, none⟩) (cellI [3]) := ra0
      have rb : Rd (U.drewN nq) (U.drewN nq).heap.size (some ⟨G + 1, 0, none⟩) (cellI [2]) := rb0
      have be5 : Below w.heap.size w (U.drewN nq) := below_drewN be4 nq
      obtain ⟨la, hla⟩ : ∃ la : List Int, la = [3] := ⟨_, rfl⟩
      obtain ⟨lb, hlb⟩ : ∃ lb : List Int, lb = [2] := ⟨_, rfl⟩
      rw [← hla] at ra
      rw [← hlb] at rb
      have HLA : Hid (la.length = 1) := Lib.hid (by rw [hla]; rfl)
      have HLB : Hid (lb.length = 1) := Lib.hid (by rw [hlb]; rfl)
      have HFA : Hid (∀ z ∈ la, -1000 < z ∧ z < 1000 ∧ z ≠ 0) := Lib.hid (by rw [hla]; intro z hz; simp at hz; omega)
      have HFB : Hid (∀ z ∈ lb, -1000 < z ∧ z < 1000 ∧ z ≠ 0) := Lib.hid (by rw [hlb]; intro z hz; simp at hz; omega)
      clear hla hlb ra0 rb0 K0 K1 be4
      generalize World.drewN U nq = W5 at *
      have HFT : Hid (∀ x ∈ [Ag.col la, Ag.col lb], x.fits) := Lib.hid (fits_two la lb 1 HLA.out HLB.out (by omega) HFA.out HFB.out)
      have s5 := be5.size
      go_wp2_with fail
      refine (sumsColumn_any _ _ 1 _ la _ HLA.out (by omega) ra (Nat.le_refl _) (fun z hz => by have := HFA.out z hz; omega)).mono ?_
      rintro e w6 ⟨C0, d0, rfl, col0, b6⟩
      have s6 := b6.size
      have rb6 := rb.below b6
      go_wp2_with fail
      refine (sumsColumn_any _ _ 1 _ lb _ HLB.out (by omega) rb6 s6 (fun z hz => by have := HFB.out z hz; omega)).mono ?_
      rintro e w7 ⟨C1, d1, rfl, col1, b7⟩
      have s7 := b7.size
      have col0' := col0.below b7 (Nat.le_refl _)
      have b67 := b6.trans (b7.mono s6)
      clear b6 b7 rb6 col0
      go_wp2_with fail
      have hcells := Bk.new w7 29 #[.int .i64 5, .int .i64 0, .int .i64 0, .string ⟨#[]⟩, .slice C0 1 d0, .int .i64 5, .int .i64 0, .int .i64 0, .string ⟨#[]⟩, .slice C1 1 d1]
      have rcs : Rd (w7.alloc (.cells #[.int .i64 5, .int .i64 0, .int .i64 0, .string ⟨#[]⟩, .slice C0 1 d0, .int .i64 5, .int .i64 0, .int .i64 0, .string ⟨#[]⟩, .slice C1 1 d1] 29)) _ (some ⟨w7.heap.size, 0, none⟩) ([[.int .i64 5, .int .i64 0, .int .i64 0, .string ⟨#[]⟩, .slice C0 1 d0], [.int .i64 5, .int .i64 0, .int .i64 0, .string ⟨#[]⟩, .slice C1 1 d1]] : List (List Value)).flatten := Rd.of_bk hcells _ rfl
      have acs : Args AgS (w7.alloc (.cells #[.int .i64 5, .int .i64 0, .int .i64 0, .string ⟨#[]⟩, .slice C0 1 d0, .int .i64 5, .int .i64 0, .int .i64 0, .string ⟨#[]⟩, .slice C1 1 d1] 29)) none [.col la, .col lb] [[.int .i64 5, .int .i64 0, .int .i64 0, .string ⟨#[]⟩, .slice C0 1 d0], [.int .i64 5, .int .i64 0, .int .i64 0, .string ⟨#[]⟩, .slice C1 1 d1]] :=
        two_args (by simp) ⟨C0, d0, by rw [HLA.out], (col0'.alloc s7 _).more (Nat.zero_le _) s7⟩ ⟨C1, d1, by rw [HLB.out], (col1.alloc (Nat.le_refl _) _).more (Nat.zero_le _) (Nat.le_refl _)⟩
      have b8 := b67.alloc (Nat.le_trans s6 s7) (.cells #[.int .i64 5, .int .i64 0, .int .i64 0, .string ⟨#[]⟩, .slice C0 1 d0, .int .i64 5, .int .i64 0, .int .i64 0, .string ⟨#[]⟩, .slice C1 1 d1] 29)
      generalize w7.alloc (.cells #[.int .i64 5, .int .i64 0, .int .i64 0, .string ⟨#[]⟩, .slice C0 1 d0, .int .i64 5, .int .i64 0, .int .i64 0, .string ⟨#[]⟩, .slice C1 1 d1] 29) = W8 at *
      have s8 := b8.size
      clear col0' col1 b67 hcells
      refine (all_args _ _ 2 2 [.col la, .col lb] _ W8 rfl (by omega) rcs (Nat.le_refl _) acs HFT.out).mono ?_
      rintro e w9 ⟨E, f, cs9, rfl, r9, a9, b9⟩
      have s9 := b9.size
      have b59 := b8.trans (b9.mono s8)
      clear b8 b9 rcs acs
      have bc := Below.refl w9.heap.size w9
      go_wp2_with fail
      have sc := bc.size
      refine (cimpl_minus _ E f cs9 la lb 1 _ (r9.below bc) bc.size (a9.below (near_I 36) bc) HLA.out HLB.out (by omega) (by omega) HFA.out HFB.out).mono ?_
      rintro e wA ⟨rfl, bA⟩
      replace bc := bc.trans (bA.mono sc)
      clear bA
      go_wp2_with fail
      have bt := b59.trans (bc.mono b59.size)
      refine (pairs_minus _ _ _ 1 _ _ la lb _ HLA.out HLB.out (by omega) (ra.below bt) (rb.below bt) bt.size (fun z hz => ⟨(HFA.out z hz).1, (HFA.out z hz).2.1⟩) (fun z hz => ⟨(HFB.out z hz).1, (HFB.out z hz).2.1⟩)).mono ?_
      rintro e wB ⟨rfl, bB⟩
      replace sc := bc.size
      replace bc := bc.trans (bB.mono sc)
      clear bB bt
      go_wp2_with fail
      have hle := pairSum_le (fun x y => x * x - y * y) opBd la lb 1 HLA.out HLB.out HFA.out HFB.out (by omega)
      refine (same_num _ _ _ hle.1 hle.2.1 hle.2.2 true (by simp)).mono ?_
      rintro e wC ⟨rfl, bC⟩
      replace sc := bc.size
      replace bc := bc.trans (bC.mono sc)
      clear bC hle sc
      go_wp2_with fail
      have sc := bc.size
      refine (cimpl_plus _ E f cs9 la lb 1 _ (r9.below bc) bc.size (a9.below (near_I 36) bc) HLA.out HLB.out (by omega) (by omega) HFA.out HFB.out).mono ?_
      rintro e wA ⟨rfl, bA⟩
      replace bc := bc.trans (bA.mono sc)
      clear bA
      go_wp2_with fail
      have bt := b59.trans (bc.mono b59.size)
      refine (pairs_plus _ _ _ 1 _ _ la lb _ HLA.out HLB.out (by omega) (ra.below bt) (rb.below bt) bt.size (fun z hz => ⟨(HFA.out z hz).1, (HFA.out z hz).2.1⟩) (fun z hz => ⟨(HFB.out z hz).1, (HFB.out z hz).2.1⟩)).mono ?_
      rintro e wB ⟨rfl, bB⟩
      replace sc := bc.size
      replace bc := bc.trans (bB.mono sc)
      clear bB bt
      go_wp2_with fail
      have hle := pairSum_le (fun x y => x * x + y * y) opBdP la lb 1 HLA.out HLB.out HFA.out HFB.out (by omega)
      refine (same_num _ _ _ hle.1 hle.2.1 hle.2.2 true (by simp)).mono ?_
      rintro e wC ⟨rfl, bC⟩
      replace sc := bc.size
      replace bc := bc.trans (bC.mono sc)
      clear bC hle sc
      go_wp2_with fail
      have sc := bc.size
      refine (cimpl_diff _ E f cs9 la lb 1 _ (r9.below bc) bc.size (a9.below (near_I 36) bc) HLA.out HLB.out (by omega) (by omega) HFA.out HFB.out).mono ?_
      rintro e wA ⟨rfl, bA⟩
      replace bc := bc.trans (bA.mono sc)
      clear bA
      go_wp2_with fail
      have bt := b59.trans (bc.mono b59.size)
      refine (pairs_diff _ _ _ 1 _ _ la lb _ HLA.out HLB.out (by omega) (ra.below bt) (rb.below bt) bt.size (fun z hz => ⟨(HFA.out z hz).1, (HFA.out z hz).2.1⟩) (fun z hz => ⟨(HFB.out z hz).1, (HFB.out z hz).2.1⟩)).mono ?_
      rintro e wB ⟨rfl, bB⟩
      replace sc := bc.size
      replace bc := bc.trans (bB.mono sc)
      clear bB bt
      go_wp2_with fail
      have hle := pairSum_le (fun x y => (x - y) * (x - y)) opBdD la lb 1 HLA.out HLB.out HFA.out HFB.out (by omega)
      refine (same_num _ _ _ hle.1 hle.2.1 hle.2.2 true (by simp)).mono ?_
      rintro e wC ⟨rfl, bC⟩
      replace sc := bc.size
      replace bc := bc.trans (bC.mono sc)
      clear bC hle sc
      have bE := be5.trans ((b59.trans (bc.mono b59.size)).mono s5)
      clear bc b59 r9 a9 ra rb
      go_wp2
      go_ret
      exact ⟨rfl, bE⟩
    · -- n = m1
      obtain ⟨g0, o0, rfl⟩ := v0.some_ (by rw [HF0.out]; omega)
      obtain ⟨g1, o1, rfl⟩ := u1.some_ (by rw [HF1.out]; omega)
      have k0 : (m1 : Int) ≤ (p0 : Int) := by omega
      have k1 : (m1 : Int) ≤ (p1 : Int) := by omega
      go_wp2_with fail
      go_big_quiet (fail)
      have ra : Rd (w4.drewN nq) (w4.drewN nq).heap.size (some ⟨g0, o0, none⟩) (cellI (a0.take m1)) := v0.take m1
      have rb : Rd (w4.drewN nq) (w4.drewN nq).heap.size (some ⟨g1, o1, none⟩) (cellI (a1.take m1)) := u1.take m1
      have be5 : Below w.heap.size w (w4.drewN nq) := below_drewN be nq
      have HLA : Hid ((a0.take m1).length = m1) := Lib.hid (by rw [List.length_take, HF0.out]; omega)
      have HLB : Hid ((a1.take m1).length = m1) := Lib.hid (by rw [List.length_take, HF1.out]; omega)
      have HFA : Hid (∀ z ∈ a0.take m1, -1000 < z ∧ z < 1000 ∧ z ≠ 0) := Lib.hid (fun z hz => HB0.out z (List.mem_of_mem_take hz))
      have HFB : Hid (∀ z ∈ a1.take m1, -1000 < z ∧ z < 1000 ∧ z ≠ 0) := Lib.hid (fun z hz => HB1.out z (List.mem_of_mem_take hz))
      generalize a0.take m1 = la at *
      generalize a1.take m1 = lb at *
      generalize World.drewN w4 nq = W5 at *
      have HFT : Hid (∀ x ∈ [Ag.col la, Ag.col lb], x.fits) := Lib.hid (fits_two la lb m1 HLA.out HLB.out (by omega) HFA.out HFB.out)
      have s5 := be5.size
      go_wp2_with fail
      refine (sumsColumn_any _ _ m1 _ la _ HLA.out (by omega) ra (Nat.le_refl _) (fun z hz => by have := HFA.out z hz; omega)).mono ?_
      rintro e w6 ⟨C0, d0, rfl, col0, b6⟩
      have s6 := b6.size
      have rb6 := rb.below b6
      go_wp2_with fail
      refine (sumsColumn_any _ _ m1 _ lb _ HLB.out (by omega) rb6 s6 (fun z hz => by have := HFB.out z hz; omega)).mono ?_
      rintro e w7 ⟨C1, d1, rfl, col1, b7⟩
      have s7 := b7.size
      have col0' := col0.below b7 (Nat.le_refl _)
      have b67 := b6.trans (b7.mono s6)
      clear b6 b7 rb6 col0
      go_wp2_with fail
      have hcells := Bk.new w7 29 #[.int .i64 5, .int .i64 0, .int .i64 0, .string ⟨#[]⟩, .slice C0 m1 d0, .int .i64 5, .int .i64 0, .int .i64 0, .string ⟨#[]⟩, .slice C1 m1 d1]
      have rcs : Rd (w7.alloc (.cells #[.int .i64 5, .int .i64 0, .int .i64 0, .string ⟨#[]⟩, .slice C0 m1 d0, .int .i64 5, .int .i64 0, .int .i64 0, .string ⟨#[]⟩, .slice C1 m1 d1] 29)) _ (some ⟨w7.heap.size, 0, none⟩) ([[.int .i64 5, .int .i64 0, .int .i64 0, .string ⟨#[]⟩, .slice C0 m1 d0], [.int .i64 5, .int .i64 0, .int .i64 0, .string ⟨#[]⟩, .slice C1 m1 d1]] : List (List Value)).flatten := Rd.of_bk hcells _ rfl
      have acs : Args AgS (w7.alloc (.cells #[.int .i64 5, .int .i64 0, .int .i64 0, .string ⟨#[]⟩, .slice C0 m1 d0, .int .i64 5, .int .i64 0, .int .i64 0, .string ⟨#[]⟩, .slice C1 m1 d1] 29)) none [.col la, .col lb] [[.int .i64 5, .int .i64 0, .int .i64 0, .string ⟨#[]⟩, .slice C0 m1 d0], [.int .i64 5, .int .i64 0, .int .i64 0, .string ⟨#[]⟩, .slice C1 m1 d1]] :=
        two_args (by simp) ⟨C0, d0, by rw [HLA.out], (col0'.alloc s7 _).more (Nat.zero_le _) s7⟩ ⟨C1, d1, by rw [HLB.out], (col1.alloc (Nat.le_refl _) _).more (Nat.zero_le _) (Nat.le_refl _)⟩
      have b8 := b67.alloc (Nat.le_trans s6 s7) (.cells #[.int .i64 5, .int .i64 0, .int .i64 0, .string ⟨#[]⟩, .slice C0 m1 d0, .int .i64 5, .int .i64 0, .int .i64 0, .string ⟨#[]⟩, .slice C1 m1 d1] 29)
      generalize w7.alloc (.cells #[.int .i64 5, .int .i64 0, .int .i64 0, .string ⟨#[]⟩, .slice C0 m1 d0, .int .i64 5, .int .i64 0, .int .i64 0, .string ⟨#[]⟩, .slice C1 m1 d1] 29) = W8 at *
      have s8 := b8.size
      clear col0' col1 b67 hcells
      refine (all_args _ _ 2 2 [.col la, .col lb] _ W8 rfl (by omega) rcs (Nat.le_refl _) acs HFT.out).mono ?_
      rintro e w9 ⟨E, f, cs9, rfl, r9, a9, b9⟩
      have s9 := b9.size
      have b59 := b8.trans (b9.mono s8)
      clear b8 b9 rcs acs
      have bc := Below.refl w9.heap.size w9
      go_wp2_with fail
      have sc := bc.size
      refine (cimpl_minus _ E f cs9 la lb m1 _ (r9.below bc) bc.size (a9.below (near_I 36) bc) HLA.out HLB.out (by omega) (by omega) HFA.out HFB.out).mono ?_
      rintro e wA ⟨rfl, bA⟩
      replace bc := bc.trans (bA.mono sc)
      clear bA
      go_wp2_with fail
      have bt := b59.trans (bc.mono b59.size)
      refine (pairs_minus _ _ _ m1 _ _ la lb _ HLA.out HLB.out (by omega) (ra.below bt) (rb.below bt) bt.size (fun z hz => ⟨(HFA.out z hz).1, (HFA.out z hz).2.1⟩) (fun z hz => ⟨(HFB.out z hz).1, (HFB.out z hz).2.1⟩)).mono ?_
      rintro e wB ⟨rfl, bB⟩
      replace sc := bc.size
      replace bc := bc.trans (bB.mono sc)
      clear bB bt
      go_wp2_with fail
      have hle := pairSum_le (fun x y => x * x - y * y) opBd la lb m1 HLA.out HLB.out HFA.out HFB.out (by omega)
      refine (same_num _ _ _ hle.1 hle.2.1 hle.2.2 true (by simp)).mono ?_
      rintro e wC ⟨rfl, bC⟩
      replace sc := bc.size
      replace bc := bc.trans (bC.mono sc)
      clear bC hle sc
      go_wp2_with fail
      have sc := bc.size
      refine (cimpl_plus _ E f cs9 la lb m1 _ (r9.below bc) bc.size (a9.below (near_I 36) bc) HLA.out HLB.out (by omega) (by omega) HFA.out HFB.out).mono ?_
      rintro e wA ⟨rfl, bA⟩
      replace bc := bc.trans (bA.mono sc)
      clear bA
      go_wp2_with fail
      have bt := b59.trans (bc.mono b59.size)
      refine (pairs_plus _ _ _ m1 _ _ la lb _ HLA.out HLB.out (by omega) (ra.below bt) (rb.below bt) bt.size (fun z hz => ⟨(HFA.out z hz).1, (HFA.out z hz).2.1⟩) (fun z hz => ⟨(HFB.out z hz).1, (HFB.out z hz).2.1⟩)).mono ?_
      rintro e wB ⟨rfl, bB⟩
      replace sc := bc.size
      replace bc := bc.trans (bB.mono sc)
      clear bB bt
      go_wp2_with fail
      have hle := pairSum_le (fun x y => x * x + y * y) opBdP la lb m1 HLA.out HLB.out HFA.out HFB.out (by omega)
      refine (same_num _ _ _ hle.1 hle.2.1 hle.2.2 true (by simp)).mono ?_
      rintro e wC ⟨rfl, bC⟩
      replace sc := bc.size
      replace bc := bc.trans (bC.mono sc)
      clear bC hle sc
      go_wp2_with fail
      have sc := bc.size
      refine (cimpl_diff _ E f cs9 la lb m1 _ (r9.below bc) bc.size (a9.below (near_I 36) bc) HLA.out HLB.out (by omega) (by omega) HFA.out HFB.out).mono ?_
      rintro e wA ⟨rfl, bA⟩
      replace bc := bc.trans (bA.mono sc)
      clear bA
      go_wp2_with fail
      have bt := b59.trans (bc.mono b59.size)
      refine (pairs_diff _ _ _ m1 _ _ la lb _ HLA.out HLB.out (by omega) (ra.below bt) (rb.below bt) bt.size (fun z hz => ⟨(HFA.out z hz).1, (HFA.out z hz).2.1⟩) (fun z hz => ⟨(HFB.out z hz).1, (HFB.out z hz).2.1⟩)).mono ?_
      rintro e wB ⟨rfl, bB⟩
      replace sc := bc.size
      replace bc := bc.trans (bB.mono sc)
      clear bB bt
      go_wp2_with fail
      have hle := pairSum_le (fun x y => (x - y) * (x - y)) opBdD la lb m1 HLA.out HLB.out HFA.out HFB.out (by omega)
      refine (same_num _ _ _ hle.1 hle.2.1 hle.2.2 true (by simp)).mono ?_
      rintro e wC ⟨rfl, bC⟩
      replace sc := bc.size
      replace bc := bc.trans (bC.mono sc)
      clear bC hle sc
      have bE := be5.trans ((b59.trans (bc.mono b59.size)).mono s5)
      clear bc b59 r9 a9 ra rb
      go_wp2
      go_ret
      exact ⟨rfl, bE⟩
  · by_cases hz : m0 = 0
    · have hz' : ((m0 : Int) == 0) = true := by rw [hz]; rfl
      go_wp2_with fail
      have K0 := (Bk.new w4 3 #[.int .i64 3]).alloc (.cells #[.int .i64 2] 3)
      have K1 : Bk ((w4.alloc (.cells #[.int .i64 3] 3)).alloc (.cells #[.int .i64 2] 3)) (w4.heap.size + 1) 3 #[.int .i64 2] := by have := Bk.new (w4.alloc (.cells #[.int .i64 3] 3)) 3 #[.int .i64 2]; simpa using this
      have be4 := (be.alloc (show w.heap.size ≤ w4.heap.size from be.size) (.cells #[.int .i64 3] 3)).alloc (by have := be.size; simp; omega) (.cells #[.int .i64 2] 3)
      have ra0 := Rd.of_bk K0 (cellI [3]) rfl
      have rb0 := Rd.of_bk K1 (cellI [2]) rfl
      generalize (w4.alloc (.cells #[.int .i64 3] 3)).alloc (.cells #[.int .i64 2] 3) = U at *
      generalize w4.heap.size = G at *
      go_big_quiet (fail)
      have ra : Rd (U.drewN nq) (U.drewN nq).heap.size (some ⟨G, 0, none⟩) (cellI [3]) := ra0
      have rb : Rd (U.drewN nq) (U.drewN nq).heap.size (some ⟨G + 1, 0, none⟩) (cellI [2]) := rb0
      have be5 : Below w.heap.size w (U.drewN nq) := below_drewN be4 nq
      obtain ⟨la, hla⟩ : ∃ la : List Int, la = [3] := ⟨_, rfl⟩
      obtain ⟨lb, hlb⟩ : ∃ lb : List Int, lb = [2] := ⟨_, rfl⟩
      rw [← hla] at ra
      rw [← hlb] at rb
      have HLA : Hid (la.length = 1) := Lib.hid (by rw [hla]; rfl)
      have HLB : Hid (lb.length = 1) := Lib.hid (by rw [hlb]; rfl)
      have HFA : Hid (∀ z ∈ la, -1000 < z ∧ z < 1000 ∧ z ≠ 0) := Lib.hid (by rw [hla]; intro z hz; simp at hz; omega)
      have HFB : Hid (∀ z ∈ lb, -1000 < z ∧ z < 1000 ∧ z ≠ 0) := Lib.hid (by rw [hlb]; intro z hz; simp at hz; omega)
      clear hla hlb ra0 rb0 K0 K1 be4
      generalize World.drewN U nq = W5 at *
      have HFT : Hid (∀ x ∈ [Ag.col la, Ag.col lb], x.fits) := Lib.hid (fits_two la lb 1 HLA.out HLB.out (by omega) HFA.out HFB.out)
      have s5 := be5.size
      go_wp2_with fail
      refine (sumsColumn_any _ _ 1 _ la _ HLA.out (by omega) ra (Nat.le_refl _) (fun z hz => by have := HFA.out z hz; omega)).mono ?_
      rintro e w6 ⟨C0, d0, rfl, col0, b6⟩
      have s6 := b6.size
      have rb6 := rb.below b6
      go_wp2_with fail
      refine (sumsColumn_any _ _ 1 _ lb _ HLB.out (by omega) rb6 s6 (fun z hz => by have := HFB.out z hz; omega)).mono ?_
      rintro e w7 ⟨C1, d1, rfl, col1, b7⟩
      have s7 := b7.size
      have col0' := col0.below b7 (Nat.le_refl _)
      have b67 := b6.trans (b7.mono s6)
      clear b6 b7 rb6 col0
      go_wp2_with fail
      have hcells := Bk.new w7 29 #[.int .i64 5, .int .i64 0, .int .i64 0, .string ⟨#[]⟩, .slice C0 1 d0, .int .i64 5, .int .i64 0, .int .i64 0, .string ⟨#[]⟩, .slice C1 1 d1]
      have rcs : Rd (w7.alloc (.cells #[.int .i64 5, .int .i64 0, .int .i64 0, .string ⟨#[]⟩, .slice C0 1 d0, .int .i64 5, .int .i64 0, .int .i64 0, .string ⟨#[]⟩, .slice C1 1 d1] 29)) _ (some ⟨w7.heap.size, 0, none⟩) ([[.int .i64 5, .int .i64 0, .int .i64 0, .string ⟨#[]⟩, .slice C0 1 d0], [.int .i64 5, .int .i64 0, .int .i64 0, .string ⟨#[]⟩, .slice C1 1 d1]] : List (List Value)).flatten := Rd.of_bk hcells _ rfl
      have acs : Args AgS (w7.alloc (.cells #[.int .i64 5, .int .i64 0, .int .i64 0, .string ⟨#[]⟩, .slice C0 1 d0, .int .i64 5, .int .i64 0, .int .i64 0, .string ⟨#[]⟩, .slice C1 1 d1] 29)) none [.col la, .col lb] [[.int .i64 5, .int .i64 0, .int .i64 0, .string ⟨#[]⟩, .slice C0 1 d0], [.int .i64 5, .int .i64 0, .int .i64 0, .string ⟨#[]⟩, .slice C1 1 d1]] :=
        two_args (by simp) ⟨C0, d0, by rw [HLA.out], (col0'.alloc s7 _).more (Nat.zero_le _) s7⟩ ⟨C1, d1, by rw [HLB.out], (col1.alloc (Nat.le_refl _) _).more (Nat.zero_le _) (Nat.le_refl _)⟩
      have b8 := b67.alloc (Nat.le_trans s6 s7) (.cells #[.int .i64 5, .int .i64 0, .int .i64 0, .string ⟨#[]⟩, .slice C0 1 d0, .int .i64 5, .int .i64 0, .int .i64 0, .string ⟨#[]⟩, .slice C1 1 d1] 29)
      generalize w7.alloc (.cells #[.int .i64 5, .int .i64 0, .int .i64 0, .string ⟨#[]⟩, .slice C0 1 d0, .int .i64 5, .int .i64 0, .int .i64 0, .string ⟨#[]⟩, .slice C1 1 d1] 29) = W8 at *
      have s8 := b8.size
      clear col0' col1 b67 hcells
      refine (all_args _ _ 2 2 [.col la, .col lb] _ W8 rfl (by omega) rcs (Nat.le_refl _) acs HFT.out).mono ?_
      rintro e w9 ⟨E, f, cs9, rfl, r9, a9, b9⟩
      have s9 := b9.size
      have b59 := b8.trans (b9.mono s8)
      clear b8 b9 rcs acs
      have bc := Below.refl w9.heap.size w9
      go_wp2_with fail
      have sc := bc.size
      refine (cimpl_minus _ E f cs9 la lb 1 _ (r9.below bc) bc.size (a9.below (near_I 36) bc) HLA.out HLB.out (by omega) (by omega) HFA.out HFB.out).mono ?_
      rintro e wA ⟨rfl, bA⟩
      replace bc := bc.trans (bA.mono sc)
      clear bA
      go_wp2_with fail
      have bt := b59.trans (bc.mono b59.size)
      refine (pairs_minus _ _ _ 1 _ _ la lb _ HLA.out HLB.out (by omega) (ra.below bt) (rb.below bt) bt.size (fun z hz => ⟨(HFA.out z hz).1, (HFA.out z hz).2.1⟩) (fun z hz => ⟨(HFB.out z hz).1, (HFB.out z hz).2.1⟩)).mono ?_
      rintro e wB ⟨rfl, bB⟩
      replace sc := bc.size
      replace bc := bc.trans (bB.mono sc)
      clear bB bt
      go_wp2_with fail
      have hle := pairSum_le (fun x y => x * x - y * y) opBd la lb 1 HLA.out HLB.out HFA.out HFB.out (by omega)
      refine (same_num _ _ _ hle.1 hle.2.1 hle.2.2 true (by simp)).mono ?_
      rintro e wC ⟨rfl, bC⟩
      replace sc := bc.size
      replace bc := bc.trans (bC.mono sc)
      clear bC hle sc
      go_wp2_with fail
      have sc := bc.size
      refine (cimpl_plus _ E f cs9 la lb 1 _ (r9.below bc) bc.size (a9.below (near_I 36) bc) HLA.out HLB.out (by omega) (by omega) HFA.out HFB.out).mono ?_
      rintro e wA ⟨rfl, bA⟩
      replace bc := bc.trans (bA.mono sc)
      clear bA
      go_wp2_with fail
      have bt := b59.trans (bc.mono b59.size)
      refine (pairs_plus _ _ _ 1 _ _ la lb _ HLA.out HLB.out (by omega) (ra.below bt) (rb.below bt) bt.size (fun z hz => ⟨(HFA.out z hz).1, (HFA.out z hz).2.1⟩) (fun z hz => ⟨(HFB.out z hz).1, (HFB.out z hz).2.1⟩)).mono ?_
      rintro e wB ⟨rfl, bB⟩
      replace sc := bc.size
      replace bc := bc.trans (bB.mono sc)
      clear bB bt
      go_wp2_with fail
      have hle := pairSum_le (fun x y => x * x + y * y) opBdP la lb 1 HLA.out HLB.out HFA.out HFB.out (by omega)
      refine (same_num _ _ _ hle.1 hle.2.1 hle.2.2 true (by simp)).mono ?_
      rintro e wC ⟨rfl, bC⟩
      replace sc := bc.size
      replace bc := bc.trans (bC.mono sc)
      clear bC hle sc
      go_wp2_with fail
      have sc := bc.size
      refine (cimpl_diff _ E f cs9 la lb 1 _ (r9.below bc) bc.size (a9.below (near_I 36) bc) HLA.out HLB.out (by omega) (by omega) HFA.out HFB.out).mono ?_
      rintro e wA ⟨rfl, bA⟩
      replace bc := bc.trans (bA.mono sc)
      clear bA
      go_wp2_with fail
      have bt := b59.trans (bc.mono b59.size)
      refine (pairs_diff _ _ _ 1 _ _ la lb _ HLA.out HLB.out (by omega) (ra.below bt) (rb.below bt) bt.size (fun z hz => ⟨(HFA.out z hz).1, (HFA.out z hz).2.1⟩) (fun z hz => ⟨(HFB.out z hz).1, (HFB.out z hz).2.1⟩)).mono ?_
      rintro e wB ⟨rfl, bB⟩
      replace sc := bc.size
      replace bc := bc.trans (bB.mono sc)
      clear bB bt
      go_wp2_with fail
      have hle := pairSum_le (fun x y => (x - y) * (x - y)) opBdD la lb 1 HLA.out HLB.out HFA.out HFB.out (by omega)
      refine (same_num _ _ _ hle.1 hle.2.1 hle.2.2 true (by simp)).mono ?_
      rintro e wC ⟨rfl, bC⟩
      replace sc := bc.size
      replace bc := bc.trans (bC.mono sc)
      clear bC hle sc
      have bE := be5.trans ((b59.trans (bc.mono b59.size)).mono s5)
      clear bc b59 r9 a9 ra rb
      go_wp2
      go_ret
      exact ⟨rfl, bE⟩
    · -- n = m0
      obtain ⟨g0, o0, rfl⟩ := v0.some_ (by rw [HF0.out]; omega)
      obtain ⟨g1, o1, rfl⟩ := u1.some_ (by rw [HF1.out]; omega)
      have k0 : (m0 : Int) ≤ (p0 : Int) := by omega
      have k1 : (m0 : Int) ≤ (p1 : Int) := by omega
      go_wp2_with fail
      go_big_quiet (fail)
      have ra : Rd (w4.drewN nq) (w4.drewN nq).heap.size (some ⟨g0, o0, none⟩) (cellI (a0.take m0)) := v0.take m0
      have rb : Rd (w4.drewN nq) (w4.drewN nq).heap.size (some ⟨g1, o1, none⟩) (cellI (a1.take m0)) := u1.take m0
      have be5 : Below w.heap.size w (w4.drewN nq) := below_drewN be nq
      have HLA : Hid ((a0.take m0).length = m0) := Lib.hid (by rw [List.length_take, HF0.out]; omega)
      have HLB : Hid ((a1.take m0).length = m0) := Lib.hid (by rw [List.length_take, HF1.out]; omega)
      have HFA : Hid (∀ z ∈ a0.take m0, -1000 < z ∧ z < 1000 ∧ z ≠ 0) := Lib.hid (fun z hz => HB0.out z (List.mem_of_mem_take hz))
      have HFB : Hid (∀ z ∈ a1.take m0, -1000 < z ∧ z < 1000 ∧ z ≠ 0) := Lib.hid (fun z hz => HB1.out z (List.mem_of_mem_take hz))
      generalize a0.take m0 = la at *
      generalize a1.take m0 = lb at *
      generalize World.drewN w4 nq = W5 at *
      have HFT : Hid (∀ x ∈ [Ag.col la, Ag.col lb], x.fits) := Lib.hid (fits_two la lb m0 HLA.out HLB.out (by omega) HFA.out HFB.out)
      have s5 := be5.size
      go_wp2_with fail
      refine (sumsColumn_any _ _ m0 _ la _ HLA.out (by omega) ra (Nat.le_refl _) (fun z hz => by have := HFA.out z hz; omega)).mono ?_
      rintro e w6 ⟨C0, d0, rfl, col0, b6⟩
      have s6 := b6.size
      have rb6 := rb.below b6
      go_wp2_with fail
      refine (sumsColumn_any _ _ m0 _ lb _ HLB.out (by omega) rb6 s6 (fun z hz => by have := HFB.out z hz; omega)).mono ?_
      rintro e w7 ⟨C1, d1, rfl, col1, b7⟩
      have s7 := b7.size
      have col0' := col0.below b7 (Nat.le_refl _)
      have b67 := b6.trans (b7.mono s6)
      clear b6 b7 rb6 col0
      go_wp2_with fail
      have hcells := Bk.new w7 29 #[.int .i64 5, .int .i64 0, .int .i64 0, .string ⟨#[]⟩, .slice C0 m0 d0, .int .i64 5, .int .i64 0, .int .i64 0, .string ⟨#[]⟩, .slice C1 m0 d1]
      have rcs : Rd (w7.alloc (.cells #[.int .i64 5, .int .i64 0, .int .i64 0, .string ⟨#[]⟩, .slice C0 m0 d0, .int .i64 5, .int .i64 0, .int .i64 0, .string ⟨#[]⟩, .slice C1 m0 d1] 29)) _ (some ⟨w7.heap.size, 0, none⟩) ([[.int .i64 5, .int .i64 0, .int .i64 0, .string ⟨#[]⟩, .slice C0 m0 d0], [.int .i64 5, .int .i64 0, .int .i64 0, .string ⟨#[]⟩, .slice C1 m0 d1]] : List (List Value)).flatten := Rd.of_bk hcells _ rfl
      have acs : Args AgS (w7.alloc (.cells #[.int .i64 5, .int .i64 0, .int .i64 0, .string ⟨#[]⟩, .slice C0 m0 d0, .int .i64 5, .int .i64 0, .int .i64 0, .string ⟨#[]⟩, .slice C1 m0 d1] 29)) none [.col la, .col lb] [[.int .i64 5, .int .i64 0, .int .i64 0, .string ⟨#[]⟩, .slice C0 m0 d0], [.int .i64 5, .int .i64 0, .int .i64 0, .string ⟨#[]⟩, .slice C1 m0 d1]] :=
        two_args (by simp) ⟨C0, d0, by rw [HLA.out], (col0'.alloc s7 _).more (Nat.zero_le _) s7⟩ ⟨C1, d1, by rw [HLB.out], (col1.alloc (Nat.le_refl _) _).more (Nat.zero_le _) (Nat.le_refl _)⟩
      have b8 := b67.alloc (Nat.le_trans s6 s7) (.cells #[.int .i64 5, .int .i64 0, .int .i64 0, .string ⟨#[]⟩, .slice C0 m0 d0, .int .i64 5, .int .i64 0, .int .i64 0, .string ⟨#[]⟩, .slice C1 m0 d1] 29)
      generalize w7.alloc (.cells #[.int .i64 5, .int .i64 0, .int .i64 0, .string ⟨#[]⟩, .slice C0 m0 d0, .int .i64 5, .int .i64 0, .int .i64 0, .string ⟨#[]⟩, .slice C1 m0 d1] 29) = W8 at *
      have s8 := b8.size
      clear col0' col1 b67 hcells
      refine (all_args _ _ 2 2 [.col la, .col lb] _ W8 rfl (by omega) rcs (Nat.le_refl _) acs HFT.out).mono ?_
      rintro e w9 ⟨E, f, cs9, rfl, r9, a9, b9⟩
      have s9 := b9.size
      have b59 := b8.trans (b9.mono s8)
      clear b8 b9 rcs acs
      have bc := Below.refl w9.heap.size w9
      go_wp2_with fail
      have sc := bc.size
      refine (cimpl_minus _ E f cs9 la lb m0 _ (r9.below bc) bc.size (a9.below (near_I 36) bc) HLA.out HLB.out (by omega) (by omega) HFA.out HFB.out).mono ?_
      rintro e wA ⟨rfl, bA⟩
      replace bc := bc.trans (bA.mono sc)
      clear bA
      go_wp2_with fail
      have bt := b59.trans (bc.mono b59.size)
      refine (pairs_minus _ _ _ m0 _ _ la lb _ HLA.out HLB.out (by omega) (ra.below bt) (rb.below bt) bt.size (fun z hz => ⟨(HFA.out z hz).1, (HFA.out z hz).2.1⟩) (fun z hz => ⟨(HFB.out z hz).1, (HFB.out z hz).2.1⟩)).mono ?_
      rintro e wB ⟨rfl, bB⟩
      replace sc := bc.size
      replace bc := bc.trans (bB.mono sc)
      clear bB bt
      go_wp2_with fail
      have hle := pairSum_le (fun x y => x * x - y * y) opBd la lb m0 HLA.out HLB.out HFA.out HFB.out (by omega)
      refine (same_num _ _ _ hle.1 hle.2.1 hle.2.2 true (by simp)).mono ?_
      rintro e wC ⟨rfl, bC⟩
      replace sc := bc.size
      replace bc := bc.trans (bC.mono sc)
      clear bC hle sc
      go_wp2_with fail
      have sc := bc.size
      refine (cimpl_plus _ E f cs9 la lb m0 _ (r9.below bc) bc.size (a9.below (near_I 36) bc) HLA.out HLB.out (by omega) (by omega) HFA.out HFB.out).mono ?_
      rintro e wA ⟨rfl, bA⟩
      replace bc := bc.trans (bA.mono sc)
      clear bA
      go_wp2_with fail
      have bt := b59.trans (bc.mono b59.size)
      refine (pairs_plus _ _ _ m0 _ _ la lb _ HLA.out HLB.out (by omega) (ra.below bt) (rb.below bt) bt.size (fun z hz => ⟨(HFA.out z hz).1, (HFA.out z hz).2.1⟩) (fun z hz => ⟨(HFB.out z hz).1, (HFB.out z hz).2.1⟩)).mono ?_
      rintro e wB ⟨rfl, bB⟩
      replace sc := bc.size
      replace bc := bc.trans (bB.mono sc)
      clear bB bt
      go_wp2_with fail
      have hle := pairSum_le (fun x y => x * x + y * y) opBdP la lb m0 HLA.out HLB.out HFA.out HFB.out (by omega)
      refine (same_num _ _ _ hle.1 hle.2.1 hle.2.2 true (by simp)).mono ?_
      rintro e wC ⟨rfl, bC⟩
      replace sc := bc.size
      replace bc := bc.trans (bC.mono sc)
      clear bC hle sc
      go_wp2_with fail
      have sc := bc.size
      refine (cimpl_diff _ E f cs9 la lb m0 _ (r9.below bc) bc.size (a9.below (near_I 36) bc) HLA.out HLB.out (by omega) (by omega) HFA.out HFB.out).mono ?_
      rintro e wA ⟨rfl, bA⟩
      replace bc := bc.trans (bA.mono sc)
      clear bA
      go_wp2_with fail
      have bt := b59.trans (bc.mono b59.size)
      refine (pairs_diff _ _ _ m0 _ _ la lb _ HLA.out HLB.out (by omega) (ra.below bt) (rb.below bt) bt.size (fun z hz => ⟨(HFA.out z hz).1, (HFA.out z hz).2.1⟩) (fun z hz => ⟨(HFB.out z hz).1, (HFB.out z hz).2.1⟩)).mono ?_
      rintro e wB ⟨rfl, bB⟩
      replace sc := bc.size
      replace bc := bc.trans (bB.mono sc)
      clear bB bt
      go_wp2_with fail
      have hle := pairSum_le (fun x y => (x - y) * (x - y)) opBdD la lb m0 HLA.out HLB.out HFA.out HFB.out (by omega)
      refine (same_num _ _ _ hle.1 hle.2.1 hle.2.2 true (by simp)).mono ?_
      rintro e wC ⟨rfl, bC⟩
      replace sc := bc.size
      replace bc := bc.trans (bC.mono sc)
      clear bC hle sc
      have bE := be5.trans ((b59.trans (bc.mono b59.size)).mono s5)
      clear bc b59 r9 a9 ra rb
      go_wp2
      go_ret
      exact ⟨rfl, bE⟩
end Go.Proofs.YtojicbajcebjjaaGreatDoor
