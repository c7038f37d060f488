/-
  The law FnRankEqual, walked.
-/
import Derived.Test.YtojicbajcebjjaaGreatDoorYm
import Derived.Test.YtojicbajcebjjaaGreatDoorJ
namespace Go.Proofs.YtojicbajcebjjaaGreatDoor
open Go.RowKit
attribute [local go_sem] run_store_float

theorem three_args {P : Kind} {w : World} {a b c : Ag} {x y z : List Value} (h0 : ∃ lo hi, hi ≤ w.heap.size ∧ P w lo hi a x) (h1 : ∃ lo hi, hi ≤ w.heap.size ∧ P w lo hi b y) (h2 : ∃ lo hi, hi ≤ w.heap.size ∧ P w lo hi c z) : Args P w none [a, b, c] [x, y, z] := by
  refine ⟨rfl, fun k a' x' e1 e2 => ?_⟩
  have fin : ∀ {a : Ag} {x : List Value}, (∃ lo hi, hi ≤ w.heap.size ∧ P w lo hi a x) → ∃ lo hi, hi ≤ w.heap.size ∧ (∀ b, (none : Option Nat) = some b → b < lo ∨ hi ≤ b) ∧ P w lo hi a x := by
    rintro a x ⟨lo, hi, h, hp⟩
    exact ⟨lo, hi, h, fun b hb => by simp at hb, hp⟩
  match k, e1, e2 with
  | 0, e1, e2 => simp at e1 e2; subst e1 e2; exact fin h0
  | 1, e1, e2 => simp at e1 e2; subst e1 e2; exact fin h1
  | 2, e1, e2 => simp at e1 e2; subst e1 e2; exact fin h2
  | k + 3, e1, e2 => simp at e1 e2

theorem rk_succ (up : Bool) (l : List Int) (k : Nat) (z x : Int) (h : l[k]? = some z) : rk up (l.take (k + 1)) x = rk up (l.take k) x + (if (if up then decide (z < x) else decide (x < z)) then 1 else 0) := by
  obtain ⟨hk, rfl⟩ := List.getElem?_eq_some_iff.1 h
  unfold rk
  rw [List.take_succ_eq_append_getElem hk, List.countP_append, List.countP_singleton]

set_option maxRecDepth 100000 in
set_option maxHeartbeats 6400000 in
theorem fnRankEqual_walk (B : Nat) (A : Option Addr) (len c : Nat) (l0 : List Int) (at_ : Int) (up : Bool) (w : World) (h0 : l0.length = len) (r0 : Rd w B A (cellI l0)) (hB : B ≤ w.heap.size) (hm : (len : Int) ≤ 9223372036854775807) (hat : -9223372036854775808 ≤ at_ ∧ at_ ≤ 9223372036854775807) :
    Calls Tryz.prog 10 #[.slice A len c, .int .i64 at_, .bool up] w fun e w' => e = .returned (.bool true) ∧ Below w.heap.size w w' := by
  by_cases hb0 : 2147483647 < len
  · go_enter Tryz.func10, Tryz.ntmps10
    go_wp2
    go_ret
    exact ⟨rfl, Below.refl _ _⟩
  have H0 := Lib.hid h0
  have hsl := smallL_len l0 60 100
  rw [h0] at hsl
  have HS := Lib.hid hsl
  have HBD := Lib.hid (smallL_bd l0 60 100 (by omega))
  clear h0 hsl
  go_enter Tryz.func10, Tryz.ntmps10
  go_wp2_with fail
  refine (sumsSmall_any B A len c 60 100 l0 _ H0.out r0 hB (by omega) (by omega) (by omega)).mono ?_
  rintro e w1 ⟨X, y, rfl, x0, b1⟩
  have s1 := b1.size
  clear r0
  generalize smallL l0 60 100 = l1 at *
  generalize hm1 : min 60 len = m1 at *
  go_upto_if 19 with fail
  go_cut [0] from 15 (fun s0 wc => ∃ (A1 : Option Addr) (n c1 : Nat) (l : List Int), s0 = .slice A1 n c1 ∧ l.length = n ∧ 1 ≤ n ∧ n ≤ 60 ∧ Rd wc wc.heap.size A1 (cellI l) ∧ (∀ z ∈ l, -100 < z ∧ z < 100) ∧ Below w.heap.size w wc)
  case first =>
    by_cases hz : m1 = 0
    · subst hz
      go_wp2_with fail
      go_meet
      case rel =>
        have K0 := Bk.new w1 3 #[.int .i64 4, .int .i64 2]
        exact ⟨some ⟨w1.heap.size, 0, none⟩, 2, 2, [4, 2], rfl, rfl, by omega, by omega, Rd.of_bk K0 (cellI [4, 2]) rfl, by intro z hz; simp at hz; omega, b1.alloc s1 _⟩
    · have hzz : ((m1 : Int) == 0) = false := by rw [beq_eq_false_iff_ne]; omega
      go_wp2_with fail
      go_meet
      case rel => exact ⟨X, m1, y, l1, rfl, HS.out, by omega, by omega, x0, HBD.out, b1⟩
  case rest =>
    obtain ⟨A1, n, c1, l, rfl, hl, h1, h60, hr, hbd, hb⟩ := hcut
    have HL := Lib.hid hl
    have HZ := Lib.hid hbd
    have hs1 := hb.size
    clear hl hbd b1 x0 HBD HS H0
    obtain ⟨N, hN, hN2⟩ := small_nat at_ ((n : Int) - 1) (by omega)
    have hcomb := fun w => combSmall_any at_ ((n : Int) - 1) w (by omega) (by omega) hat
    rw [hN] at hcomb
    obtain ⟨x, hx⟩ : ∃ x, l[N]? = some x := ⟨_, List.getElem?_eq_getElem (by rw [HL.out]; omega)⟩
    obtain ⟨b, o, rfl, hbB, hc⟩ := hr.at_ (k := N) (by rw [cellI_len, HL.out]; omega)
    have hcell : wc.cell? ⟨b, o + N, none⟩ = some (.int .i64 x) := hc N _ (cellI_get hx)
    have HX := Lib.hid (List.mem_of_getElem? hx)
    have HC := Lib.hid hc
    have HR := Lib.hid hr
    clear hN hc hx hr
    go_upto_if 29 with (go_at_call 20; refine (hcomb _).mono ?_; rintro e w2 ⟨rfl, rfl⟩)
    go_cut [9] from 15 (fun s9 wx => s9 = .int .i64 (if up then 1 else 0) ∧ wx = wc)
    case first =>
      cases up
      · go_wp2_with fail
        go_meet
        case rel => exact ⟨rfl, rfl⟩
      · go_wp2_with fail
        go_meet
        case rel => exact ⟨rfl, rfl⟩
    case rest =>
      obtain ⟨rfl, rfl⟩ := hcut
      clear hcell hcomb
      obtain ⟨od, hod⟩ : ∃ od : Int, od = if up then 1 else 0 := ⟨_, rfl⟩
      rw [← hod]
      have HO := Lib.hid hod
      clear hod
      go_wp2_with fail
      go_loopw [8, 10] (fun v i wr => ∃ k : Nat, k ≤ n ∧ i = .int .i64 k ∧ v = .int .i64 ((rk up (l.take k) x + 1 : Nat) : Int) ∧ Below wc.heap.size wc wr)
        (fun _ i _ => n - (intOf i).toNat)
      case atStart => exact ⟨0, Nat.zero_le _, rfl, rfl, Below.refl _ _⟩
      case round =>
        obtain ⟨k, hk, rfl, rfl, hbel⟩ := hrel
        have hsz := hbel.size
        by_cases hlt : k < n
        · obtain ⟨z, hz⟩ : ∃ z, l[k]? = some z := ⟨_, List.getElem?_eq_getElem (by rw [HL.out]; exact hlt)⟩
          have hcell : wr.cell? ⟨b, o + k, none⟩ = some (.int .i64 z) := (hbel.cell (p := ⟨b, o + k, none⟩) (show b < _ by omega)).trans (HC.out k _ (cellI_get hz))
          have hrs := rk_succ up l k z x hz
          have hrk := rk_le up (l.take k) x
          rw [List.length_take] at hrk
          have HRS := Lib.hid hrs
          have HB := Lib.hid hbel
          clear hz hbel hrs
          generalize rk up (l.take k) x = m at *
          cases up with
          | true =>
            by_cases hzx : z < x
            · skip
              have hz1 : (z < x) := hzx
              go_wp2
              go_roundw
              case rel => exact ⟨k + 1, by omega, by go_num, by rw [HRS.out]; simp [hz1], HB.out⟩
              case measure => simp [intOf]; omega
            · skip
              have hz1 : ¬ (z < x) := hzx
              go_wp2
              go_roundw
              case rel => exact ⟨k + 1, by omega, by go_num, by rw [HRS.out]; simp [hz1], HB.out⟩
              case measure => simp [intOf]; omega
          | false =>
            by_cases hzx : x < z
            · skip
              have hz1 : (x < z) := hzx
              go_wp2
              go_roundw
              case rel => exact ⟨k + 1, by omega, by go_num, by rw [HRS.out]; simp [hz1], HB.out⟩
              case measure => simp [intOf]; omega
            · skip
              have hz1 : ¬ (x < z) := hzx
              go_wp2
              go_roundw
              case rel => exact ⟨k + 1, by omega, by go_num, by rw [HRS.out]; simp [hz1], HB.out⟩
              case measure => simp [intOf]; omega
        · have hke : k = n := by omega
          subst hke
          rw [show l.take k = l from by rw [← HL.out]; exact List.take_of_length_le (Nat.le_refl _)]
          have hle := rk_le up l x
          rw [HL.out] at hle
          have bW := hb.trans (hbel.mono hs1)
          have hr2 := (HR.out.below hbel)
          have hxb := HZ.out x HX.out
          clear hbel hb
          obtain ⟨R, hR⟩ : ∃ R : Nat, R = rk up l x := ⟨_, rfl⟩
          rw [← hR] at hle ⊢
          have HRR := Lib.hid hR
          clear hR
          go_wp2_with fail
          refine (int_any x _ (by omega) (by omega)).mono ?_
          rintro e w3 ⟨rfl, b3⟩
          have s3 := b3.size
          go_wp2_with fail
          refine (sumsColumn_any _ _ k _ l _ HL.out (by omega) (hr2.below (b3.mono (by omega))) (by omega) (fun z hz => by have := HZ.out z hz; omega)).mono ?_
          rintro e w4 ⟨C0, d0, rfl, col0, b4⟩
          have s4 := b4.size
          go_wp2_with fail
          have hodb : od = 0 ∨ od = 1 := by rw [HO.out]; cases up <;> simp
          refine (int_any od _ (by omega) (by omega)).mono ?_
          rintro e w5 ⟨rfl, b5⟩
          have s5 := b5.size
          have col1 := col0.below b5 (Nat.le_refl _)
          have b35 := (b3.trans (b4.mono s3)).trans (b5.mono (Nat.le_trans s3 s4))
          clear b3 b4 b5 col0
          go_wp2_with fail
          have hcells := Bk.new w5 29 #[.int .i64 1, .int .i64 x, .int .i64 1, .string ⟨#[]⟩, .slice none 0 0, .int .i64 5, .int .i64 0, .int .i64 0, .string ⟨#[]⟩, .slice C0 k d0, .int .i64 1, .int .i64 od, .int .i64 1, .string ⟨#[]⟩, .slice none 0 0]
          have rcs : Rd (w5.alloc (.cells #[.int .i64 1, .int .i64 x, .int .i64 1, .string ⟨#[]⟩, .slice none 0 0, .int .i64 5, .int .i64 0, .int .i64 0, .string ⟨#[]⟩, .slice C0 k d0, .int .i64 1, .int .i64 od, .int .i64 1, .string ⟨#[]⟩, .slice none 0 0] 29)) _ (some ⟨w5.heap.size, 0, none⟩) ([sv x, [.int .i64 5, .int .i64 0, .int .i64 0, .string ⟨#[]⟩, .slice C0 k d0], sv od]).flatten := Rd.of_bk hcells _ rfl
          have acs : Args AgS (w5.alloc (.cells #[.int .i64 1, .int .i64 x, .int .i64 1, .string ⟨#[]⟩, .slice none 0 0, .int .i64 5, .int .i64 0, .int .i64 0, .string ⟨#[]⟩, .slice C0 k d0, .int .i64 1, .int .i64 od, .int .i64 1, .string ⟨#[]⟩, .slice none 0 0] 29)) none [.num x, .col l, .num od] [sv x, [.int .i64 5, .int .i64 0, .int .i64 0, .string ⟨#[]⟩, .slice C0 k d0], sv od] :=
            three_args ⟨0, 0, Nat.zero_le _, rfl⟩ ⟨_, _, Nat.le_refl _, ⟨C0, d0, by rw [HL.out], (col1.alloc s5 _).more (Nat.zero_le _) (by simp; omega)⟩⟩ ⟨0, 0, Nat.zero_le _, rfl⟩
          have b8 := b35.alloc b35.size (.cells #[.int .i64 1, .int .i64 x, .int .i64 1, .string ⟨#[]⟩, .slice none 0 0, .int .i64 5, .int .i64 0, .int .i64 0, .string ⟨#[]⟩, .slice C0 k d0, .int .i64 1, .int .i64 od, .int .i64 1, .string ⟨#[]⟩, .slice none 0 0] 29)
          generalize w5.alloc (.cells #[.int .i64 1, .int .i64 x, .int .i64 1, .string ⟨#[]⟩, .slice none 0 0, .int .i64 5, .int .i64 0, .int .i64 0, .string ⟨#[]⟩, .slice C0 k d0, .int .i64 1, .int .i64 od, .int .i64 1, .string ⟨#[]⟩, .slice none 0 0] 29) = W8 at *
          clear hcells col1 b35
          have s8 := b8.size
          have HFT : Hid (∀ y ∈ [Ag.num x, Ag.col l, Ag.num od], y.fits) := Lib.hid (by rw [HO.out]; exact rank_fits x l up k HL.out h1 h60 (fun z hz => by have := HZ.out z hz; omega) HX.out)
          refine (all_args _ _ 3 3 [.num x, .col l, .num od] _ W8 rfl (by omega) rcs (Nat.le_refl _) acs HFT.out).mono ?_
          rintro e w9 ⟨E, f, cs9, rfl, r9, a9, b9⟩
          have s9 := b9.size
          have b59 := bW.trans ((b8.trans (b9.mono s8)).mono bW.size)
          clear b8 b9 rcs acs bW
          have HI1 := Lib.hid (fun (B : Nat) (A : Option Addr) (c : Nat) (cs : List (List Value)) (w : World) (hr : Rd w B A cs.flatten) (hB : B ≤ w.heap.size) (hxx : Args (AgI 36) w none [.num x, .col l, .num od] cs) =>
            cimpl_rankeq B A c cs x l up k w hr hB (by rw [← HO.out]; exact hxx) HL.out h1 h60 (fun z hz => by have := HZ.out z hz; omega) HX.out)
          have HI2 := Lib.hid (fun (B : Nat) (A : Option Addr) (c : Nat) (cs : List (List Value)) (w : World) (hr : Rd w B A cs.flatten) (hB : B ≤ w.heap.size) (hxx : Args (AgI 36) w none [.num x, .col l, .num od] cs) =>
            cimpl_rank B A c cs x l up k w hr hB (by rw [← HO.out]; exact hxx) HL.out h1 h60 (fun z hz => by have := HZ.out z hz; omega) HX.out)
          rw [← HRR.out, Int.natCast_add, show ((1 : Nat) : Int) = 1 from rfl] at HI1 HI2
          have bc := Below.refl w9.heap.size w9
          go_wp2_with fail
          have sc := bc.size
          refine (HI1.out _ E f cs9 _ (r9.below bc) bc.size (a9.below (near_I 36) bc)).mono ?_
          rintro e wA ⟨rfl, bA⟩
          replace bc := bc.trans (bA.mono sc)
          clear bA
          go_wp2_with fail
          replace sc := bc.size
          refine (int_any ((R : Int) + 1) _ (by omega) (by omega)).mono ?_
          rintro e wB ⟨rfl, bB⟩
          replace bc := bc.trans (bB.mono sc)
          clear bB
          go_wp2_with fail
          replace sc := bc.size
          refine (same_num ((R : Int) + 1) ((R : Int) + 1) _ (by omega) (by omega) (by omega) true (by simp)).mono ?_
          rintro e wC ⟨rfl, bC⟩
          replace bc := bc.trans (bC.mono sc)
          clear bC sc
          go_wp2_with fail
          have sc := bc.size
          refine (HI2.out _ E f cs9 _ (r9.below bc) bc.size (a9.below (near_I 36) bc)).mono ?_
          rintro e wA ⟨rfl, bA⟩
          replace bc := bc.trans (bA.mono sc)
          clear bA
          go_wp2_with fail
          replace sc := bc.size
          refine (int_any ((R : Int) + 1) _ (by omega) (by omega)).mono ?_
          rintro e wB ⟨rfl, bB⟩
          replace bc := bc.trans (bB.mono sc)
          clear bB
          go_wp2_with fail
          replace sc := bc.size
          refine (same_num ((R : Int) + 1) ((R : Int) + 1) _ (by omega) (by omega) (by omega) true (by simp)).mono ?_
          rintro e wC ⟨rfl, bC⟩
          replace bc := bc.trans (bC.mono sc)
          clear bC sc
          go_wp2_with fail
          go_ret
          exact ⟨rfl, b59.trans (bc.mono b59.size)⟩

end Go.Proofs.YtojicbajcebjjaaGreatDoor
