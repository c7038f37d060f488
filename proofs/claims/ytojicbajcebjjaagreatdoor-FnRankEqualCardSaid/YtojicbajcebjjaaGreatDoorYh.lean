/-
  sort.pdqsort and sort.Sort over sort.Reverse(sort.Float64Slice(..)).
-/
import Derived.Test.YtojicbajcebjjaaGreatDoorYd
import Derived.Test.YtojicbajcebjjaaGreatDoorYe
import Derived.Test.YtojicbajcebjjaaGreatDoorYf
import Derived.Test.YtojicbajcebjjaaGreatDoorYg
import Derived.Sort.Walk13
import Derived.Shelf.GgSortFunc.Pdq
namespace Go.Proofs.YtojicbajcebjjaaGreatDoor
open Go.RowKit Go.Sort Go.Lib

set_option maxHeartbeats 12800000 in
set_option maxRecDepth 1000000 in
theorem pdq_x (K : Cx) : ∀ (N a b limit : Nat) (d : Array FK) (w : World), b - a < N → Sx K d w → a ≤ b → b ≤ K.size → limit < 4611686018427387904 → Sort.Below gtK a b d →
    Calls Tryz.prog 137 #[(.iface 153 (.pointer (some ⟨K.RB, 0, none⟩))), .int .i64 a, .int .i64 b, .int .i64 limit] w fun e w' => e = .returned (.tuple #[]) ∧ Sx K (pdq gtK d a b limit true true) w' := by
  have hO := swoG
  have mL := K.mL
  have hsz := K.hsz
  intro N
  induction N with
  | zero => intro _ _ _ _ _ h; exact absurd h (Nat.not_lt_zero _)
  | succ N ih =>
    intro a b limit d w hN S0 hab hb hlimit hBel0
    go_enter Tryz.func137, Tryz.ntmps137
    go_wp2
    go_loopg [1, 2, 3, 8, 9] (b - a) (fun k s1 s2 s3 s8 s9 wr => ∃ (a' b' lim : Nat) (wb wp : Bool) (dk : Array FK), s1 = .int .i64 a' ∧ s2 = .int .i64 b' ∧ s3 = .int .i64 lim ∧ s8 = .bool wb ∧ s9 = .bool wp ∧
      a' ≤ b' ∧ b' ≤ K.size ∧ b' - a' ≤ k ∧ k ≤ b - a ∧ lim ≤ limit ∧ Sort.Below gtK a' b' dk ∧ Sx K dk wr ∧ pdq gtK dk a' b' lim wb wp = pdq gtK d a b limit true true)
    case atStart => exact ⟨a, b, limit, true, true, d, rfl, rfl, rfl, rfl, rfl, hab, hb, Nat.le_refl _, Nat.le_refl _, Nat.le_refl _, hBel0, S0, rfl⟩
    case round =>
      clear S0
      obtain ⟨a', b', lim, wb, wp, dk, rfl, rfl, rfl, rfl, rfl, hab', hb', hk, hkN, hlim, hBel, hAt, heq⟩ := hrel
      have hds := hAt.2
      have A : Aside (pdq gtK dk a' b' lim wb wp = pdq gtK d a b limit true true) := heq
      clear heq
      by_cases h12 : b' - a' ≤ 12
      · -- 'if length <= maxInsertion'
        have h12z : (b' : Int) - (a' : Int) ≤ 12 := by omega
        have hc := ins_x K a' b' dk wr hAt hab' hb'
        go_wp2_with (go_at_call 149; refine hc.mono ?_; rintro e w1 ⟨rfl, hw1⟩)
        (try simp only [Exit.inBlock, Exit.then]); refine bodyPost_ret (results_none rfl _ _ _) rfl ?_
        refine ⟨rfl, ?_⟩
        rw [← A.out, pdq_small h12]
        exact hw1
      · have h12z : ¬ ((b' : Int) - (a' : Int) ≤ 12) := by omega
        by_cases hl0 : lim = 0
        · -- 'if limit == 0'
          subst hl0
          have hc := heap_x K a' b' dk wr hAt hab' hb'
          go_wp2_with (go_at_call 150; refine hc.mono ?_; rintro e w1 ⟨rfl, hw1⟩)
          (try simp only [Exit.inBlock, Exit.then]); refine bodyPost_ret (results_none rfl _ _ _) rfl ?_
          refine ⟨rfl, ?_⟩
          rw [← A.out, pdq_heap h12 rfl]
          exact hw1
        · have hl0z : ¬ ((lim : Int) = 0) := by omega
          obtain ⟨s1, B1, hc1, s2, B2, hpv, s3, B3⟩ := rd_facts (lt := gtK) (limit := lim) (wb := wb) (wp := wp) hO partialInsertionSort_holds reverseRange_holds (show a' < b' by omega) (show b' ≤ dk.size by omega) hBel
          -- ████ 'if !wasBalanced { breakPatterns; limit-- }': THE WAYS MEET
          go_upto_if 35 with fail
          go_cut [3] from 19 (fun s3 wc => s3 = .int .i64 (rd gtK dk a' b' lim wb wp).lim ∧ Sx K (rd gtK dk a' b' lim wb wp).d1 wc)
          case first =>
            cases wb
            · have hc := brk_x K a' b' dk wr hAt hab' hb'
              go_wp2_with (go_at_call 151; refine hc.mono ?_; rintro e w1 ⟨rfl, hw1⟩)
              go_meet
              case rel =>
                refine ⟨?_, hw1⟩
                show Value.int .i64 ((lim : Int) - 1) = Value.int .i64 ((lim - 1 : Nat) : Int)
                congr 1
                omega
            · go_wp2_with fail
              go_meet
              case rel => exact ⟨rfl, hAt⟩
          case rest =>
            obtain ⟨rfl, hAt1⟩ := hcut
            have hc17 : Calls Tryz.prog 152 #[(.iface 153 (.pointer (some ⟨K.RB, 0, none⟩))), .int .i64 a', .int .i64 b'] wc fun e w' => e = .returned (.tuple #[.int .i64 (rd gtK dk a' b' lim wb wp).c.1, .int .i64 (hintCode (rd gtK dk a' b' lim wb wp).c.2)]) ∧ Sx K (rd gtK dk a' b' lim wb wp).d1 w' :=
              pivot_x K a' b' (rd gtK dk a' b' lim wb wp).d1 wc hAt1 (by omega) hb'
            go_upto_if 50 with (go_at_call 152; refine hc17.mono ?_; rintro e w2 ⟨rfl, hw2⟩)
            have hAt2 : Sx K (rd gtK dk a' b' lim wb wp).d1 w2 := hw2
            -- ████ 'if hint == decreasingHint { reverseRange; pivot = ..; hint = increasingHint }': THE WAYS MEET
            go_cut [11, 12] from 19 (fun s11 s12 wc => s11 = .int .i64 (rd gtK dk a' b' lim wb wp).pivot ∧ s12 = .int .i64 (hintCode (rd gtK dk a' b' lim wb wp).hint) ∧ Sx K (rd gtK dk a' b' lim wb wp).d2 wc)
            case first =>
              by_cases hh : (rd gtK dk a' b' lim wb wp).c.2 = .decreasing
              · have hcode : hintCode (rd gtK dk a' b' lim wb wp).c.2 = 2 := by rw [hh]; rfl
                obtain ⟨e2, epv, eht⟩ := rd_dec hh
                have hc18 := rev_x K a' b' (rd gtK dk a' b' lim wb wp).d1 w2 hAt2 hab' hb'
                go_wp2_with (go_at_call 153; refine hc18.mono ?_; rintro e w3 ⟨rfl, hw3⟩)
                go_meet
                case rel =>
                  refine ⟨?_, by rw [eht]; rfl, by rw [e2]; exact hw3⟩
                  rw [epv]
                  congr 1
                  omega
              · have hcode : ¬ (hintCode (rd gtK dk a' b' lim wb wp).c.2 = 2) := fun h => hh (hintCode_two h)
                obtain ⟨e2, epv, eht⟩ := rd_not hh
                go_wp2_with fail
                go_meet
                case rel => exact ⟨by rw [epv], by rw [eht], by rw [e2]; exact hAt2⟩
            case rest =>
              obtain ⟨rfl, rfl, hAt3⟩ := hcut
              -- ████ THE TEST 'wasBalanced && wasPartitioned && hint == increasingHint', over Booleans that are variables: THE WAYS THROUGH THE REGION MEET
              go_upto_region 15 with fail
              go_cut [12, 68] from 19 (fun s12 s68 wx => s12 = .int .i64 (hintCode (rd gtK dk a' b' lim wb wp).hint) ∧ s68 = .bool (wb && wp && decide ((rd gtK dk a' b' lim wb wp).hint = .increasing)) ∧ wx = wc)
              case first =>
                cases wb <;> cases wp <;> cases hh3 : (rd gtK dk a' b' lim _ _).hint <;>
                  (have hcode3 := congrArg hintCode hh3
                   simp only [hintCode] at hcode3
                   go_wp2_with fail
                   go_meet
                   exact ⟨by simp [hh3, hintCode], by simp [hh3, hintCode], rfl⟩)
              case rest =>
                obtain ⟨rfl, rfl, rfl⟩ := hcut
                -- ████ 'if .. { if partialInsertionSort(..) { return } }': THE WAYS MEET (one returns)
                go_upto_if 68 with fail
                go_cut [] from 19 (fun wx => (rd gtK dk a' b' lim wb wp).pi.2 = false ∧ Sx K (rd gtK dk a' b' lim wb wp).pi.1 wx)
                case first =>
                  cases h68 : (wb && wp && decide ((rd gtK dk a' b' lim wb wp).hint = .increasing))
                  · have epi := rd_pi_no h68
                    go_wp2_with fail
                    go_meet
                    case rel => exact ⟨by rw [epi], by rw [epi]; exact hAt3⟩
                  · have epi := rd_pi_yes h68
                    have hc19 := par_x K a' b' (rd gtK dk a' b' lim wb wp).d2 wc hAt3 (by omega) hb'
                    rw [← epi] at hc19
                    go_wp2_with (go_at_call 154; refine hc19.mono ?_; rintro e w4 ⟨rfl, hw4⟩)
                    all_goals first
                      | (have hp2 : (rd gtK dk a' b' lim wb wp).pi.2 = false := by rw [epi]; assumption
                         go_meet
                         exact ⟨hp2, hw4⟩)
                      | (have hp2 : (rd gtK dk a' b' lim wb wp).pi.2 = true := by rw [epi]; assumption
                         (try simp only [Exit.inBlock, Exit.then]); refine bodyPost_ret (results_none rfl _ _ _) rfl ?_
                         refine ⟨rfl, ?_⟩
                         rw [← A.out, pdq_done h12 hl0 hp2]
                         exact hw4)
                case rest =>
                  obtain ⟨hp2, hAt5⟩ := hcut
                  -- ████ THE TEST 'a > 0 && !data.Less(a-1, pivot)': its guard must be parted on: THE WAYS THROUGH THE REGION MEET
                  go_upto_region 17 with fail
                  go_cut [82] from 19 (fun s82 wx => s82 = .bool (decide (a' > 0) && !gtK (rd gtK dk a' b' lim wb wp).pi.1[a' - 1]! (rd gtK dk a' b' lim wb wp).pi.1[(rd gtK dk a' b' lim wb wp).pivot]!) ∧ Sx K (rd gtK dk a' b' lim wb wp).pi.1 wx)
                  case first =>
                    have r5 := hAt5.r
                    rcases Nat.eq_zero_or_pos a' with ha0 | ha0
                    · have ha0z : decide ((a' : Int) > 0) = false := decide_eq_false (by omega)
                      go_wp2_with fail
                      go_meet
                      case rel => exact ⟨by simp [ha0], hAt5⟩
                    · have ha0z : (a' : Int) > 0 := by omega
                      cases hlv : gtK (rd gtK dk a' b' lim wb wp).pi.1[a' - 1]! (rd gtK dk a' b' lim wb wp).pi.1[(rd gtK dk a' b' lim wb wp).pivot]!
                      · have hl := less_x K (rd gtK dk a' b' lim wb wp).pi.1 (a' - 1) (rd gtK dk a' b' lim wb wp).pivot (by omega) (by omega) ((a' : Int) - 1) (rd gtK dk a' b' lim wb wp).pivot (by omega) rfl false hlv
                        go_wp2_with (go_at_call 264; refine (hl _ (by assumption)).mono ?_; rintro e w' ⟨rfl, Sq, rq, Gq⟩)
                        go_meet
                        exact ⟨by simp [ha0, hlv], Sq⟩
                      · have hl := less_x K (rd gtK dk a' b' lim wb wp).pi.1 (a' - 1) (rd gtK dk a' b' lim wb wp).pivot (by omega) (by omega) ((a' : Int) - 1) (rd gtK dk a' b' lim wb wp).pivot (by omega) rfl true hlv
                        go_wp2_with (go_at_call 264; refine (hl _ (by assumption)).mono ?_; rintro e w' ⟨rfl, Sq, rq, Gq⟩)
                        go_meet
                        exact ⟨by simp [ha0, hlv], Sq⟩
                  case rest =>
                    obtain ⟨rfl, hAt6⟩ := hcut
                    cases h87 : (decide (a' > 0) && !gtK (rd gtK dk a' b' lim wb wp).pi.1[a' - 1]! (rd gtK dk a' b' lim wb wp).pi.1[(rd gtK dk a' b' lim wb wp).pivot]!)
                    · -- ████ 'mid, alreadyPartitioned := partition(..)'; THE SMALLER SIDE BY A CALL OF ITSELF, the other by the next round
                      obtain ⟨mid, ap, d4, hx⟩ : ∃ mid ap d4, partition gtK (rd gtK dk a' b' lim wb wp).pi.1 a' b' (rd gtK dk a' b' lim wb wp).pivot = (mid, ap, d4) := ⟨(partition gtK (rd gtK dk a' b' lim wb wp).pi.1 a' b' (rd gtK dk a' b' lim wb wp).pivot).1, (partition gtK (rd gtK dk a' b' lim wb wp).pi.1 a' b' (rd gtK dk a' b' lim wb wp).pivot).2.1, (partition gtK (rd gtK dk a' b' lim wb wp).pi.1 a' b' (rd gtK dk a' b' lim wb wp).pivot).2.2, rfl⟩
                      obtain ⟨r1, r2, r3, r4, r5, r6, r7⟩ := round_part hO (partition_holds gtK) hpv.1 hpv.2 (show b' ≤ (rd gtK dk a' b' lim wb wp).pi.1.size by omega) B3 hx
                      have hc22 := prt_x K a' b' (rd gtK dk a' b' lim wb wp).pivot (rd gtK dk a' b' lim wb wp).pi.1 wc hAt6 hpv.1 hpv.2 hb'
                      rw [hx] at hc22
                      have X : Aside (partition gtK (rd gtK dk a' b' lim wb wp).pi.1 a' b' (rd gtK dk a' b' lim wb wp).pivot = (mid, ap, d4)) := hx
                      clear hx
                      go_upto_if 108 with (go_at_call 156; refine hc22.mono ?_; rintro e w7 ⟨rfl, hw7⟩)
                      have hx := X.out
                      have hAt7 : Sx K d4 w7 := hw7
                      have hs4 := hAt7.2
                      by_cases h4 : mid - a' < b' - mid
                      · have h4z : (mid : Int) - (a' : Int) < (b' : Int) - (mid : Int) := by omega
                        have hih := ih a' mid (rd gtK dk a' b' lim wb wp).lim d4 w7 (by omega) hAt7 (by omega) (by omega) (Nat.lt_of_le_of_lt (Nat.le_trans rd_lim_le hlim) hlimit) r4
                        obtain ⟨pL, sL⟩ := pdq_sorts gtK hO d4 a' mid (rd gtK dk a' b' lim wb wp).lim true true (by omega) (by omega) r4
                        go_wp2_with (go_at_call 137; refine hih.mono ?_; rintro e w8 ⟨rfl, hw8⟩)
                        go_roundg (b' - (mid + 1))
                        case measure => omega
                        case rel =>
                          refine ⟨mid + 1, b', (rd gtK dk a' b' lim wb wp).lim, decide (mid - a' ≥ (b' - a') / 8), ap, pdq gtK d4 a' mid (rd gtK dk a' b' lim wb wp).lim true true, by simp, rfl, rfl, ?_, rfl, by omega, by omega, Nat.le_refl _, by omega, Nat.le_trans rd_lim_le hlim, (r6 _ pL sL).1, hw8, ?_⟩
                          · exact congrArg Value.bool (eighth (by omega) (by omega))
                          · rw [← A.out, pdq_left h12 hl0 hp2 h87 (by rw [hx]; exact ⟨r1, r2⟩) (by rw [hx]; exact h4), hx]
                      · have h4z : ¬ ((mid : Int) - (a' : Int) < (b' : Int) - (mid : Int)) := by omega
                        have hih := ih (mid + 1) b' (rd gtK dk a' b' lim wb wp).lim d4 w7 (by omega) hAt7 (by omega) (by omega) (Nat.lt_of_le_of_lt (Nat.le_trans rd_lim_le hlim) hlimit) r5
                        rw [show ((mid + 1 : Nat) : Int) = (mid : Int) + 1 by omega] at hih
                        obtain ⟨pL, sL⟩ := pdq_sorts gtK hO d4 (mid + 1) b' (rd gtK dk a' b' lim wb wp).lim true true (by omega) (by omega) r5
                        go_wp2_with (go_at_call 137; refine hih.mono ?_; rintro e w8 ⟨rfl, hw8⟩)
                        go_roundg (mid - a')
                        case measure => omega
                        case rel =>
                          refine ⟨a', mid, (rd gtK dk a' b' lim wb wp).lim, decide (b' - mid ≥ (b' - a') / 8), ap, pdq gtK d4 (mid + 1) b' (rd gtK dk a' b' lim wb wp).lim true true, rfl, rfl, rfl, ?_, rfl, by omega, by omega, Nat.le_refl _, by omega, Nat.le_trans rd_lim_le hlim, (r7 _ pL sL).1, hw8, ?_⟩
                          · exact congrArg Value.bool (eighth (by omega) (by omega))
                          · rw [← A.out, pdq_right h12 hl0 hp2 h87 (by rw [hx]; exact ⟨r1, r2⟩) (by rw [hx]; exact h4), hx]
                    · -- ████ 'mid := partitionEqual(..); a = mid; continue'
                      have h87' := h87
                      simp only [Bool.and_eq_true, decide_eq_true_eq, Bool.not_eq_true'] at h87'
                      obtain ⟨mid, d4, hx⟩ : ∃ mid d4, partitionEqual gtK (rd gtK dk a' b' lim wb wp).pi.1 a' b' (rd gtK dk a' b' lim wb wp).pivot = (mid, d4) := ⟨(partitionEqual gtK (rd gtK dk a' b' lim wb wp).pi.1 a' b' (rd gtK dk a' b' lim wb wp).pivot).1, (partitionEqual gtK (rd gtK dk a' b' lim wb wp).pi.1 a' b' (rd gtK dk a' b' lim wb wp).pivot).2, rfl⟩
                      obtain ⟨r1, r2, r3, r4, _⟩ := round_eq hO (partitionEqual_holds gtK) h87'.1 hpv.1 hpv.2 (show b' ≤ (rd gtK dk a' b' lim wb wp).pi.1.size by omega) B3 h87'.2 hx
                      have hc21 := peq_x K a' b' (rd gtK dk a' b' lim wb wp).pivot (rd gtK dk a' b' lim wb wp).pi.1 wc hAt6 hpv.1 hpv.2 hb'
                      rw [hx] at hc21
                      have X : Aside (partitionEqual gtK (rd gtK dk a' b' lim wb wp).pi.1 a' b' (rd gtK dk a' b' lim wb wp).pivot = (mid, d4)) := hx
                      clear hx
                      go_wp2_with (go_at_call 155; refine hc21.mono ?_; rintro e w7 ⟨rfl, hw7⟩)
                      go_roundg (b' - mid)
                      case measure => omega
                      case rel =>
                        have hx := X.out
                        exact ⟨mid, b', (rd gtK dk a' b' lim wb wp).lim, wb, wp, d4, rfl, rfl, rfl, rfl, rfl, r2, hb', Nat.le_refl _, by omega, Nat.le_trans rd_lim_le hlim, r4, hw7, by rw [← A.out, pdq_eq h12 hl0 hp2 h87 (by rw [hx]; exact ⟨r1, r2⟩), hx]⟩

set_option maxHeartbeats 1000000 in
set_option maxRecDepth 100000 in
theorem sort_x (K : Cx) (d : Array FK) (w : World) (S0 : Sx K d w) (h2 : 2 ≤ K.size) :
    Calls Tryz.prog 121 #[(.iface 153 (.pointer (some ⟨K.RB, 0, none⟩)))] w fun e w' => e = .returned (.tuple #[]) ∧ ∃ d', PermIn 0 K.size d d' ∧ SortedIn gtK 0 K.size d' ∧ Sx K d' w' := by
  have mN := K.mN
  have hsz := K.hsz
  have hd := S0.2
  have hb := fun w => bits_Len (K.size : Int) w (by omega) (by omega)
  have wr : IntKind.u64.wrap (K.size : Int) = K.size := by simp [IntKind.wrap, IntKind.bits, IntKind.signed]; omega
  have hlim : Lib.bitLen K.size < 4611686018427387904 := Nat.lt_of_le_of_lt (Lib.bitLen_le K.size 62 (by omega) (by omega)) (by omega)
  have r0 := S0.r
  have hlen := slice_len (some ⟨K.blk, K.off, none⟩) K.size K.c w
  have hp := fun q => pdq_x K (K.size + 1) 0 K.size (Lib.bitLen K.size) d (w.drewN q) (by omega) (S0.drewN q) (Nat.zero_le _) (Nat.le_refl _) hlim (Or.inl rfl)
  have hsort := pdq_sorts gtK swoG d 0 K.size (Lib.bitLen K.size) true true (Nat.zero_le _) (by omega) (Or.inl rfl)
  go_enter Tryz.func121, Tryz.ntmps121
  go_wp2_with (first
    | (go_at_call 244; refine hlen.mono ?_; rintro e w' ⟨rfl, q, rfl⟩)
    | (go_at_call 136; refine (hb _).mono ?_; rintro e w' ⟨rfl, rfl⟩)
    | (go_at_call 137; refine (hp _).mono ?_; rintro e w' ⟨rfl, S1⟩))
  all_goals first
    | (exfalso; omega)
    | (go_end0; exact ⟨rfl, _, hsort.1, hsort.2, S1⟩)

theorem sort_tiny (K : Cx) (d : Array FK) (w : World) (S0 : Sx K d w) (h2 : K.size ≤ 1) :
    Calls Tryz.prog 121 #[(.iface 153 (.pointer (some ⟨K.RB, 0, none⟩)))] w fun e w' => e = .returned (.tuple #[]) ∧ Sx K d w' := by
  have mN := K.mN
  have hsz := K.hsz
  have r0 := S0.r
  have hlen := slice_len (some ⟨K.blk, K.off, none⟩) K.size K.c w
  go_enter Tryz.func121, Tryz.ntmps121
  go_wp2_with (go_at_call 244; refine hlen.mono ?_; rintro e w' ⟨rfl, q, rfl⟩)
  all_goals first | (exfalso; omega) | ((try simp only [Exit.inBlock, Exit.then]); refine bodyPost_ret (results_none rfl _ _ _) rfl ?_; exact ⟨rfl, S0.drewN q⟩)

end Go.Proofs.YtojicbajcebjjaaGreatDoor
