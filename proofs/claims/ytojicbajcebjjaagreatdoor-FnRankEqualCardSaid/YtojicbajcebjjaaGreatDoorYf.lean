/-
  sort.partialInsertionSort over sort.Reverse(sort.Float64Slice(..)).
-/
import Derived.Test.YtojicbajcebjjaaGreatDoorYc
import Derived.Sort.WalkA6
namespace Go.Proofs.YtojicbajcebjjaaGreatDoor
open Go.RowKit Go.Sort Go.Lib

set_option maxHeartbeats 6400000 in
set_option maxRecDepth 1000000 in
theorem par_x (K : Cx) (a b : Nat) (d : Array FK) (w : World) (S0 : Sx K d w) (hab : a < b) (hb : b ≤ K.size) :
    Calls Tryz.prog 154 #[(.iface 153 (.pointer (some ⟨K.RB, 0, none⟩))), .int .i64 a, .int .i64 b] w fun e w' => e = .returned (.bool (Sort.partialInsertionSort gtK d a b).2) ∧ Sx K (Sort.partialInsertionSort gtK d a b).1 w' := by
  have mL := K.mL; have mS := K.mS
  have hsz := K.hsz
  go_enter Tryz.func154, Tryz.ntmps154
  go_wp2
  go_loopg [7, 8] 5 (fun g1 vi vs wr => ∃ (i s : Nat) (dk : Array FK), vi = .int .i64 i ∧ vs = .int .i64 s ∧ s ≤ 5 ∧ 5 - s ≤ g1 ∧ a < i ∧ i ≤ b ∧ Sx K dk wr ∧ Hid (partialIns gtK a b (5 - s) i dk = partialIns gtK a b 5 (a + 1) d))
  case atStart => exact ⟨a + 1, 0, d, by go_num, rfl, by omega, by omega, by omega, by omega, S0, rfl⟩
  case round =>
    obtain ⟨i, s, dk, rfl, rfl, hs5, hg1, hai, hib, S1, HO⟩ := hrel
    by_cases hs : s < 5
    · have hsz5 : (s : Int) < 5 := by omega
      go_wp2
      -- the scan: 'for i < b && !data.Less(i, i-1) { i++ }'
      go_loopg [7] (b - i) (fun g2 vi wr2 => ∃ (kx : Nat), vi = .int .i64 kx ∧ i ≤ kx ∧ kx ≤ b ∧ b - kx ≤ g2 ∧ Sx K dk wr2 ∧ Hid (scanSorted gtK dk b kx = scanSorted gtK dk b i))
      case atStart => exact ⟨i, rfl, Nat.le_refl _, hib, Nat.le_refl _, S1, rfl⟩
      case round =>
        clear S1
        obtain ⟨kx, rfl, hik, hkb, hg2, S2, HSc⟩ := hrel
        have r2 := S2.r
        by_cases hkb' : kx < b
        · have hkz : (kx : Int) < (b : Int) := by omega
          cases hlv : gtK dk[kx]! dk[kx - 1]! with
          | false =>
            have hl := less_x K dk kx (kx - 1) (by omega) (by omega) kx ((kx : Int) - 1) rfl (by omega) false hlv
            go_wp2_with (go_at_call 264; refine (hl _ (by assumption)).mono ?_; rintro e w' ⟨rfl, Sq, rq, Gq⟩)
            go_roundg (b - (kx + 1))
            case measure => omega
            case rel => exact ⟨kx + 1, by go_num, by omega, by omega, Nat.le_refl _, Sq, (show Hid _ from by rw [← HSc.out, scanSorted_go gtK dk b kx hkb' hlv]; exact rfl)⟩
          | true =>
            -- a pair out of order, at kx
            have hl := less_x K dk kx (kx - 1) (by omega) (by omega) kx ((kx : Int) - 1) rfl (by omega) true hlv
            have HK : Hid (scanSorted gtK dk b i = kx) := by show _ = _; rw [← HSc.out, scanSorted_stop gtK dk b kx (Or.inr hlv)]
            have hkne : ((kx : Int) == (b : Int)) = false := beq_eq_false_iff_ne.2 (by omega)
            by_cases h50 : b - a < 50
            · have h50z : (b : Int) - (a : Int) < 50 := by omega
              go_wp2_with (go_at_call 264; refine (hl _ (by assumption)).mono ?_; rintro e w' ⟨rfl, Sq, rq, Gq⟩)
              have hv : Sort.partialInsertionSort gtK d a b = (dk, false) := by
                unfold Sort.partialInsertionSort
                rw [← HO.out, pi_short gtK a b s i dk hs (by rw [HK.out]; omega) h50]
              rw [hv]
              go_ret
              exact ⟨rfl, Sq⟩
            · have h50z : ¬ ((b : Int) - (a : Int) < 50) := by omega
              have hs1 := swap_x K dk kx (kx - 1) (by omega) (by omega) kx ((kx : Int) - 1) rfl (by omega)
              by_cases hka : kx - a ≥ 2
              · -- i - a >= 2: the smaller one goes down
                have hkaz : (2 : Int) ≤ (kx : Int) - (a : Int) := by omega
                go_wp2_with (first | (go_at_call 264; refine (hl _ (by assumption)).mono ?_; rintro e w' ⟨rfl, Sq, rq, Gq⟩) | (go_at_call 247; refine (hs1 _ (by assumption)).mono ?_; rintro e w' ⟨rfl, Sv, rv, _⟩))
                go_loopg [9] (kx - 1) (fun g3 vj wr3 => ∃ (j : Nat) (dj : Array FK), vj = .int .i64 j ∧ j ≤ kx - 1 ∧ j ≤ g3 ∧ Sx K dj wr3 ∧ Hid (shiftDown gtK j dj = shiftDown gtK (kx - 1) (swp dk kx (kx - 1))))
                case atStart => exact ⟨kx - 1, (swp dk kx (kx - 1)), by congr 1; omega, Nat.le_refl _, Nat.le_refl _, Sv, rfl⟩
                case round =>
                  clear Sv rv Sq rq Gq S2 r2
                  obtain ⟨j, dj, rfl, hjk, hg3, S3, HDn⟩ := hrel
                  have r3 := S3.r
                  by_cases hj1 : 1 ≤ j
                  · have hj1z : (1 : Int) ≤ (j : Int) := by omega
                    cases hlv2 : gtK dj[j]! dj[j - 1]! with
                    | true =>
                      have hl2 := less_x K dj j (j - 1) (by omega) (by omega) j ((j : Int) - 1) rfl (by omega) true hlv2
                      have hs2 := swap_x K dj j (j - 1) (by omega) (by omega) j ((j : Int) - 1) rfl (by omega)
                      go_wp2_with (first | (go_at_call 264; refine (hl2 _ (by assumption)).mono ?_; rintro e w' ⟨rfl, Sq, rq, Gq⟩) | (go_at_call 247; refine (hs2 _ (by assumption)).mono ?_; rintro e w' ⟨rfl, Su, ru, _⟩))
                      go_roundg (j - 1)
                      case measure => omega
                      case rel => exact ⟨j - 1, swp dj j (j - 1), by congr 1; omega, by omega, Nat.le_refl _, Su, (show Hid _ from by rw [← HDn.out, shiftDown_go gtK j dj hj1 hlv2]; exact rfl)⟩
                    | false =>
                      -- break
                      have hl2 := less_x K dj j (j - 1) (by omega) (by omega) j ((j : Int) - 1) rfl (by omega) false hlv2
                      have HD : Hid (fixDown gtK a kx (swp dk kx (kx - 1)) = dj) := by show _ = _; unfold fixDown; rw [if_pos hka, ← HDn.out, shiftDown_stop gtK j dj (Or.inr hlv2)]
                      by_cases hbk : b - kx ≥ 2
                      · have hbkz : (2 : Int) ≤ (b : Int) - (kx : Int) := by omega
                        go_wp2_with (go_at_call 264; refine (hl2 _ (by assumption)).mono ?_; rintro e w' ⟨rfl, Sq, rq, Gq⟩)
                        go_loopg [10] (b - (kx + 1)) (fun g4 vj wr4 => ∃ (ju : Nat) (du : Array FK), vj = .int .i64 ju ∧ kx + 1 ≤ ju ∧ ju ≤ b ∧ b - ju ≤ g4 ∧ Sx K du wr4 ∧ Hid (shiftUp gtK b ju du = shiftUp gtK b (kx + 1) dj))
                        case atStart => exact ⟨kx + 1, dj, by go_num, Nat.le_refl _, by omega, Nat.le_refl _, Sq, rfl⟩
                        case round =>
                          clear Sq rq Gq S3 r3
                          obtain ⟨ju, du, rfl, hkj, hjb, hg4, S4, HU⟩ := hrel
                          have r4 := S4.r
                          by_cases hjb' : ju < b
                          · have hjz : (ju : Int) < (b : Int) := by omega
                            cases hlv3 : gtK du[ju]! du[ju - 1]! with
                            | true =>
                              have hl3 := less_x K du ju (ju - 1) (by omega) (by omega) ju ((ju : Int) - 1) rfl (by omega) true hlv3
                              have hs3 := swap_x K du ju (ju - 1) (by omega) (by omega) ju ((ju : Int) - 1) rfl (by omega)
                              go_wp2_with (first | (go_at_call 264; refine (hl3 _ (by assumption)).mono ?_; rintro e w' ⟨rfl, Sq, rq, Gq⟩) | (go_at_call 247; refine (hs3 _ (by assumption)).mono ?_; rintro e w' ⟨rfl, Su, ru, _⟩))
                              go_roundg (b - (ju + 1))
                              case measure => omega
                              case rel => exact ⟨ju + 1, swp du ju (ju - 1), by go_num, by omega, by omega, Nat.le_refl _, Su, (show Hid _ from by rw [← HU.out, shiftUp_go gtK b ju du hjb' hlv3]; exact rfl)⟩
                            | false =>
                              have hl3 := less_x K du ju (ju - 1) (by omega) (by omega) ju ((ju : Int) - 1) rfl (by omega) false hlv3
                              go_wp2_with (go_at_call 264; refine (hl3 _ (by assumption)).mono ?_; rintro e w' ⟨rfl, Sq, rq, Gq⟩)
                              go_roundg (5 - (s + 1))
                              case measure => omega
                              case rel => exact ⟨kx, s + 1, du, rfl, by go_num, by omega, Nat.le_refl _, by omega, by omega, Sq, (show Hid _ from by rw [← HO.out, pi_go gtK a b s i kx dk hs HK.out (by omega) h50, HD.out, show fixUp gtK b kx dj = du from by unfold fixUp; rw [if_pos hbk, ← HU.out, shiftUp_stop gtK b ju du (Or.inr hlv3)]]; exact rfl)⟩
                          · have hjz : ¬ (ju : Int) < (b : Int) := by omega
                            go_wp2
                            go_roundg (5 - (s + 1))
                            case measure => omega
                            case rel => exact ⟨kx, s + 1, du, rfl, by go_num, by omega, Nat.le_refl _, by omega, by omega, S4, (show Hid _ from by rw [← HO.out, pi_go gtK a b s i kx dk hs HK.out (by omega) h50, HD.out, show fixUp gtK b kx dj = du from by unfold fixUp; rw [if_pos hbk, ← HU.out, shiftUp_stop gtK b ju du (Or.inl (by omega))]]; exact rfl)⟩
                      · have hbkz : ¬ (2 : Int) ≤ (b : Int) - (kx : Int) := by omega
                        go_wp2_with (go_at_call 264; refine (hl2 _ (by assumption)).mono ?_; rintro e w' ⟨rfl, Sq, rq, Gq⟩)
                        go_roundg (5 - (s + 1))
                        case measure => omega
                        case rel => exact ⟨kx, s + 1, dj, rfl, by go_num, by omega, Nat.le_refl _, by omega, by omega, Sq, (show Hid _ from by rw [← HO.out, pi_go gtK a b s i kx dk hs HK.out (by omega) h50, HD.out, show fixUp gtK b kx dj = dj from by unfold fixUp; rw [if_neg hbk]]; exact rfl)⟩
                  · have hj1z : ¬ (1 : Int) ≤ (j : Int) := by omega
                    have HD : Hid (fixDown gtK a kx (swp dk kx (kx - 1)) = dj) := by show _ = _; unfold fixDown; rw [if_pos hka, ← HDn.out, shiftDown_stop gtK j dj (Or.inl (by omega))]
                    by_cases hbk : b - kx ≥ 2
                    · have hbkz : (2 : Int) ≤ (b : Int) - (kx : Int) := by omega
                      go_wp2
                      go_loopg [10] (b - (kx + 1)) (fun g4 vj wr4 => ∃ (ju : Nat) (du : Array FK), vj = .int .i64 ju ∧ kx + 1 ≤ ju ∧ ju ≤ b ∧ b - ju ≤ g4 ∧ Sx K du wr4 ∧ Hid (shiftUp gtK b ju du = shiftUp gtK b (kx + 1) dj))
                      case atStart => exact ⟨kx + 1, dj, by go_num, Nat.le_refl _, by omega, Nat.le_refl _, S3, rfl⟩
                      case round =>
                        clear S3 r3
                        obtain ⟨ju, du, rfl, hkj, hjb, hg4, S4, HU⟩ := hrel
                        have r4 := S4.r
                        by_cases hjb' : ju < b
                        · have hjz : (ju : Int) < (b : Int) := by omega
                          cases hlv3 : gtK du[ju]! du[ju - 1]! with
                          | true =>
                            have hl3 := less_x K du ju (ju - 1) (by omega) (by omega) ju ((ju : Int) - 1) rfl (by omega) true hlv3
                            have hs3 := swap_x K du ju (ju - 1) (by omega) (by omega) ju ((ju : Int) - 1) rfl (by omega)
                            go_wp2_with (first | (go_at_call 264; refine (hl3 _ (by assumption)).mono ?_; rintro e w' ⟨rfl, Sq, rq, Gq⟩) | (go_at_call 247; refine (hs3 _ (by assumption)).mono ?_; rintro e w' ⟨rfl, Su, ru, _⟩))
                            go_roundg (b - (ju + 1))
                            case measure => omega
                            case rel => exact ⟨ju + 1, swp du ju (ju - 1), by go_num, by omega, by omega, Nat.le_refl _, Su, (show Hid _ from by rw [← HU.out, shiftUp_go gtK b ju du hjb' hlv3]; exact rfl)⟩
                          | false =>
                            have hl3 := less_x K du ju (ju - 1) (by omega) (by omega) ju ((ju : Int) - 1) rfl (by omega) false hlv3
                            go_wp2_with (go_at_call 264; refine (hl3 _ (by assumption)).mono ?_; rintro e w' ⟨rfl, Sq, rq, Gq⟩)
                            go_roundg (5 - (s + 1))
                            case measure => omega
                            case rel => exact ⟨kx, s + 1, du, rfl, by go_num, by omega, Nat.le_refl _, by omega, by omega, Sq, (show Hid _ from by rw [← HO.out, pi_go gtK a b s i kx dk hs HK.out (by omega) h50, HD.out, show fixUp gtK b kx dj = du from by unfold fixUp; rw [if_pos hbk, ← HU.out, shiftUp_stop gtK b ju du (Or.inr hlv3)]]; exact rfl)⟩
                        · have hjz : ¬ (ju : Int) < (b : Int) := by omega
                          go_wp2
                          go_roundg (5 - (s + 1))
                          case measure => omega
                          case rel => exact ⟨kx, s + 1, du, rfl, by go_num, by omega, Nat.le_refl _, by omega, by omega, S4, (show Hid _ from by rw [← HO.out, pi_go gtK a b s i kx dk hs HK.out (by omega) h50, HD.out, show fixUp gtK b kx dj = du from by unfold fixUp; rw [if_pos hbk, ← HU.out, shiftUp_stop gtK b ju du (Or.inl (by omega))]]; exact rfl)⟩
                    · have hbkz : ¬ (2 : Int) ≤ (b : Int) - (kx : Int) := by omega
                      go_wp2
                      go_roundg (5 - (s + 1))
                      case measure => omega
                      case rel => exact ⟨kx, s + 1, dj, rfl, by go_num, by omega, Nat.le_refl _, by omega, by omega, S3, (show Hid _ from by rw [← HO.out, pi_go gtK a b s i kx dk hs HK.out (by omega) h50, HD.out, show fixUp gtK b kx dj = dj from by unfold fixUp; rw [if_neg hbk]]; exact rfl)⟩
              · have hkaz : ¬ (2 : Int) ≤ (kx : Int) - (a : Int) := by omega
                have HD : Hid (fixDown gtK a kx (swp dk kx (kx - 1)) = (swp dk kx (kx - 1))) := by show _ = _; unfold fixDown; rw [if_neg hka]
                by_cases hbk : b - kx ≥ 2
                · have hbkz : (2 : Int) ≤ (b : Int) - (kx : Int) := by omega
                  go_wp2_with (first | (go_at_call 264; refine (hl _ (by assumption)).mono ?_; rintro e w' ⟨rfl, Sq, rq, Gq⟩) | (go_at_call 247; refine (hs1 _ (by assumption)).mono ?_; rintro e w' ⟨rfl, Sv, rv, _⟩))
                  go_loopg [10] (b - (kx + 1)) (fun g4 vj wr4 => ∃ (ju : Nat) (du : Array FK), vj = .int .i64 ju ∧ kx + 1 ≤ ju ∧ ju ≤ b ∧ b - ju ≤ g4 ∧ Sx K du wr4 ∧ Hid (shiftUp gtK b ju du = shiftUp gtK b (kx + 1) (swp dk kx (kx - 1))))
                  case atStart => exact ⟨kx + 1, (swp dk kx (kx - 1)), by go_num, Nat.le_refl _, by omega, Nat.le_refl _, Sv, rfl⟩
                  case round =>
                    clear Sv rv Sq rq Gq S2 r2
                    obtain ⟨ju, du, rfl, hkj, hjb, hg4, S4, HU⟩ := hrel
                    have r4 := S4.r
                    by_cases hjb' : ju < b
                    · have hjz : (ju : Int) < (b : Int) := by omega
                      cases hlv3 : gtK du[ju]! du[ju - 1]! with
                      | true =>
                        have hl3 := less_x K du ju (ju - 1) (by omega) (by omega) ju ((ju : Int) - 1) rfl (by omega) true hlv3
                        have hs3 := swap_x K du ju (ju - 1) (by omega) (by omega) ju ((ju : Int) - 1) rfl (by omega)
                        go_wp2_with (first | (go_at_call 264; refine (hl3 _ (by assumption)).mono ?_; rintro e w' ⟨rfl, Sq, rq, Gq⟩) | (go_at_call 247; refine (hs3 _ (by assumption)).mono ?_; rintro e w' ⟨rfl, Su, ru, _⟩))
                        go_roundg (b - (ju + 1))
                        case measure => omega
                        case rel => exact ⟨ju + 1, swp du ju (ju - 1), by go_num, by omega, by omega, Nat.le_refl _, Su, (show Hid _ from by rw [← HU.out, shiftUp_go gtK b ju du hjb' hlv3]; exact rfl)⟩
                      | false =>
                        have hl3 := less_x K du ju (ju - 1) (by omega) (by omega) ju ((ju : Int) - 1) rfl (by omega) false hlv3
                        go_wp2_with (go_at_call 264; refine (hl3 _ (by assumption)).mono ?_; rintro e w' ⟨rfl, Sq, rq, Gq⟩)
                        go_roundg (5 - (s + 1))
                        case measure => omega
                        case rel => exact ⟨kx, s + 1, du, rfl, by go_num, by omega, Nat.le_refl _, by omega, by omega, Sq, (show Hid _ from by rw [← HO.out, pi_go gtK a b s i kx dk hs HK.out (by omega) h50, HD.out, show fixUp gtK b kx (swp dk kx (kx - 1)) = du from by unfold fixUp; rw [if_pos hbk, ← HU.out, shiftUp_stop gtK b ju du (Or.inr hlv3)]]; exact rfl)⟩
                    · have hjz : ¬ (ju : Int) < (b : Int) := by omega
                      go_wp2
                      go_roundg (5 - (s + 1))
                      case measure => omega
                      case rel => exact ⟨kx, s + 1, du, rfl, by go_num, by omega, Nat.le_refl _, by omega, by omega, S4, (show Hid _ from by rw [← HO.out, pi_go gtK a b s i kx dk hs HK.out (by omega) h50, HD.out, show fixUp gtK b kx (swp dk kx (kx - 1)) = du from by unfold fixUp; rw [if_pos hbk, ← HU.out, shiftUp_stop gtK b ju du (Or.inl (by omega))]]; exact rfl)⟩
                · exfalso; omega
        · -- the scan has come to b: true
          obtain rfl : kx = b := by omega
          have hkz : ¬ (kx : Int) < (kx : Int) := by omega
          go_wp2
          have hv : Sort.partialInsertionSort gtK d a kx = (dk, true) := by
            unfold Sort.partialInsertionSort
            rw [← HO.out, pi_true gtK a kx s i dk hs (by rw [← HSc.out, scanSorted_stop gtK dk kx kx (Or.inl (by omega))])]
          rw [hv]
          go_ret
          exact ⟨rfl, S2⟩
    · -- five steps are done: false
      obtain rfl : s = 5 := by omega
      go_wp2
      have hv : Sort.partialInsertionSort gtK d a b = (dk, false) := by
        unfold Sort.partialInsertionSort
        rw [← HO.out, pi_end]
      rw [hv]
      go_ret
      exact ⟨rfl, S1⟩

end Go.Proofs.YtojicbajcebjjaaGreatDoor
