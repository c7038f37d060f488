/-
  sort.partitionEqual and partition over sort.Reverse(sort.Float64Slice(..)).
-/
import Derived.Test.YtojicbajcebjjaaGreatDoorYc
import Derived.Sort.WalkC4
namespace Go.Proofs.YtojicbajcebjjaaGreatDoor
open Go.RowKit Go.Sort Go.Lib

set_option maxHeartbeats 12800000 in
set_option maxRecDepth 100000 in
theorem peq_x (K : Cx) (a b pivot : Nat) (d : Array FK) (w : World) (S0 : Sx K d w) (hap : a ≤ pivot) (hpb : pivot < b) (hb : b ≤ K.size) :
    Calls Tryz.prog 155 #[(.iface 153 (.pointer (some ⟨K.RB, 0, none⟩))), .int .i64 a, .int .i64 b, .int .i64 pivot] w fun e w' => e = .returned (.int .i64 (Sort.partitionEqual gtK d a b pivot).1) ∧ Sx K (Sort.partitionEqual gtK d a b pivot).2 w' := by
  have mL := K.mL; have mS := K.mS
  have hsz := K.hsz
  have hs0 := swap_x K d a pivot (by omega) (by omega) a pivot rfl rfl
  have r0 := S0.r
  go_enter Tryz.func155, Tryz.ntmps155
  go_wp2_with (go_at_call 247; refine (hs0 _ (by assumption)).mono ?_; rintro e w' ⟨rfl, Su, ru, _⟩)
  go_loopw [9, 10] (fun vi vj wr => ∃ (i j : Nat) (dk : Array FK), vi = .int .i64 i ∧ vj = .int .i64 j ∧ a < i ∧ i ≤ j + 1 ∧ j < b ∧ Sx K dk wr ∧
      Hid (partEqLoop gtK a i j dk = partEqLoop gtK a (a + 1) (b - 1) (swp d a pivot)))
    (fun vi vj _ => (intOf vj).toNat + 1 - (intOf vi).toNat)
  case atStart => exact ⟨a + 1, b - 1, swp d a pivot, by go_num, by go_num, by omega, by omega, by omega, Su, rfl⟩
  case round =>
    clear Su ru hs0 S0 r0
    obtain ⟨i, j, dk, rfl, rfl, hai, hij, hjb, S1, AE⟩ := hrel
    have r1 := S1.r
    go_wp2
    -- THE UPWARD SCAN
    go_loopw [9] (fun vi w1 => ∃ (i' : Nat), vi = .int .i64 i' ∧ i ≤ i' ∧ i' ≤ j + 1 ∧ Sx K dk w1 ∧ Hid (scanUp (fun x => !gtK dk[a]! x) dk j i' = scanUp (fun x => !gtK dk[a]! x) dk j i)) (fun vi _ => j + 1 - (intOf vi).toNat)
    case atStart => exact ⟨i, rfl, Nat.le_refl _, hij, S1, rfl⟩
    case round =>
      clear S1
      obtain ⟨i', rfl, hii, hij', S2, hsc⟩ := hrel
      have r2 := S2.r
      by_cases hle : i' ≤ j
      · cases hlv : gtK dk[a]! dk[i']! with
        | false =>
          have hl := less_x K dk a i' (by omega) (by omega) a i' rfl rfl false hlv
          go_wp2_with (go_at_call 264; refine (hl _ (by assumption)).mono ?_; rintro e w' ⟨rfl, Sq, rq, Gq⟩)
          go_roundw
          case rel => exact ⟨i' + 1, by go_num, by omega, by omega, Sq, (show Hid _ from (scanUp_go (fun x => !gtK dk[a]! x) dk j i' hle (by simp [hlv])).symm.trans hsc.out)⟩
          case measure => simp [intOf]; omega
        | true =>
          have hl := less_x K dk a i' (by omega) (by omega) a i' rfl rfl true hlv
          have hi2 : Hid (i' = scanUp (fun x => !gtK dk[a]! x) dk j i) := (scanUp_end (fun x => !gtK dk[a]! x) dk j i' (Or.inr (by simp [hlv]))).symm.trans hsc.out
          go_wp2_with (go_at_call 264; refine (hl _ (by assumption)).mono ?_; rintro e w' ⟨rfl, Sq, rq, Gq⟩)
          clear hsc hl
          -- THE DOWNWARD SCAN
          go_loopw [10] (fun vj w2 => ∃ (j' : Nat), vj = .int .i64 j' ∧ j' ≤ j ∧ i' ≤ j' + 1 ∧ Sx K dk w2 ∧ Hid (scanDown (fun x => gtK dk[a]! x) dk i' j' = scanDown (fun x => gtK dk[a]! x) dk i' j)) (fun vj _ => (intOf vj).toNat)
          case atStart => exact ⟨j, rfl, Nat.le_refl _, hij', Sq, rfl⟩
          case round =>
            clear Sq rq Gq S2 r2
            obtain ⟨j', rfl, hjj, hij2, S3, hsd⟩ := hrel
            have r3 := S3.r
            by_cases hle2 : i' ≤ j'
            · cases hlv2 : gtK dk[a]! dk[j']! with
              | true =>
                have hl := less_x K dk a j' (by omega) (by omega) a j' rfl rfl true hlv2
                go_wp2_with (go_at_call 264; refine (hl _ (by assumption)).mono ?_; rintro e w' ⟨rfl, Sq, rq, Gq⟩)
                go_roundw
                case rel => exact ⟨j' - 1, by go_num, by omega, by omega, Sq, (show Hid _ from (scanDown_go (fun x => gtK dk[a]! x) dk i' j' hle2 (by omega) (by simp [hlv2])).symm.trans hsd.out)⟩
                case measure => simp [intOf]; omega
              | false =>
                have hl := less_x K dk a j' (by omega) (by omega) a j' rfl rfl false hlv2
                have hj2 : Hid (j' = scanDown (fun x => gtK dk[a]! x) dk i' j) := (scanDown_end (fun x => gtK dk[a]! x) dk i' j' (Or.inr (by simp [hlv2]))).symm.trans hsd.out
                have hlt3 := scans_lt gtK a i j dk (by omega) hi2.out hj2.out hle2
                have hs := swap_x K dk i' j' (by omega) (by omega) i' j' rfl rfl
                clear hsd
                go_wp2_with (first | (go_at_call 264; refine (hl _ (by assumption)).mono ?_; rintro e w' ⟨rfl, Sq, rq, Gq⟩) | (go_at_call 247; refine (hs _ (by assumption)).mono ?_; rintro e w' ⟨rfl, Su, ru, _⟩))
                go_roundw
                case rel => exact ⟨i' + 1, j' - 1, swp dk i' j', by go_num, by go_num, by omega, by omega, by omega, Su, (show Hid _ from by rw [← AE.out]; exact (partEq_go gtK a i j dk hi2.out hj2.out (by omega)).symm)⟩
                case measure => simp [intOf]; omega
            · -- it stops: i > j
              have hj2 : Hid (j' = scanDown (fun x => gtK dk[a]! x) dk i' j) := (scanDown_end (fun x => gtK dk[a]! x) dk i' j' (Or.inl hle2)).symm.trans hsd.out
              go_wp2
              go_ret
              have e := partEq_break gtK a i j dk hi2.out hj2.out (by omega)
              exact ⟨by unfold Sort.partitionEqual; rw [← AE.out, e]; rfl, by unfold Sort.partitionEqual; rw [← AE.out, e]; exact S3⟩
      · -- it stops: i > j
        have hi2 : Hid (i' = scanUp (fun x => !gtK dk[a]! x) dk j i) := (scanUp_end (fun x => !gtK dk[a]! x) dk j i' (Or.inl hle)).symm.trans hsc.out
        go_wp2
        clear hsc
        -- THE DOWNWARD SCAN
        go_loopw [10] (fun vj w2 => ∃ (j' : Nat), vj = .int .i64 j' ∧ j' ≤ j ∧ i' ≤ j' + 1 ∧ Sx K dk w2 ∧ Hid (scanDown (fun x => gtK dk[a]! x) dk i' j' = scanDown (fun x => gtK dk[a]! x) dk i' j)) (fun vj _ => (intOf vj).toNat)
        case atStart => exact ⟨j, rfl, Nat.le_refl _, hij', S2, rfl⟩
        case round =>
          clear S2 r2
          obtain ⟨j', rfl, hjj, hij2, S3, hsd⟩ := hrel
          have r3 := S3.r
          by_cases hle2 : i' ≤ j'
          · exfalso; omega
          · have hj2 : Hid (j' = scanDown (fun x => gtK dk[a]! x) dk i' j) := (scanDown_end (fun x => gtK dk[a]! x) dk i' j' (Or.inl hle2)).symm.trans hsd.out
            go_wp2
            go_ret
            have e := partEq_break gtK a i j dk hi2.out hj2.out (by omega)
            exact ⟨by unfold Sort.partitionEqual; rw [← AE.out, e]; rfl, by unfold Sort.partitionEqual; rw [← AE.out, e]; exact S3⟩

set_option maxHeartbeats 12800000 in
set_option maxRecDepth 100000 in
theorem prt_x (K : Cx) (a b pivot : Nat) (d : Array FK) (w : World) (S0 : Sx K d w) (hap : a ≤ pivot) (hpb : pivot < b) (hb : b ≤ K.size) :
    Calls Tryz.prog 156 #[(.iface 153 (.pointer (some ⟨K.RB, 0, none⟩))), .int .i64 a, .int .i64 b, .int .i64 pivot] w fun e w' => e = .returned (.tuple #[.int .i64 (Sort.partition gtK d a b pivot).1, .bool (Sort.partition gtK d a b pivot).2.1]) ∧ Sx K (Sort.partition gtK d a b pivot).2.2 w' := by
  have mL := K.mL; have mS := K.mS
  have hsz := K.hsz
  have hs0 := swap_x K d a pivot (by omega) (by omega) a pivot rfl rfl
  have r0 := S0.r
  obtain ⟨i, hi⟩ : ∃ i : Nat, i = a + 1 := ⟨_, rfl⟩
  obtain ⟨j, hj⟩ : ∃ j : Nat, j = b - 1 := ⟨_, rfl⟩
  obtain ⟨dk, hdk⟩ : ∃ dk : Array FK, dk = swp d a pivot := ⟨_, rfl⟩
  have hai : a < i := by omega
  have hij : i ≤ j + 1 := by omega
  have hjb : j < b := by omega
  rw [← hdk] at hs0
  have Hi : Hid (i = a + 1) := hi
  have Hj : Hid (j = b - 1) := hj
  have Hdk : Hid (dk = swp d a pivot) := hdk
  clear hi hj hdk
  go_enter Tryz.func156, Tryz.ntmps156
  go_wp2_with (go_at_call 247; refine (hs0 _ (by assumption)).mono ?_; rintro e w' ⟨rfl, S1, r1, _⟩)
  rw [show ((a : Int) + 1) = (i : Int) by have := Hi.out; omega, show ((b : Int) - 1) = (j : Int) by have := Hj.out; omega]
  clear hs0 S0 r0
  -- THE UPWARD SCAN
  go_loopw [10] (fun vi w1 => ∃ (i' : Nat), vi = .int .i64 i' ∧ i ≤ i' ∧ i' ≤ j + 1 ∧ Sx K dk w1 ∧ Hid (scanUp (fun x => gtK x dk[a]!) dk j i' = scanUp (fun x => gtK x dk[a]!) dk j i)) (fun vi _ => j + 1 - (intOf vi).toNat)
  case atStart => exact ⟨i, rfl, Nat.le_refl _, hij, S1, rfl⟩
  case round =>
    clear S1
    obtain ⟨i', rfl, hii, hij', S2, hsc⟩ := hrel
    have r2 := S2.r
    by_cases hle : i' ≤ j
    · cases hlv : gtK dk[i']! dk[a]! with
      | true =>
        have hl := less_x K dk i' a (by omega) (by omega) i' a rfl rfl true hlv
        go_wp2_with (go_at_call 264; refine (hl _ (by assumption)).mono ?_; rintro e w' ⟨rfl, Sq, rq, Gq⟩)
        go_roundw
        case rel => exact ⟨i' + 1, by go_num, by omega, by omega, Sq, (show Hid _ from (scanUp_go (fun x => gtK x dk[a]!) dk j i' hle (by simp [hlv])).symm.trans hsc.out)⟩
        case measure => simp [intOf]; omega
      | false =>
        have hl := less_x K dk i' a (by omega) (by omega) i' a rfl rfl false hlv
        have hi2 : Hid (i' = scanUp (fun x => gtK x dk[a]!) dk j i) := (scanUp_end (fun x => gtK x dk[a]!) dk j i' (Or.inr (by simp [hlv]))).symm.trans hsc.out
        go_wp2_with (go_at_call 264; refine (hl _ (by assumption)).mono ?_; rintro e w' ⟨rfl, Sq, rq, Gq⟩)
        clear hsc hl
        -- THE DOWNWARD SCAN
        go_loopw [11] (fun vj w2 => ∃ (j' : Nat), vj = .int .i64 j' ∧ j' ≤ j ∧ i' ≤ j' + 1 ∧ Sx K dk w2 ∧ Hid (scanDown (fun x => !gtK x dk[a]!) dk i' j' = scanDown (fun x => !gtK x dk[a]!) dk i' j)) (fun vj _ => (intOf vj).toNat)
        case atStart => exact ⟨j, rfl, Nat.le_refl _, hij', Sq, rfl⟩
        case round =>
          clear Sq rq Gq S2 r2
          obtain ⟨j', rfl, hjj, hij2, S3, hsd⟩ := hrel
          have r3 := S3.r
          by_cases hle2 : i' ≤ j'
          · cases hlv2 : gtK dk[j']! dk[a]! with
            | false =>
              have hl := less_x K dk j' a (by omega) (by omega) j' a rfl rfl false hlv2
              go_wp2_with (go_at_call 264; refine (hl _ (by assumption)).mono ?_; rintro e w' ⟨rfl, Sq, rq, Gq⟩)
              go_roundw
              case rel => exact ⟨j' - 1, by go_num, by omega, by omega, Sq, (show Hid _ from (scanDown_go (fun x => !gtK x dk[a]!) dk i' j' hle2 (by omega) (by simp [hlv2])).symm.trans hsd.out)⟩
              case measure => simp [intOf]; omega
            | true =>
              have hl := less_x K dk j' a (by omega) (by omega) j' a rfl rfl true hlv2
              have hj2 : Hid (j' = scanDown (fun x => !gtK x dk[a]!) dk i' j) := (scanDown_end (fun x => !gtK x dk[a]!) dk i' j' (Or.inr (by simp [hlv2]))).symm.trans hsd.out
              have hlt3 := part_scans_lt gtK a i j dk (by omega) hi2.out hj2.out hle2
              have hs := swap_x K dk i' j' (by omega) (by omega) i' j' rfl rfl
              clear hsd
              go_wp2_with (first | (go_at_call 264; refine (hl _ (by assumption)).mono ?_; rintro e w' ⟨rfl, Sq, rq, Gq⟩) | (go_at_call 247; refine (hs _ (by assumption)).mono ?_; rintro e w' ⟨rfl, Su, ru, _⟩))
              (try rw [decide_eq_false (show ¬ j' < i' by omega)])
              obtain ⟨I0, hI0⟩ : ∃ I0 : Nat, I0 = i' + 1 := ⟨_, rfl⟩
              obtain ⟨J0, hJ0⟩ : ∃ J0 : Nat, J0 = j' - 1 := ⟨_, rfl⟩
              obtain ⟨D0, hD0⟩ : ∃ D0 : Array FK, D0 = swp dk i' j' := ⟨_, rfl⟩
              have PF : Hid (Sort.partition gtK d a b pivot = ((partLoop gtK a I0 J0 D0).1, false, swp (partLoop gtK a I0 J0 D0).2 (partLoop gtK a I0 J0 D0).1 a)) := by
                rw [hI0, hJ0, hD0]; exact part_first_go gtK d a b pivot Hi.out Hj.out Hdk.out hi2.out hj2.out (by omega)
              go_loopw [10, 11] (fun vi vj wr => ∃ (i j : Nat) (dk : Array FK), vi = .int .i64 i ∧ vj = .int .i64 j ∧ a < i ∧ i ≤ j + 1 ∧ j < b ∧ Sx K dk wr ∧ Hid (partLoop gtK a i j dk = partLoop gtK a I0 J0 D0))
                (fun vi vj _ => (intOf vj).toNat + 1 - (intOf vi).toNat)
              case atStart => exact ⟨i' + 1, j' - 1, swp dk i' j', by go_num, by go_num, by omega, by omega, by omega, Su, (show Hid _ from by rw [hI0, hJ0, hD0]; exact rfl)⟩
              case round =>
                clear hI0 hJ0 hD0 hj2 hi2 hlt3 hl hs Hi Hj Hdk Su ru Sq rq Gq S3 r3
                obtain ⟨i, j, dk, rfl, rfl, hai, hij, hjb, S1, AE⟩ := hrel
                have r1 := S1.r
                go_wp2
                -- THE UPWARD SCAN
                go_loopw [10] (fun vi w1 => ∃ (i' : Nat), vi = .int .i64 i' ∧ i ≤ i' ∧ i' ≤ j + 1 ∧ Sx K dk w1 ∧ Hid (scanUp (fun x => gtK x dk[a]!) dk j i' = scanUp (fun x => gtK x dk[a]!) dk j i)) (fun vi _ => j + 1 - (intOf vi).toNat)
                case atStart => exact ⟨i, rfl, Nat.le_refl _, hij, S1, rfl⟩
                case round =>
                  clear S1
                  obtain ⟨i', rfl, hii, hij', S2, hsc⟩ := hrel
                  have r2 := S2.r
                  by_cases hle : i' ≤ j
                  · cases hlv : gtK dk[i']! dk[a]! with
                    | true =>
                      have hl := less_x K dk i' a (by omega) (by omega) i' a rfl rfl true hlv
                      go_wp2_with (go_at_call 264; refine (hl _ (by assumption)).mono ?_; rintro e w' ⟨rfl, Sq, rq, Gq⟩)
                      go_roundw
                      case rel => exact ⟨i' + 1, by go_num, by omega, by omega, Sq, (show Hid _ from (scanUp_go (fun x => gtK x dk[a]!) dk j i' hle (by simp [hlv])).symm.trans hsc.out)⟩
                      case measure => simp [intOf]; omega
                    | false =>
                      have hl := less_x K dk i' a (by omega) (by omega) i' a rfl rfl false hlv
                      have hi2 : Hid (i' = scanUp (fun x => gtK x dk[a]!) dk j i) := (scanUp_end (fun x => gtK x dk[a]!) dk j i' (Or.inr (by simp [hlv]))).symm.trans hsc.out
                      go_wp2_with (go_at_call 264; refine (hl _ (by assumption)).mono ?_; rintro e w' ⟨rfl, Sq, rq, Gq⟩)
                      clear hsc hl
                      -- THE DOWNWARD SCAN
                      go_loopw [11] (fun vj w2 => ∃ (j' : Nat), vj = .int .i64 j' ∧ j' ≤ j ∧ i' ≤ j' + 1 ∧ Sx K dk w2 ∧ Hid (scanDown (fun x => !gtK x dk[a]!) dk i' j' = scanDown (fun x => !gtK x dk[a]!) dk i' j)) (fun vj _ => (intOf vj).toNat)
                      case atStart => exact ⟨j, rfl, Nat.le_refl _, hij', Sq, rfl⟩
                      case round =>
                        clear Sq rq Gq S2 r2
                        obtain ⟨j', rfl, hjj, hij2, S3, hsd⟩ := hrel
                        have r3 := S3.r
                        by_cases hle2 : i' ≤ j'
                        · cases hlv2 : gtK dk[j']! dk[a]! with
                          | false =>
                            have hl := less_x K dk j' a (by omega) (by omega) j' a rfl rfl false hlv2
                            go_wp2_with (go_at_call 264; refine (hl _ (by assumption)).mono ?_; rintro e w' ⟨rfl, Sq, rq, Gq⟩)
                            go_roundw
                            case rel => exact ⟨j' - 1, by go_num, by omega, by omega, Sq, (show Hid _ from (scanDown_go (fun x => !gtK x dk[a]!) dk i' j' hle2 (by omega) (by simp [hlv2])).symm.trans hsd.out)⟩
                            case measure => simp [intOf]; omega
                          | true =>
                            have hl := less_x K dk j' a (by omega) (by omega) j' a rfl rfl true hlv2
                            have hj2 : Hid (j' = scanDown (fun x => !gtK x dk[a]!) dk i' j) := (scanDown_end (fun x => !gtK x dk[a]!) dk i' j' (Or.inr (by simp [hlv2]))).symm.trans hsd.out
                            have hlt3 := part_scans_lt gtK a i j dk (by omega) hi2.out hj2.out hle2
                            have hs := swap_x K dk i' j' (by omega) (by omega) i' j' rfl rfl
                            clear hsd
                            go_wp2_with (first | (go_at_call 264; refine (hl _ (by assumption)).mono ?_; rintro e w' ⟨rfl, Sq, rq, Gq⟩) | (go_at_call 247; refine (hs _ (by assumption)).mono ?_; rintro e w' ⟨rfl, Su, ru, _⟩))
                            go_roundw
                            case rel => exact ⟨i' + 1, j' - 1, swp dk i' j', by go_num, by go_num, by omega, by omega, by omega, Su, (show Hid _ from by rw [← AE.out]; exact (part_go gtK a i j dk hi2.out hj2.out (by omega)).symm)⟩
                            case measure => simp [intOf]; omega
                        · -- it stops: i > j
                          have hj2 : Hid (j' = scanDown (fun x => !gtK x dk[a]!) dk i' j) := (scanDown_end (fun x => !gtK x dk[a]!) dk i' j' (Or.inl hle2)).symm.trans hsd.out
                          have hs := swap_x K dk j' a (by omega) (by omega) j' a rfl rfl
                          clear hsd
                          go_wp2_with (go_at_call 247; refine (hs _ (by assumption)).mono ?_; rintro e w' ⟨rfl, Su, ru, _⟩)
                          go_ret2
                          have e := part_break gtK a i j dk hi2.out hj2.out (by omega)
                          rw [PF.out, ← AE.out, e]
                          exact ⟨rfl, Su⟩
                  · -- it stops: i > j
                    have hi2 : Hid (i' = scanUp (fun x => gtK x dk[a]!) dk j i) := (scanUp_end (fun x => gtK x dk[a]!) dk j i' (Or.inl hle)).symm.trans hsc.out
                    go_wp2
                    clear hsc
                    -- THE DOWNWARD SCAN
                    go_loopw [11] (fun vj w2 => ∃ (j' : Nat), vj = .int .i64 j' ∧ j' ≤ j ∧ i' ≤ j' + 1 ∧ Sx K dk w2 ∧ Hid (scanDown (fun x => !gtK x dk[a]!) dk i' j' = scanDown (fun x => !gtK x dk[a]!) dk i' j)) (fun vj _ => (intOf vj).toNat)
                    case atStart => exact ⟨j, rfl, Nat.le_refl _, hij', S2, rfl⟩
                    case round =>
                      clear S2 r2
                      obtain ⟨j', rfl, hjj, hij2, S3, hsd⟩ := hrel
                      have r3 := S3.r
                      by_cases hle2 : i' ≤ j'
                      · exfalso; omega
                      · have hj2 : Hid (j' = scanDown (fun x => !gtK x dk[a]!) dk i' j) := (scanDown_end (fun x => !gtK x dk[a]!) dk i' j' (Or.inl hle2)).symm.trans hsd.out
                        have hs := swap_x K dk j' a (by omega) (by omega) j' a rfl rfl
                        clear hsd
                        go_wp2_with (go_at_call 247; refine (hs _ (by assumption)).mono ?_; rintro e w' ⟨rfl, Su, ru, _⟩)
                        go_ret2
                        have e := part_break gtK a i j dk hi2.out hj2.out (by omega)
                        rw [PF.out, ← AE.out, e]
                        exact ⟨rfl, Su⟩
          · -- it stops: i > j
            have hj2 : Hid (j' = scanDown (fun x => !gtK x dk[a]!) dk i' j) := (scanDown_end (fun x => !gtK x dk[a]!) dk i' j' (Or.inl hle2)).symm.trans hsd.out
            have hs := swap_x K dk j' a (by omega) (by omega) j' a rfl rfl
            clear hsd
            go_wp2_with (go_at_call 247; refine (hs _ (by assumption)).mono ?_; rintro e w' ⟨rfl, Su, ru, _⟩)
            go_ret2
            have e := part_first_break gtK d a b pivot Hi.out Hj.out Hdk.out hi2.out hj2.out (by omega)
            rw [e]
            exact ⟨rfl, Su⟩
    · -- it stops: i > j
      have hi2 : Hid (i' = scanUp (fun x => gtK x dk[a]!) dk j i) := (scanUp_end (fun x => gtK x dk[a]!) dk j i' (Or.inl hle)).symm.trans hsc.out
      go_wp2
      clear hsc
      -- THE DOWNWARD SCAN
      go_loopw [11] (fun vj w2 => ∃ (j' : Nat), vj = .int .i64 j' ∧ j' ≤ j ∧ i' ≤ j' + 1 ∧ Sx K dk w2 ∧ Hid (scanDown (fun x => !gtK x dk[a]!) dk i' j' = scanDown (fun x => !gtK x dk[a]!) dk i' j)) (fun vj _ => (intOf vj).toNat)
      case atStart => exact ⟨j, rfl, Nat.le_refl _, hij', S2, rfl⟩
      case round =>
        clear S2 r2
        obtain ⟨j', rfl, hjj, hij2, S3, hsd⟩ := hrel
        have r3 := S3.r
        by_cases hle2 : i' ≤ j'
        · exfalso; omega
        · have hj2 : Hid (j' = scanDown (fun x => !gtK x dk[a]!) dk i' j) := (scanDown_end (fun x => !gtK x dk[a]!) dk i' j' (Or.inl hle2)).symm.trans hsd.out
          have hs := swap_x K dk j' a (by omega) (by omega) j' a rfl rfl
          clear hsd
          go_wp2_with (go_at_call 247; refine (hs _ (by assumption)).mono ?_; rintro e w' ⟨rfl, Su, ru, _⟩)
          go_ret2
          have e := part_first_break gtK d a b pivot Hi.out Hj.out Hdk.out hi2.out hj2.out (by omega)
          rw [e]
          exact ⟨rfl, Su⟩

end Go.Proofs.YtojicbajcebjjaaGreatDoor
