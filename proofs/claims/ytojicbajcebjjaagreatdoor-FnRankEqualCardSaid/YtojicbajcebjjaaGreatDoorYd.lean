/-
  sort.insertionSort, reverseRange, siftDown, heapSort over sort.Reverse(sort.Float64Slice(..)).
-/
import Derived.Test.YtojicbajcebjjaaGreatDoorYc
import Derived.Sort.WalkB3
namespace Go.Proofs.YtojicbajcebjjaaGreatDoor
open Go.RowKit Go.Sort Go.Lib

set_option maxHeartbeats 2000000 in
set_option maxRecDepth 100000 in
theorem ins_x (K : Cx) (a b : Nat) (d : Array FK) (w : World) (S0 : Sx K d w) (hab : a ≤ b) (hb : b ≤ K.size) :
    Calls Tryz.prog 149 #[(.iface 153 (.pointer (some ⟨K.RB, 0, none⟩))), .int .i64 a, .int .i64 b] w fun e w' => e = .returned (.tuple #[]) ∧ Sx K (Sort.insertionSort gtK d a b) w' := by
  have mL := K.mL; have mS := K.mS
  have hsz := K.hsz
  go_enter Tryz.func149, Tryz.ntmps149
  go_wp2
  go_loopw [6] (fun vi wr => ∃ (i : Nat) (dk : Array FK), vi = .int .i64 i ∧ a < i ∧ i ≤ b + 1 ∧ Sx K dk wr ∧ Hid (insOuter gtK a b i dk = insOuter gtK a b (a + 1) d)) (fun vi _ => b + 1 - (intOf vi).toNat)
  case atStart => exact ⟨a + 1, d, by go_num, by omega, by omega, S0, rfl⟩
  case round =>
    obtain ⟨i, dk, rfl, hai, hib, S1, HO⟩ := hrel
    go_wp2
    · -- i < b: the inner loop
      go_loopw [7] (fun vj wr2 => ∃ (j : Nat) (dj : Array FK), vj = .int .i64 j ∧ a ≤ j ∧ j ≤ i ∧ Sx K dj wr2 ∧ Hid (insInner gtK a j dj = insInner gtK a i dk)) (fun vj _ => (intOf vj).toNat)
      case atStart => exact ⟨i, dk, rfl, by omega, Nat.le_refl _, S1, rfl⟩
      case round =>
        clear S1
        obtain ⟨j, dj, rfl, haj, hji, S, HI⟩ := hrel
        have r := S.r
        have hlt : i < b := by assumption
        have out : (j ≤ a ∨ gtK dj[j]! dj[j - 1]! = false) → ∀ X, Sx K dj X → ∃ i' dk', Value.int .i64 ((i : Int) + 1) = .int .i64 (i' : Nat) ∧ a < i' ∧ i' ≤ b + 1 ∧ Sx K dk' X ∧ Hid (insOuter gtK a b i' dk' = insOuter gtK a b (a + 1) d) := fun hs X hX =>
          ⟨i + 1, dj, by go_num, by omega, by omega, hX, (show Hid _ from by rw [← HO.out, insOuter_go _ _ _ _ _ hlt, ← HI.out, insInner_stop _ _ _ _ hs]; exact rfl)⟩
        have OUT : Hid _ := out
        clear out
        by_cases hja : a < j
        · cases hlv : gtK dj[j]! dj[j - 1]! with
          | true =>
            have hl := less_x K dj j (j - 1) (by omega) (by omega) j ((j : Int) - 1) rfl (by omega) true hlv
            have hs := swap_x K dj j (j - 1) (by omega) (by omega) j ((j : Int) - 1) rfl (by omega)
            go_wp2_with (first | (go_at_call 264; refine (hl _ (by assumption)).mono ?_; rintro e w' ⟨rfl, Sq, rq, Gq⟩) | (go_at_call 247; refine (hs _ (by assumption)).mono ?_; rintro e w' ⟨rfl, Su, ru, _⟩))
            go_roundw
            case rel =>
              (repeat apply Exists.intro)
              refine ⟨⟨j - 1, swp dj j (j - 1), by congr 1 <;> omega, by omega, by omega, Su, (show Hid _ from by rw [← HI.out, insInner_go gtK a j dj hja hlv]; exact rfl)⟩, by rw [decide_eq_true hlt, show ((j - 1 : Nat) : Int) = (j : Int) - 1 by omega]⟩
            case measure => simp [intOf]; omega
          | false =>
            have hl := less_x K dj j (j - 1) (by omega) (by omega) j ((j : Int) - 1) rfl (by omega) false hlv
            go_wp2_with (go_at_call 264; refine (hl _ (by assumption)).mono ?_; rintro e w' ⟨rfl, Sq, rq, Gq⟩)
            go_roundw
            case rel => exact OUT.out (Or.inr hlv) _ Sq
            case measure => simp [intOf]; omega
        · go_wp2
          go_roundw
          case rel => exact OUT.out (Or.inl (by omega)) _ S
          case measure => simp [intOf]; omega
    · -- the outer loop is at its end
      have hge : ¬ i < b := by assumption
      go_end0
      exact ⟨rfl, by unfold Sort.insertionSort; rw [← HO.out, insOuter_stop _ _ _ _ _ hge]; exact S1⟩

set_option maxHeartbeats 1600000 in
set_option maxRecDepth 1000000 in
theorem rev_x (K : Cx) (a b : Nat) (d : Array FK) (w : World) (S0 : Sx K d w) (hab : a ≤ b) (hb : b ≤ K.size) :
    Calls Tryz.prog 153 #[(.iface 153 (.pointer (some ⟨K.RB, 0, none⟩))), .int .i64 a, .int .i64 b] w fun e w' => e = .returned (.tuple #[]) ∧ Sx K (reverseRange d a b) w' := by
  have mS := K.mS
  have hsz := K.hsz
  go_enter Tryz.func153, Tryz.ntmps153
  go_wp2
  go_loopg [6, 7] (b - a) (fun k s6 s7 wr => ∃ (i jn : Nat) (jz : Int) (dk : Array FK), s6 = .int .i64 i ∧ s7 = .int .i64 jz ∧ ((i : Int) < jz → jz = jn ∧ jn < K.size) ∧ (¬ (i : Int) < jz → ¬ i < jn) ∧ jn - i ≤ k ∧
    Sx K dk wr ∧ Hid (reverseLoop i jn dk = reverseLoop a (b - 1) d))
  case atStart => exact ⟨a, b - 1, (b : Int) - 1, d, rfl, rfl, fun h => ⟨by omega, by omega⟩, fun h => by omega, by omega, S0, rfl⟩
  case round =>
    obtain ⟨i, jn, jz, dk, rfl, rfl, h1, h2, hk, S, HE⟩ := hrel
    have r := S.r
    by_cases hlt : (i : Int) < jz
    · obtain ⟨rfl, hjn⟩ := h1 hlt
      have hij : i < jn := by omega
      have hs := swap_x K dk i jn (by omega) (by omega) i jn rfl rfl
      clear h1 h2
      go_wp2_with (go_at_call 247; refine (hs _ (by assumption)).mono ?_; rintro e w' ⟨rfl, Su, ru, _⟩)
      go_roundg (jn - 1 - (i + 1))
      case measure => omega
      case rel =>
        exact ⟨i + 1, jn - 1, (jn : Int) - 1, swp dk i jn, by simp, rfl, fun h => ⟨by omega, by omega⟩, fun h => by omega, Nat.le_refl _, Su, (show Hid _ from by rw [← HE.out, reverseLoop.eq_def i jn dk, if_pos hij]; exact rfl)⟩
    · have hnot := h2 hlt
      go_wp2
      go_end0
      refine ⟨rfl, ?_⟩
      have heq := HE.out
      rw [reverseLoop, if_neg hnot] at heq
      rw [reverseRange, ← heq]
      exact S

set_option maxHeartbeats 4000000 in
set_option maxRecDepth 1000000 in
theorem sift_x (K : Cx) (lo hi first : Nat) (d : Array FK) (w : World) (S0 : Sx K d w) (hlo : lo ≤ hi) (hb : first + hi ≤ K.size) :
    Calls Tryz.prog 181 #[(.iface 153 (.pointer (some ⟨K.RB, 0, none⟩))), .int .i64 lo, .int .i64 hi, .int .i64 first] w fun e w' => e = .returned (.tuple #[]) ∧ Sx K (siftDown gtK hi first lo d) w' := by
  have mL := K.mL; have mS := K.mS
  have hsz := K.hsz
  go_enter Tryz.func181, Tryz.ntmps181
  go_wp2
  go_loopg [8] (hi - lo) (fun kx s8 wr => ∃ (root : Nat) (dk : Array FK), s8 = .int .i64 root ∧ root ≤ hi ∧ hi - root ≤ kx ∧ Sx K dk wr ∧ Hid (siftDown gtK hi first root dk = siftDown gtK hi first lo d))
  case atStart => exact ⟨lo, d, rfl, hlo, Nat.le_refl _, S0, rfl⟩
  case round =>
    obtain ⟨root, dk, rfl, hr, hkx, S, HE⟩ := hrel
    have r := S.r
    by_cases h0 : hi ≤ 2 * root + 1
    · -- no child: the loop is left
      have h0z : (hi : Int) ≤ 2 * (root : Int) + 1 := by omega
      go_wp2
      go_end0
      exact ⟨rfl, by rw [← HE.out, sd_end gtK dk h0]; exact S⟩
    · have h0z : ¬ ((hi : Int) ≤ 2 * (root : Int) + 1) := by omega
      by_cases h1 : 2 * root + 2 < hi
      · have h1z : 2 * (root : Int) + 1 + 1 < (hi : Int) := by omega
        cases hL : gtK dk[first + (2 * root + 1)]! dk[first + (2 * root + 2)]! with
        | true =>
          have hl1 := less_x K dk (first + (2 * root + 1)) (first + (2 * root + 2)) (by omega) (by omega) ((first : Int) + (2 * (root : Int) + 1)) ((first : Int) + (2 * (root : Int) + 1) + 1) (by omega) (by omega) true hL
          cases hG : gtK dk[first + root]! dk[first + (2 * root + 2)]! with
          | true =>
            have hl2 := less_x K dk (first + root) (first + (2 * root + 2)) (by omega) (by omega) ((first : Int) + (root : Int)) ((first : Int) + (2 * (root : Int) + 1 + 1)) (by omega) (by omega) true hG
            have hs := swap_x K dk (first + root) (first + (2 * root + 2)) (by omega) (by omega) ((first : Int) + (root : Int)) ((first : Int) + (2 * (root : Int) + 1 + 1)) (by omega) (by omega)
            go_wp2_with (first | (go_at_call 264; with_reducible refine (hl1 _ (by assumption)).mono ?_; rintro e w' ⟨rfl, Sq, rq, Gq⟩) | (go_at_call 264; refine (hl2 _ (by assumption)).mono ?_; rintro e w' ⟨rfl, Sp, rp, Gp⟩) | (go_at_call 247; refine (hs _ (by assumption)).mono ?_; rintro e w' ⟨rfl, Su, ru, _⟩))
            go_roundg (hi - (2 * root + 2))
            case measure => omega
            case rel => exact ⟨2 * root + 2, swp dk (first + root) (first + (2 * root + 2)), by go_num, by omega, Nat.le_refl _, Su, (show Hid _ from by rw [← HE.out, sd_right_go gtK dk h1 hL hG]; exact rfl)⟩
          | false =>
            have hl2 := less_x K dk (first + root) (first + (2 * root + 2)) (by omega) (by omega) ((first : Int) + (root : Int)) ((first : Int) + (2 * (root : Int) + 1 + 1)) (by omega) (by omega) false hG
            go_wp2_with (first | (go_at_call 264; with_reducible refine (hl1 _ (by assumption)).mono ?_; rintro e w' ⟨rfl, Sq, rq, Gq⟩) | (go_at_call 264; refine (hl2 _ (by assumption)).mono ?_; rintro e w' ⟨rfl, Sp, rp, Gp⟩))
            (try simp only [Exit.inBlock, Exit.then]); refine bodyPost_ret (results_none rfl _ _ _) rfl ?_
            exact ⟨rfl, by rw [← HE.out, sd_right_stop gtK dk h1 hL hG]; exact Sp⟩
        | false =>
          have hl1 := less_x K dk (first + (2 * root + 1)) (first + (2 * root + 2)) (by omega) (by omega) ((first : Int) + (2 * (root : Int) + 1)) ((first : Int) + (2 * (root : Int) + 1) + 1) (by omega) (by omega) false hL
          cases hG : gtK dk[first + root]! dk[first + (2 * root + 1)]! with
          | true =>
            have hl2 := less_x K dk (first + root) (first + (2 * root + 1)) (by omega) (by omega) ((first : Int) + (root : Int)) ((first : Int) + (2 * (root : Int) + 1)) (by omega) (by omega) true hG
            have hs := swap_x K dk (first + root) (first + (2 * root + 1)) (by omega) (by omega) ((first : Int) + (root : Int)) ((first : Int) + (2 * (root : Int) + 1)) (by omega) (by omega)
            go_wp2_with (first | (go_at_call 264; with_reducible refine (hl1 _ (by assumption)).mono ?_; rintro e w' ⟨rfl, Sq, rq, Gq⟩) | (go_at_call 264; refine (hl2 _ (by assumption)).mono ?_; rintro e w' ⟨rfl, Sp, rp, Gp⟩) | (go_at_call 247; refine (hs _ (by assumption)).mono ?_; rintro e w' ⟨rfl, Su, ru, _⟩))
            go_roundg (hi - (2 * root + 1))
            case measure => omega
            case rel => exact ⟨2 * root + 1, swp dk (first + root) (first + (2 * root + 1)), by go_num, by omega, Nat.le_refl _, Su, (show Hid _ from by rw [← HE.out, sd_left_go gtK dk (by omega) (fun _ => hL) hG]; exact rfl)⟩
          | false =>
            have hl2 := less_x K dk (first + root) (first + (2 * root + 1)) (by omega) (by omega) ((first : Int) + (root : Int)) ((first : Int) + (2 * (root : Int) + 1)) (by omega) (by omega) false hG
            go_wp2_with (first | (go_at_call 264; with_reducible refine (hl1 _ (by assumption)).mono ?_; rintro e w' ⟨rfl, Sq, rq, Gq⟩) | (go_at_call 264; refine (hl2 _ (by assumption)).mono ?_; rintro e w' ⟨rfl, Sp, rp, Gp⟩))
            (try simp only [Exit.inBlock, Exit.then]); refine bodyPost_ret (results_none rfl _ _ _) rfl ?_
            exact ⟨rfl, by rw [← HE.out, sd_left_stop gtK dk (by omega) (fun _ => hL) hG]; exact Sp⟩
      · -- no right child
        have h1z : ¬ (2 * (root : Int) + 1 + 1 < (hi : Int)) := by omega
        cases hG : gtK dk[first + root]! dk[first + (2 * root + 1)]! with
        | true =>
          have hl2 := less_x K dk (first + root) (first + (2 * root + 1)) (by omega) (by omega) ((first : Int) + (root : Int)) ((first : Int) + (2 * (root : Int) + 1)) (by omega) (by omega) true hG
          have hs := swap_x K dk (first + root) (first + (2 * root + 1)) (by omega) (by omega) ((first : Int) + (root : Int)) ((first : Int) + (2 * (root : Int) + 1)) (by omega) (by omega)
          go_wp2_with (first | (go_at_call 264; refine (hl2 _ (by assumption)).mono ?_; rintro e w' ⟨rfl, Sp, rp, Gp⟩) | (go_at_call 247; refine (hs _ (by assumption)).mono ?_; rintro e w' ⟨rfl, Su, ru, _⟩))
          go_roundg (hi - (2 * root + 1))
          case measure => omega
          case rel => exact ⟨2 * root + 1, swp dk (first + root) (first + (2 * root + 1)), by go_num, by omega, Nat.le_refl _, Su, (show Hid _ from by rw [← HE.out, sd_left_go gtK dk (by omega) (fun h => absurd h h1) hG]; exact rfl)⟩
        | false =>
          have hl2 := less_x K dk (first + root) (first + (2 * root + 1)) (by omega) (by omega) ((first : Int) + (root : Int)) ((first : Int) + (2 * (root : Int) + 1)) (by omega) (by omega) false hG
          go_wp2_with (go_at_call 264; refine (hl2 _ (by assumption)).mono ?_; rintro e w' ⟨rfl, Sp, rp, Gp⟩)
          (try simp only [Exit.inBlock, Exit.then]); refine bodyPost_ret (results_none rfl _ _ _) rfl ?_
          exact ⟨rfl, by rw [← HE.out, sd_left_stop gtK dk (by omega) (fun h => absurd h h1) hG]; exact Sp⟩

set_option maxHeartbeats 4000000 in
set_option maxRecDepth 1000000 in
theorem heap_x (K : Cx) (a b : Nat) (d : Array FK) (w : World) (S0 : Sx K d w) (hab : a ≤ b) (hb : b ≤ K.size) :
    Calls Tryz.prog 150 #[(.iface 153 (.pointer (some ⟨K.RB, 0, none⟩))), .int .i64 a, .int .i64 b] w fun e w' => e = .returned (.tuple #[]) ∧ Sx K (heapSort gtK d a b) w' := by
  have mS := K.mS
  have hsz := K.hsz
  have ecast : ((b - a : Nat) : Int) = (b : Int) - (a : Int) := by omega
  go_enter Tryz.func150, Tryz.ntmps150
  go_wp2
  go_loopg [9] ((b - a - 1) / 2 + 1) (fun kx s9 wr => s9 = .int .i64 ((kx : Int) - 1) ∧ kx ≤ (b - a - 1) / 2 + 1 ∧ ∃ (dk : Array FK), Sx K dk wr ∧
    Hid (heapBuild gtK (b - a) a kx dk = heapBuild gtK (b - a) a ((b - a - 1) / 2 + 1) d))
  case atStart => exact ⟨by rw [half_start hab], Nat.le_refl _, d, S0, rfl⟩
  case round =>
    obtain ⟨rfl, hkk, dk, S, HE⟩ := hrel
    have r := S.r
    cases gk with
    | zero =>
      -- THE HEAP IS BUILT; NOW THE GREATEST IS TAKEN OFF, TIME AND AGAIN
      have hB : dk = heapBuild gtK (b - a) a ((b - a - 1) / 2 + 1) d := HE.out
      clear HE hkk
      go_wp2
      go_loopg [10] (b - a) (fun kx s10 wr2 => s10 = .int .i64 ((kx : Int) - 1) ∧ kx ≤ b - a ∧ ∃ (dj : Array FK), Sx K dj wr2 ∧ Hid (heapPop gtK a kx dj = heapPop gtK a (b - a) dk))
      case atStart => exact ⟨by rw [ecast], Nat.le_refl _, dk, S, rfl⟩
      case round =>
        clear S r
        obtain ⟨rfl, hkk, dj, S, HE2⟩ := hrel
        have r := S.r
        cases gk with
        | zero =>
          go_wp2
          go_end0
          have e : dj = heapSort gtK d a b := by rw [heapSort, ← hB, ← HE2.out]; rfl
          rw [← e]
          exact ⟨rfl, S⟩
        | succ kx =>
          -- 'data.Swap(first, first+i)'; 'siftDown(data, lo, i, first)'
          have hs := swap_x K dj a (a + kx) (by omega) (by omega) a ((a : Int) + (kx : Int)) rfl (by omega)
          have hcall := fun X (hX : Sx K (swp dj a (a + kx)) X) => sift_x K 0 kx a (swp dj a (a + kx)) X hX (Nat.zero_le _) (by omega)
          go_wp2_with (first | (go_at_call 247; refine (hs _ (by assumption)).mono ?_; rintro e w' ⟨rfl, Su, ru, _⟩) | (go_at_call 181; refine (hcall _ (by assumption)).mono ?_; rintro e w' ⟨rfl, Sv⟩))
          go_roundg kx
          case measure => omega
          case rel => exact ⟨by simp, by omega, siftDown gtK kx a 0 (swp dj a (a + kx)), Sv, HE2⟩
    | succ kx =>
      have hcall := fun X (hX : Sx K dk X) => sift_x K kx (b - a) a dk X hX (by omega) (by omega)
      rw [ecast] at hcall
      go_wp2_with (go_at_call 181; refine (hcall _ (by assumption)).mono ?_; rintro e w' ⟨rfl, Sv⟩)
      go_roundg kx
      case measure => omega
      case rel => exact ⟨by simp, by omega, siftDown gtK (b - a) a kx dk, Sv, HE⟩

end Go.Proofs.YtojicbajcebjjaaGreatDoor
