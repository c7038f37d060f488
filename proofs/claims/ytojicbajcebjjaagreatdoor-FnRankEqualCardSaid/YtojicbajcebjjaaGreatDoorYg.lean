/-
  sort.breakPatterns, order2, median, medianAdjacent, choosePivot over sort.Reverse(sort.Float64Slice(..)).
-/
import Derived.Test.YtojicbajcebjjaaGreatDoorYc
import Derived.Test.YtojicbajcebjjaaGreatDoorZh
import Derived.Sort.Walk7
import Derived.Sort.Walk11
import Derived.Shelf.GgSortFunc.Pivot
namespace Go.Proofs.YtojicbajcebjjaaGreatDoor
open Go.RowKit Go.Sort Go.Lib
theorem xorshift_S (rb ro X : Nat) (hX : X < 18446744073709551616) (w : World) (hc : w.cell? ⟨rb, ro, none⟩ = some (.int .u64 X)) (hf : w.frozen? ⟨rb, ro, none⟩ = false) :
    Calls Tryz.prog 183 #[.pointer (some ⟨rb, ro, none⟩)] w fun e w' => e = .returned (.int .u64 (xorNextN X : Nat)) ∧ w' = (w.setCell ⟨rb, ro, none⟩ (.int .u64 (xorNextN X : Nat))).drewN 3 := by
  -- the three numbers under names of their own; an equation a step, in the walk's own spelling
  obtain ⟨A, hA⟩ : ∃ A : Nat, A = X ^^^ (X * 8192 % 18446744073709551616) := ⟨_, rfl⟩
  obtain ⟨B, hB⟩ : ∃ B : Nat, B = A ^^^ (A / 128) := ⟨_, rfl⟩
  obtain ⟨C, hC⟩ : ∃ C : Nat, C = B ^^^ (B * 131072 % 18446744073709551616) := ⟨_, rfl⟩
  have lA : A < 18446744073709551616 := by rw [hA]; exact Nat.xor_lt_two_pow (n := 64) (by omega) (by omega)
  have lB : B < 18446744073709551616 := by rw [hB]; exact Nat.xor_lt_two_pow (n := 64) (by omega) (by omega)
  have e1 : bits .xor .u64 (X : Int) (IntKind.u64.wrap ((X : Int) * 8192)) = (A : Int) := by
    rw [IntKind.wrap_u64, show ((X : Int) * 8192 % 18446744073709551616) = ((X * 8192 % 18446744073709551616 : Nat) : Int) by omega, bits_xor_u64_nat _ _ hX (by omega), hA]
  have e2 : bits .xor .u64 (A : Int) ((A : Int) / 128) = (B : Int) := by
    rw [show ((A : Int) / 128) = ((A / 128 : Nat) : Int) by omega, bits_xor_u64_nat _ _ lA (by omega), hB]
  have e3 : bits .xor .u64 (B : Int) (IntKind.u64.wrap ((B : Int) * 131072)) = (C : Int) := by
    rw [IntKind.wrap_u64, show ((B : Int) * 131072 % 18446744073709551616) = ((B * 131072 % 18446744073709551616 : Nat) : Int) by omega, bits_xor_u64_nat _ _ lB (by omega), hC]
  have hv : xorNextN X = C := by unfold xorNextN; simp only []; rw [← hA, ← hB, ← hC]
  rw [hv]
  clear hA hB hC hv
  -- the stores are not let pile up: behind three of them the last load stood still
  have hss : ∀ v v', (w.setCell ⟨rb, ro, none⟩ v).setCell ⟨rb, ro, none⟩ v' = w.setCell ⟨rb, ro, none⟩ v' := setCell_setCell w rb ro
  go_enter Tryz.func183, Tryz.ntmps183
  go_wp2
  go_region
  all_goals go_wp2
  all_goals go_region
  all_goals go_wp2
  all_goals go_region
  all_goals go_wp2
  go_ret
  exact ⟨rfl, rfl⟩

theorem nextPow_S (n : Nat) (hn : n < 4611686018427387904) (w : World) :
    Calls Tryz.prog 182 #[.int .i64 n] w fun e w' => e = .returned (.int .u64 ((1 <<< bitsLen n : Nat) : Int)) ∧ w' = w := by
  have hLen : ∀ w, Calls Tryz.prog 136 #[.int .u64 (n : Int)] w fun e w' => e = .returned (.int .i64 (bitsLen n : Nat)) ∧ w' = w := fun w => by
    have h := bits_Len (n : Int) w (by omega) (by omega)
    rwa [Int.toNat_natCast, bitLen_eq _ (by omega)] at h
  have hk : bitsLen n ≤ 62 := (bitsLen_le_iff n 62).2 (by omega)
  have hp := wrap_two_pow (bitsLen n) hk
  go_enter Tryz.func182, Tryz.ntmps182
  go_wp2_with (first | (go_at_call 136; refine (hLen _).mono ?_; rintro e w' ⟨rfl, rfl⟩))
  go_ret
  exact ⟨rfl, rfl⟩
theorem swap_y (K : Cx) (d : Array FK) (i j : Nat) (hi : i < K.size) (hj : j < K.size) (x y : Int) (hx : x = i) (hy : y = j) (W : World) (S : Sx K d W) :
    Calls Tryz.prog 247 #[K.SL, .int .i64 x, .int .i64 y] W fun e w' => e = .returned (.tuple #[]) ∧ Sx K (swp d i j) w' ∧ Rx K w' ∧ ∀ b o, b ≠ K.blk → w'.cell? ⟨b, o, none⟩ = W.cell? ⟨b, o, none⟩ ∧ w'.frozen? ⟨b, o, none⟩ = W.frozen? ⟨b, o, none⟩ := by
  subst hx hy
  have hs := S.2
  refine (swap_M K.blk K.off K.c K.size K.hsz W d S.holds S.2 i j hi hj).mono ?_
  rintro e w' ⟨rfl, q, rfl⟩
  have S2 : Sx K (swp d i j) (((W.setCell ⟨K.blk, K.off + i, none⟩ (encK d[j]!)).setCell ⟨K.blk, K.off + j, none⟩ (encK d[i]!)).drewN q) := ⟨(S.1.swap K.hblk i j (by omega) (by omega)).drewN q, by rw [size_swp]; exact hs⟩
  refine ⟨rfl, S2, S2.r, fun b o hb => ⟨?_, by simp⟩⟩
  have o0 : ∀ p, (⟨K.blk, p, none⟩ : Addr) ≠ ⟨b, o, none⟩ := fun p e => by simp only [Addr.mk.injEq, and_true] at e; omega
  rw [World.cell?_drewN, World.cell?_setCell_other _ _ _ _ (o0 _), World.cell?_setCell_other _ _ _ _ (o0 _)]

set_option maxHeartbeats 4000000 in
set_option maxRecDepth 1000000 in
/-- The arm 'length >= 8', b written as a + L. -/
theorem brk_go (K : Cx) (a L : Nat) (d : Array FK) (w : World) (S0 : Sx K d w) (hb : a + L ≤ K.size) (h8 : 8 ≤ L) :
    Calls Tryz.prog 151 #[(.iface 153 (.pointer (some ⟨K.RB, 0, none⟩))), .int .i64 a, .int .i64 ((a + L : Nat) : Int)] w fun e w' => e = .returned (.tuple #[]) ∧ Sx K (breakPatterns d a (a + L)) w' := by
  have mS := K.mS
  have hsz := K.hsz
  rw [breakPatterns_eq d a L h8]
  obtain ⟨M, hM⟩ : ∃ M : Nat, M = 1 <<< bitsLen L := ⟨_, rfl⟩
  have hM1 : 1 ≤ M := by rw [hM, Nat.one_shiftLeft]; exact Nat.two_pow_pos _
  have hM2 : M ≤ 2 * L := by rw [hM, Nat.one_shiftLeft]; exact two_pow_bitsLen_le (by omega)
  have hNP : ∀ w, Calls Tryz.prog 182 #[.int .i64 (L : Int)] w fun e w' => e = .returned (.int .u64 (M : Int)) ∧ w' = w := by rw [hM]; exact fun w => nextPow_S L (by omega) w
  rw [← hM]
  clear hM
  have hLz : ((a : Int) + (L : Int) - (a : Int)) = (L : Int) := by omega
  have h8z : (8 : Int) ≤ (L : Int) := by omega
  have hge := S0.le
  have hne : w.heap.size ≠ K.blk := by have := K.hblk; omega
  go_enter Tryz.func151, Tryz.ntmps151
  go_wp2_with (first | (go_at_call 182; refine (hNP _).mono ?_; rintro e w' ⟨rfl, rfl⟩))
  go_loopg [9] 3 (fun g1 vi wr => ∃ (t : Nat) (r : UInt64) (dk : Array FK), vi = .int .i64 ((a : Int) + (L : Int) / 4 * 2 - 1 + (t : Int)) ∧ t ≤ 3 ∧ 3 - t ≤ g1 ∧ Sx K dk wr ∧
      wr.cell? ⟨w.heap.size, 0, none⟩ = some (.int .u64 (r.toNat : Int)) ∧ wr.frozen? ⟨w.heap.size, 0, none⟩ = false ∧
      Hid (bpRest a L M (a + L / 4 * 2 - 1) (3 - t) t (r, dk) = bpRest a L M (a + L / 4 * 2 - 1) 3 0 (UInt64.ofNat L, d)))
  case atStart =>
    refine ⟨0, UInt64.ofNat L, d, by simp, by omega, by omega, S0.alloc _, ?_, by simp, rfl⟩
    rw [show (UInt64.ofNat L).toNat = L from by simp; omega]
    simp
  case round =>
    clear S0
    obtain ⟨t, r, dk, rfl, ht, hg1, S, cR, fR, HR⟩ := hrel
    by_cases ht3 : t < 3
    · have hle : (a : Int) + (L : Int) / 4 * 2 - 1 + (t : Int) ≤ (a : Int) + (L : Int) / 4 * 2 + 1 := by omega
      -- this round's numbers under names of their own
      obtain ⟨R, hRr⟩ : ∃ R : Nat, R = r.toNat := ⟨_, rfl⟩
      have lR : R < 18446744073709551616 := by rw [hRr]; exact r.toNat_lt
      obtain ⟨R', hR'⟩ : ∃ R' : Nat, R' = xorNextN R := ⟨_, rfl⟩
      have lR' : R' < 18446744073709551616 := by rw [hR']; exact xorNextN_lt R lR
      obtain ⟨O, hO⟩ : ∃ O : Nat, O = R' &&& (M - 1) := ⟨_, rfl⟩
      have lO : O ≤ M - 1 := by rw [hO]; exact Nat.and_le_right
      have eAnd : bits .and .u64 (R' : Int) ((M : Int) - 1) = (O : Int) := by
        rw [show ((M : Int) - 1) = ((M - 1 : Nat) : Int) by omega, bits_and_u64_nat _ _ lR' (by omega), hO]
      rw [← hRr] at cR
      have hNext : Calls Tryz.prog 183 #[.pointer (some ⟨w.heap.size, 0, none⟩)] wr fun e w' => e = .returned (.int .u64 (R' : Int)) ∧ w' = (wr.setCell ⟨w.heap.size, 0, none⟩ (.int .u64 (R' : Int))).drewN 3 := by
        rw [hR']; exact xorshift_S _ _ R lR wr cR fR
      have HN : Hid (R' = (xorNext r).toNat ∧ O = (xorNext r).toNat &&& (M - 1)) := by
        have e : R' = (xorNext r).toNat := by rw [hR', hRr, xorNext_toNat]
        exact ⟨e, by rw [hO, e]⟩
      clear hRr hR' hO
      -- the world behind 'random.Next()'
      have S2 := (S.set w.heap.size 0 (.int .u64 (R' : Int)) hge).drewN 3
      have cR' : ((wr.setCell ⟨w.heap.size, 0, none⟩ (.int .u64 (R' : Int))).drewN 3).cell? ⟨w.heap.size, 0, none⟩ = some (.int .u64 (R' : Int)) := by
        rw [World.cell?_drewN]; exact World.cell?_setCell_same _ _ _ cR
      have fR' : ((wr.setCell ⟨w.heap.size, 0, none⟩ (.int .u64 (R' : Int))).drewN 3).frozen? ⟨w.heap.size, 0, none⟩ = false := by
        rw [World.frozen?_drewN]; simpa using fR
      generalize (wr.setCell ⟨w.heap.size, 0, none⟩ (.int .u64 (R' : Int))).drewN 3 = w2 at hNext S2 cR' fR'
      have r2 := S2.r
      clear cR fR S
      by_cases hLO : L ≤ O
      · -- other >= length: other -= length
        have hLOz : (L : Int) ≤ (O : Int) := by omega
        have hs := swap_y K dk (a + L / 4 * 2 - 1 + t) (a + (O - L)) (by omega) (by omega) ((a : Int) + (L : Int) / 4 * 2 - 1 + (t : Int)) ((a : Int) + ((O : Int) - (L : Int))) (by omega) (by omega) w2 S2
        go_wp2_with (first | (go_at_call 183; refine hNext.mono ?_; rintro e w' ⟨rfl, rfl⟩) | (go_at_call 247; refine hs.mono ?_; rintro e w' ⟨rfl, Su, ru, hk⟩))
        have k1 := (hk w.heap.size 0 hne).1.trans cR'
        have k2 := (hk w.heap.size 0 hne).2.trans fR'
        go_roundg (3 - (t + 1))
        case measure => omega
        case rel => exact ⟨t + 1, xorNext r, swp dk (a + L / 4 * 2 - 1 + t) (a + (O - L)), by congr 1; push_cast; omega, by omega, Nat.le_refl _, Su, by rw [← HN.out.1]; exact k1, k2,
          (show Hid _ from by rw [← HR.out, bp_step a L M _ t r dk (O - L) ht3 (by rw [← HN.out.2, if_pos (by omega)])]; exact rfl)⟩
      · have hLOz : ¬ (L : Int) ≤ (O : Int) := by omega
        have hs := swap_y K dk (a + L / 4 * 2 - 1 + t) (a + O) (by omega) (by omega) ((a : Int) + (L : Int) / 4 * 2 - 1 + (t : Int)) ((a : Int) + (O : Int)) (by omega) (by omega) w2 S2
        go_wp2_with (first | (go_at_call 183; refine hNext.mono ?_; rintro e w' ⟨rfl, rfl⟩) | (go_at_call 247; refine hs.mono ?_; rintro e w' ⟨rfl, Su, ru, hk⟩))
        have k1 := (hk w.heap.size 0 hne).1.trans cR'
        have k2 := (hk w.heap.size 0 hne).2.trans fR'
        go_roundg (3 - (t + 1))
        case measure => omega
        case rel => exact ⟨t + 1, xorNext r, swp dk (a + L / 4 * 2 - 1 + t) (a + O), by congr 1; push_cast; omega, by omega, Nat.le_refl _, Su, by rw [← HN.out.1]; exact k1, k2,
          (show Hid _ from by rw [← HR.out, bp_step a L M _ t r dk O ht3 (by rw [← HN.out.2, if_neg (by omega)])]; exact rfl)⟩
    · -- three rounds are done
      obtain rfl : t = 3 := by omega
      have hle : ¬ ((a : Int) + (L : Int) / 4 * 2 - 1 + ((3 : Nat) : Int) ≤ (a : Int) + (L : Int) / 4 * 2 + 1) := by omega
      go_wp2
      go_end0
      refine ⟨rfl, ?_⟩
      rw [← HR.out]
      exact S

set_option maxHeartbeats 1000000 in
theorem brk_x (K : Cx) (a b : Nat) (d : Array FK) (w : World) (S0 : Sx K d w) (hab : a ≤ b) (hb : b ≤ K.size) :
    Calls Tryz.prog 151 #[(.iface 153 (.pointer (some ⟨K.RB, 0, none⟩))), .int .i64 a, .int .i64 b] w fun e w' => e = .returned (.tuple #[]) ∧ Sx K (breakPatterns d a b) w' := by
  obtain ⟨L, rfl⟩ : ∃ L, b = a + L := ⟨b - a, by omega⟩
  by_cases h8 : 8 ≤ L
  · exact brk_go K a L d w S0 hb h8
  · have hv : breakPatterns d a (a + L) = d := by unfold breakPatterns; simp only [Nat.add_sub_cancel_left]; rw [if_neg h8]
    rw [hv]
    have hsz := K.hsz
    have hLz : ((a : Int) + (L : Int) - (a : Int)) = (L : Int) := by omega
    have h8z : ¬ (8 : Int) ≤ (L : Int) := by omega
    go_enter Tryz.func151, Tryz.ntmps151
    go_wp2
    go_end0
    exact ⟨rfl, S0⟩

/-! ### The counter of the swaps -/
/-- The counter behind 'swaps *int' holds s. -/
def Ct (K : Cx) (cb s : Nat) (W : World) : Prop := W.cell? ⟨cb, 0, none⟩ = some (.int .i64 (s : Int)) ∧ W.frozen? ⟨cb, 0, none⟩ = false ∧ K.w0.heap.size ≤ cb ∧ cb < W.heap.size
theorem Ct.gx {K : Cx} {cb s : Nat} {W w' : World} (C : Ct K cb s W) (h : Gx W w') : Ct K cb s w' := ⟨(h.cell (a := ⟨cb, 0, none⟩) C.2.2.2).trans C.1, (h.frozen (a := ⟨cb, 0, none⟩) C.2.2.2).trans C.2.1, C.2.2.1, Nat.lt_of_lt_of_le C.2.2.2 h.size⟩
theorem Ct.set {K : Cx} {cb s t : Nat} {W : World} (C : Ct K cb s W) : Ct K cb t (W.setCell ⟨cb, 0, none⟩ (.int .i64 (t : Int))) := ⟨World.cell?_setCell_same _ _ _ C.1, by simpa using C.2.1, C.2.2.1, by simpa using C.2.2.2⟩
theorem Ct.drew {K : Cx} {cb s : Nat} {W : World} (C : Ct K cb s W) (q : Nat) : Ct K cb s (W.drewN q) := C

set_option maxHeartbeats 1000000 in
set_option maxRecDepth 100000 in
theorem order2_x (K : Cx) (d : Array FK) (a b cb s : Nat) (ha : a < K.size) (hb : b < K.size) (hs : s < 4611686018427387904) (W : World) (S : Sx K d W) (C : Ct K cb s W) :
    Calls Tryz.prog 208 #[(.iface 153 (.pointer (some ⟨K.RB, 0, none⟩))), .int .i64 a, .int .i64 b, .pointer (some ⟨cb, 0, none⟩)] W fun e w' =>
      e = .returned (.tuple #[.int .i64 (order2 gtK d a b s).1, .int .i64 (order2 gtK d a b s).2.1]) ∧ Sx K d w' ∧ Ct K cb (order2 gtK d a b s).2.2 w' := by
  have mL := K.mL
  have r0 := S.r
  cases hlv : gtK d[b]! d[a]! with
  | true =>
    have e2 : order2 gtK d a b s = (b, a, s + 1) := by simp [order2, hlv]
    have hl := (less_x K d b a hb ha b a rfl rfl true hlv W S).mono (R' := fun e w' => e = .returned (.bool true) ∧ Sx K d w' ∧ Gx W w' ∧ w'.cell? ⟨cb, 0, none⟩ = some (.int .i64 (s : Int)) ∧ w'.frozen? ⟨cb, 0, none⟩ = false) (by
      rintro e w' ⟨rfl, S1, _, G1⟩
      exact ⟨rfl, S1, G1, (C.gx G1).1, (C.gx G1).2.1⟩)
    go_enter Tryz.func208, Tryz.ntmps208
    go_wp2_with (go_at_call 264; refine hl.mono ?_; rintro e w' ⟨rfl, S1, G1, c1, f1⟩)
    go_ret2
    rw [e2]
    have C1 := C.gx G1
    exact ⟨rfl, S1.set cb 0 _ C.2.2.1, by have := C1.set (t := s + 1); simpa using this⟩
  | false =>
    have e2 : order2 gtK d a b s = (a, b, s) := by simp [order2, hlv]
    have hl := less_x K d b a hb ha b a rfl rfl false hlv W S
    go_enter Tryz.func208, Tryz.ntmps208
    go_wp2_with (go_at_call 264; refine hl.mono ?_; rintro e w' ⟨rfl, S1, r1, G1⟩)
    go_ret2
    rw [e2]
    exact ⟨rfl, S1, C.gx G1⟩

set_option maxHeartbeats 1000000 in
set_option maxRecDepth 100000 in
theorem median_x (K : Cx) (d : Array FK) (a b c cb s : Nat) (ha : a < K.size) (hb : b < K.size) (hc : c < K.size) (hs : s + 3 < 4611686018427387904) (W : World) (S : Sx K d W) (C : Ct K cb s W) :
    Calls Tryz.prog 185 #[(.iface 153 (.pointer (some ⟨K.RB, 0, none⟩))), .int .i64 a, .int .i64 b, .int .i64 c, .pointer (some ⟨cb, 0, none⟩)] W fun e w' =>
      e = .returned (.int .i64 (median gtK d a b c s).1) ∧ Sx K d w' ∧ Ct K cb (median gtK d a b c s).2 w' := by
  have hd := S.2
  have l1 := order2_lt' gtK d s ha hb
  have s1 := order2_swaps' gtK d a b s
  have l2 := order2_lt' gtK d (order2 gtK d a b s).2.2 l1.2 hc
  have s2 := order2_swaps' gtK d (order2 gtK d a b s).2.1 c (order2 gtK d a b s).2.2
  have C0 := Lib.hid C
  have S0 := Lib.hid S
  clear C S
  go_enter Tryz.func185, Tryz.ntmps185
  go_wp2_with (go_at_call_of 208 (Value.int .i64 (b : Int)); refine (order2_x K d a b cb s ha hb (by omega) _ S0.out C0.out).mono ?_; rintro e w' ⟨rfl, S1, C1⟩)
  go_wp2_with (go_at_call_of 208 (Value.int .i64 (c : Int)); refine (order2_x K d _ c cb _ l1.2 hc (by omega) _ S1 C1).mono ?_; rintro e w' ⟨rfl, S2, C2⟩)
  go_wp2_with (go_at_call_of 208 (Value.int .i64 ((order2 gtK d a b s).1 : Int)); refine (order2_x K d _ _ cb _ l1.1 l2.1 (by omega) _ S2 C2).mono ?_; rintro e w' ⟨rfl, S3, C3⟩)
  go_ret
  exact ⟨rfl, S3, C3⟩

set_option maxHeartbeats 1000000 in
set_option maxRecDepth 100000 in
theorem medadj_x (K : Cx) (d : Array FK) (a cb s : Nat) (ha1 : 1 ≤ a) (ha2 : a + 1 < K.size) (hs : s + 3 < 4611686018427387904) (W : World) (S : Sx K d W) (C : Ct K cb s W) :
    Calls Tryz.prog 184 #[(.iface 153 (.pointer (some ⟨K.RB, 0, none⟩))), .int .i64 a, .pointer (some ⟨cb, 0, none⟩)] W fun e w' =>
      e = .returned (.int .i64 (medianAdjacent gtK d a s).1) ∧ Sx K d w' ∧ Ct K cb (medianAdjacent gtK d a s).2 w' := by
  have hsz := K.hsz
  have hm := median_x K d (a - 1) a (a + 1) cb s (by omega) (by omega) ha2 hs W S C
  rw [show ((a - 1 : Nat) : Int) = (a : Int) - 1 by omega, show ((a + 1 : Nat) : Int) = (a : Int) + 1 by omega] at hm
  clear S C
  go_enter Tryz.func184, Tryz.ntmps184
  go_wp2_with (go_at_call 185; refine hm.mono ?_; rintro e w' ⟨rfl, S1, C1⟩)
  go_ret
  exact ⟨rfl, S1, C1⟩

set_option maxHeartbeats 2000000 in
set_option maxRecDepth 100000 in
theorem pivot_x (K : Cx) (a b : Nat) (d : Array FK) (W : World) (S0 : Sx K d W) (hab : a < b) (hb : b ≤ K.size) :
    Calls Tryz.prog 152 #[(.iface 153 (.pointer (some ⟨K.RB, 0, none⟩))), .int .i64 a, .int .i64 b] W fun e w' =>
      e = .returned (.tuple #[.int .i64 (choosePivot gtK d a b).1, .int .i64 (hintCode (choosePivot gtK d a b).2)]) ∧ Sx K d w' := by
  have hsz := K.hsz
  have hd := S0.2
  have SS : Hid (Sx K d (W.alloc (.cells #[.int .i64 0] 3))) := S0.alloc _
  have CC : Hid (Ct K W.heap.size 0 (W.alloc (.cells #[.int .i64 0] 3))) := ⟨by simp, by simp, S0.le, by simp⟩
  clear S0
  rw [choosePivot_eq]
  obtain ⟨I, hI⟩ : ∃ I : Nat, I = a + (b - a) / 4 * 1 := ⟨_, rfl⟩
  obtain ⟨J, hJ⟩ : ∃ J : Nat, J = a + (b - a) / 4 * 2 := ⟨_, rfl⟩
  obtain ⟨L, hK⟩ : ∃ L : Nat, L = a + (b - a) / 4 * 3 := ⟨_, rfl⟩
  have eI : ((a : Int) + ((b : Int) - (a : Int)) / 4) = (I : Int) := by omega
  have eJ : ((a : Int) + ((b : Int) - (a : Int)) / 4 * 2) = (J : Int) := by omega
  have eK : ((a : Int) + ((b : Int) - (a : Int)) / 4 * 3) = (L : Int) := by omega
  by_cases h8 : b - a ≥ 8
  · by_cases h50 : b - a ≥ 50
    · -- THE NINTHER
      obtain ⟨i1, s1, h1⟩ : ∃ i1 s1, medianAdjacent gtK d I 0 = (i1, s1) := ⟨_, _, rfl⟩
      obtain ⟨j1, s2, h2⟩ : ∃ j1 s2, medianAdjacent gtK d J s1 = (j1, s2) := ⟨_, _, rfl⟩
      obtain ⟨k1, s3, h3⟩ : ∃ k1 s3, medianAdjacent gtK d L s2 = (k1, s3) := ⟨_, _, rfl⟩
      obtain ⟨p, s, h4⟩ : ∃ p s, median gtK d i1 j1 k1 s3 = (p, s) := ⟨_, _, rfl⟩
      have hraw : rawPivot gtK d a b = (p, s) := by simp only [rawPivot, if_pos h8, if_pos h50, ← hI, ← hJ, ← hK, h1, h2, h3, h4]
      have m1 := medianAdjacent_mem gtK d I 0; rw [h1] at m1
      have m2 := medianAdjacent_mem gtK d J s1; rw [h2] at m2
      have m3 := medianAdjacent_mem gtK d L s2; rw [h3] at m3
      have n1 := medianAdjacent_count gtK d I 0; rw [h1] at n1
      have n2 := medianAdjacent_count gtK d J s1; rw [h2] at n2
      have n3 := medianAdjacent_count gtK d L s2; rw [h3] at n3
      simp only [] at m1 m2 m3 n1 n2 n3
      have c1 := fun X hX hC => medadj_x K d I W.heap.size 0 (by omega) (by omega) (by omega) X hX hC
      have c2 := fun X hX hC => medadj_x K d J W.heap.size s1 (by omega) (by omega) (by omega) X hX hC
      have c3 := fun X hX hC => medadj_x K d L W.heap.size s2 (by omega) (by omega) (by omega) X hX hC
      have c4 := fun X hX hC => median_x K d i1 j1 k1 W.heap.size s3 (by omega) (by omega) (by omega) (by omega) X hX hC
      rw [h1] at c1; rw [h2] at c2; rw [h3] at c3; rw [h4] at c4
      rw [hraw]
      obtain ⟨Hc, hHc⟩ : ∃ Hc : Int, Hc = hintCode (hintOf s) := ⟨_, rfl⟩
      have hh0 : s = 0 → Hc = 1 := fun h => by rw [hHc, h]; rfl
      have hh12 : s = 12 → Hc = 2 := fun h => by rw [hHc, h]; rfl
      have hhx : s ≠ 0 → s ≠ 12 → Hc = 0 := fun h1 h2 => by rw [hHc]; unfold hintOf; rw [if_neg h1, if_neg h2]; rfl
      show Calls Tryz.prog 152 _ W fun e w' => e = .returned (.tuple #[.int .i64 (p : Int), .int .i64 (hintCode (hintOf s))]) ∧ Sx K d w'
      rw [← hHc]
      clear hHc hraw
      clear h1 h2 h3 h4 hI hJ hK m1 m2 m3
      go_enter Tryz.func152, Tryz.ntmps152
      go_wp2_with (first
        | (go_at_call_of 184 (Value.int .i64 (I : Int)); refine (c1 _ SS.out CC.out).mono ?_; rintro e w' ⟨rfl, S1, C1⟩)
        | (go_at_call_of 184 (Value.int .i64 (J : Int)); refine (c2 _ S1 C1).mono ?_; rintro e w' ⟨rfl, S2, C2⟩)
        | (go_at_call_of 184 (Value.int .i64 (L : Int)); refine (c3 _ S2 C2).mono ?_; rintro e w' ⟨rfl, S3, C3⟩)
        | (go_at_call 185; refine (c4 _ S3 C3).mono ?_; rintro e w' ⟨rfl, S4, C4⟩; have c5 := C4.1))
      all_goals
        go_ret2
        refine ⟨?_, S4⟩
        first
          | (have e0 : (s : Int) = 0 := of_beq_int (by assumption)
             rw [hh0 (by omega)]; rfl)
          | (have e1 : (s : Int) = 12 := of_beq_int (by assumption)
             rw [hh12 (by omega)]; rfl)
          | (have e0 : (s : Int) ≠ 0 := of_bne_int (by assumption)
             have e1 : (s : Int) ≠ 12 := of_bne_int (by assumption)
             rw [hhx (by omega) (by omega)]; rfl)
          | (rw [hh0 (by omega)]; rfl)
    · -- THE MEDIAN OF THREE
      obtain ⟨p, s, h4⟩ : ∃ p s, median gtK d I J L 0 = (p, s) := ⟨_, _, rfl⟩
      have hraw : rawPivot gtK d a b = (p, s) := by simp only [rawPivot, if_pos h8, if_neg h50, ← hI, ← hJ, ← hK, h4]
      have c4 := fun X hX hC => median_x K d I J L W.heap.size 0 (by omega) (by omega) (by omega) (by omega) X hX hC
      rw [h4] at c4
      rw [hraw]
      obtain ⟨Hc, hHc⟩ : ∃ Hc : Int, Hc = hintCode (hintOf s) := ⟨_, rfl⟩
      have hh0 : s = 0 → Hc = 1 := fun h => by rw [hHc, h]; rfl
      have hh12 : s = 12 → Hc = 2 := fun h => by rw [hHc, h]; rfl
      have hhx : s ≠ 0 → s ≠ 12 → Hc = 0 := fun h1 h2 => by rw [hHc]; unfold hintOf; rw [if_neg h1, if_neg h2]; rfl
      show Calls Tryz.prog 152 _ W fun e w' => e = .returned (.tuple #[.int .i64 (p : Int), .int .i64 (hintCode (hintOf s))]) ∧ Sx K d w'
      rw [← hHc]
      clear hHc hraw
      clear h4 hI hJ hK
      go_enter Tryz.func152, Tryz.ntmps152
      go_wp2_with (first | (go_at_call 185; refine (c4 _ SS.out CC.out).mono ?_; rintro e w' ⟨rfl, S4, C4⟩; have c5 := C4.1))
      all_goals
        go_ret2
        refine ⟨?_, S4⟩
        first
          | (have e0 : (s : Int) = 0 := of_beq_int (by assumption)
             rw [hh0 (by omega)]; rfl)
          | (have e1 : (s : Int) = 12 := of_beq_int (by assumption)
             rw [hh12 (by omega)]; rfl)
          | (have e0 : (s : Int) ≠ 0 := of_bne_int (by assumption)
             have e1 : (s : Int) ≠ 12 := of_bne_int (by assumption)
             rw [hhx (by omega) (by omega)]; rfl)
          | (rw [hh0 (by omega)]; rfl)
  · -- FEWER THAN EIGHT: the middle; nothing is counted
    have hraw : rawPivot gtK d a b = (J, 0) := by simp only [rawPivot, if_neg h8, ← hJ]
    rw [hraw]
    show Calls Tryz.prog 152 _ W fun e w' => e = .returned (.tuple #[.int .i64 (J : Int), .int .i64 1]) ∧ Sx K d w'
    clear hI hJ hK hraw
    go_enter Tryz.func152, Tryz.ntmps152
    go_wp2
    go_ret2
    exact ⟨rfl, SS.out⟩

end Go.Proofs.YtojicbajcebjjaaGreatDoor
