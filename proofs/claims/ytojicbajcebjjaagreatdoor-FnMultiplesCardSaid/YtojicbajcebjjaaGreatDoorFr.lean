/-
  Quotients that are not whole, as float64: how near the word is. Scaled whole numbers, no program in sight.
-/
import Derived.Test.YtojicbajcebjjaaGreatDoorFl
namespace Go.Proofs.YtojicbajcebjjaaGreatDoor
open Ieee

/-- Rounding to even moves by at most half a unit. -/
theorem cut_even_bd (m d K : Nat) (hd : d ≤ m.log2 + 2) (h : Toward.even.cut false m d = K) : 2 * (K * 2 ^ d) ≤ 2 * m + 2 ^ d ∧ 2 * m ≤ 2 * (K * 2 ^ d) + 2 ^ d ∧ m / 2 ^ d ≤ K ∧ K ≤ m / 2 ^ d + 1 := by
  have hg : (1 <<< min d (m.log2 + 2)) = 2 ^ d := by rw [Nat.min_eq_left hd, Nat.shiftLeft_eq, Nat.one_mul]
  have hp : 0 < 2 ^ d := Nat.two_pow_pos _
  unfold Toward.cut at h
  simp only [hg] at h
  have e := Nat.div_add_mod m (2 ^ d)
  have hlt := Nat.mod_lt m hp
  generalize hG : 2 ^ d = G at *
  generalize hl : m / G = l at *
  generalize hr : m % G = r at *
  by_cases hm : (decide (G < 2 * r) || (G == 2 * r && l % 2 == 1)) = true
  · rw [hm] at h
    have hK : K = l + 1 := by rw [← h]; rfl
    have h2 : G ≤ 2 * r := by
      simp only [Bool.or_eq_true, Bool.and_eq_true, decide_eq_true_eq, beq_iff_eq] at hm
      omega
    have e2 : K * G = G * l + G := by rw [hK, Nat.add_mul, Nat.one_mul, Nat.mul_comm]
    rw [e2]
    generalize G * l = p at *
    omega
  · rw [Bool.not_eq_true] at hm
    rw [hm] at h
    have hK : K = l := by rw [← h]; rfl
    have h2 : 2 * r ≤ G := by
      simp only [Bool.or_eq_false_iff, Bool.and_eq_false_iff, decide_eq_false_iff_not] at hm
      omega
    have e2 : K * G = G * l := by rw [hK, Nat.mul_comm]
    rw [e2]
    generalize G * l = p at *
    omega

/-- x reads as the positive number F / 2^130. -/
def Sc (x F : Nat) : Prop := ∃ mag e : Nat, D.read x = .number false mag (-(e : Int)) ∧ 1 ≤ e ∧ e ≤ 130 ∧ mag < 9007199254740992 ∧ 4503599627370496 ≤ mag ∧ F = mag * 2 ^ (130 - e)

theorem sc_rung (L K : Nat) (hL : L ≤ 130) (h1 : 4503599627370496 ≤ K) (h2 : K ≤ 9007199254740992) (hL1 : 1 ≤ L) (hL2 : K < 9007199254740992 ∨ 2 ≤ L) :
    Sc (D.word false ((1074 - L) * 4503599627370496 + K)) (K * 2 ^ (130 - L)) := by
  rcases Nat.lt_or_ge K 9007199254740992 with h | h
  · refine ⟨K, L, ?_, hL1, hL, by omega, h1, rfl⟩
    have f1 : ((1074 - L) * 4503599627370496 + K) % 4503599627370496 = K - 4503599627370496 := by omega
    have f2 : ((1074 - L) * 4503599627370496 + K) / 4503599627370496 = 1074 - L + 1 := by omega
    rw [read_word _ _ (by omega) (by omega), f1, f2]
    have f3 : 4503599627370496 + (K - 4503599627370496) = K := by omega
    have f4 : (-1074 + ((1074 - L + 1 - 1 : Nat) : Int)) = -(L : Int) := by omega
    rw [f3, f4]
  · obtain rfl : K = 9007199254740992 := by omega
    refine ⟨4503599627370496, L - 1, ?_, by omega, by omega, by omega, by omega, ?_⟩
    · have f1 : ((1074 - L) * 4503599627370496 + 9007199254740992) % 4503599627370496 = 0 := by omega
      have f2 : ((1074 - L) * 4503599627370496 + 9007199254740992) / 4503599627370496 = 1074 - L + 2 := by omega
      rw [read_word _ _ (by omega) (by omega), f1, f2]
      have f4 : (-1074 + ((1074 - L + 2 - 1 : Nat) : Int)) = -((L - 1 : Nat) : Int) := by omega
      rw [f4]
    · rw [show 130 - (L - 1) = 130 - L + 1 by omega, Nat.pow_succ, show (9007199254740992 : Nat) = 4503599627370496 * 2 from rfl, Nat.mul_assoc, Nat.mul_comm 2]

theorem sub_sub_130 (B d : Nat) (h2 : d < B) (hB : B ≤ 130) : 130 - (B - d) = d + (130 - B) := by omega
theorem min_rung (B d K : Nat) (h1 : K ≤ 9007199254740992) : min ((1074 - (B - d)) * 4503599627370496 + K) 9218868437227405312 = (1074 - (B - d)) * 4503599627370496 + K := Nat.min_eq_left (by omega)
theorem last_eq (X B lg : Nat) (hlg : X.log2 = lg) (h1 : 52 ≤ lg) (h2 : lg - 52 < B) (hB : B ≤ 130) : lastOf X (-(B : Int)) = -((B - (lg - 52) : Nat) : Int) := by unfold lastOf; rw [hlg]; omega

/-- What is nearest to X / 2^B, of more than 52 digits. -/
theorem near_sc (X B lg : Nat) (hX : X ≠ 0) (hlg : X.log2 = lg) (h1 : 52 ≤ lg) (h2 : lg - 52 < B) (hB : B ≤ 130) (h3 : 2 ≤ B - (lg - 52)) :
    ∃ K, Sc (D.nearest false X (-(B : Int))) (K * 2 ^ (lg - 52) * 2 ^ (130 - B)) ∧ 2 * (K * 2 ^ (lg - 52)) ≤ 2 * X + 2 ^ (lg - 52) ∧ 2 * X ≤ 2 * (K * 2 ^ (lg - 52)) + 2 ^ (lg - 52) ∧ X / 2 ^ (lg - 52) ≤ K := by
  have hlast := last_eq X B lg hlg h1 h2 hB
  have e := nearest_def false X (-(B : Int)) hX
  rw [hlast] at e
  have e1 : (-((B - (lg - 52) : Nat) : Int) + 1074).toNat = 1074 - (B - (lg - 52)) := by omega
  have e2 : (-(B : Int) - -((B - (lg - 52) : Nat) : Int)).toNat = 0 := by omega
  have e3 : (-((B - (lg - 52) : Nat) : Int) - -(B : Int)).toNat = lg - 52 := by omega
  rw [e1, e2, e3, Nat.shiftLeft_zero, k52, kInf] at e
  generalize hK : Toward.even.cut false X (lg - 52) = K at e
  obtain ⟨b1, b2, b3, b4⟩ := cut_even_bd X (lg - 52) K (by rw [hlg]; omega) hK
  have hself : 2 ^ lg ≤ X := by rw [← hlg]; exact Nat.log2_self_le hX
  have hlt : X < 2 ^ (lg + 1) := by rw [← hlg]; exact Nat.lt_log2_self
  have hp : 0 < 2 ^ (lg - 52) := Nat.two_pow_pos _
  have q1 : 4503599627370496 ≤ X / 2 ^ (lg - 52) := by
    rw [Nat.le_div_iff_mul_le hp, ← k52, ← Nat.pow_add]
    rw [show 52 + (lg - 52) = lg by omega]; exact hself
  have q2 : X / 2 ^ (lg - 52) < 9007199254740992 := by
    rw [Nat.div_lt_iff_lt_mul hp, ← k53, ← Nat.pow_add]
    rw [show 53 + (lg - 52) = lg + 1 by omega]; exact hlt
  rw [min_rung B (lg - 52) K (Nat.le_trans b4 q2)] at e
  have g1 : 4503599627370496 ≤ K := Nat.le_trans q1 b3
  have g2 : K ≤ 9007199254740992 := Nat.le_trans b4 q2
  have g3 : B - (lg - 52) ≤ 130 := Nat.le_trans (Nat.sub_le _ _) hB
  have g4 : 1 ≤ B - (lg - 52) := Nat.sub_pos_of_lt h2
  have h := sc_rung (B - (lg - 52)) K g3 g1 g2 g4 (.inr h3)
  have e5 : K * 2 ^ (130 - (B - (lg - 52))) = K * 2 ^ (lg - 52) * 2 ^ (130 - B) := by
    rw [sub_sub_130 B (lg - 52) h2 hB, Nat.pow_add, Nat.mul_assoc]
  rw [e5, ← e] at h
  exact ⟨K, h, b1, b2, b3⟩

theorem read_pos (a : Nat) (h : 1 ≤ a) (h2 : a < 2 ^ 53) : D.read (fi (a : Int)) = .number false (a * 2 ^ (52 - a.log2)) (-((52 - a.log2 : Nat) : Int)) := by
  have hlog := pow52 a h2
  have hs : decide ((a : Int) < 0) = false := by simp
  rw [fi_def, hs, Int.natAbs_natCast, nearest_small _ a a.log2 _ (by omega) rfl hlog rfl]
  exact read_small _ _ _ hlog (scale_lo _ _ hlog (Nat.log2_self_le (by omega))) (scale_hi _ _ hlog Nat.lt_log2_self)

theorem log_52 (a : Nat) (h : 1 ≤ a) (h2 : a < 2 ^ 53) : (a * 2 ^ (52 - a.log2)).log2 = 52 := by
  rw [log2_mul_pow a _ (by omega)]
  have := pow52 a h2
  omega

/-- The quotient's digits: X = 2 Q and one more, if something is left. -/
theorem sticky_bd (Y n : Nat) (hn : 0 < n) : ∃ X, X = 2 * (Y / n) + (Y % n != 0).toNat ∧ X * n ≤ 2 * Y + n ∧ 2 * Y ≤ X * n + n ∧ 2 * (Y / n) ≤ X ∧ X ≤ 2 * (Y / n) + 1 := by
  refine ⟨_, rfl, ?_⟩
  have e := Nat.div_add_mod Y n
  have hlt := Nat.mod_lt Y hn
  generalize Y % n = r at *
  generalize hq : Y / n = q at *
  by_cases hr : r = 0
  · subst hr
    have e2 : (2 * q + ((0 : Nat) != 0).toNat) * n = 2 * (n * q) := by
      simp only [bne_self_eq_false, Bool.toNat_false, Nat.add_zero]; rw [Nat.mul_assoc, Nat.mul_comm q]
    rw [e2]
    generalize n * q = p at *
    refine ⟨by omega, by omega, by simp, by simp⟩
  · have hb : (r != 0) = true := by simpa using hr
    have e2 : (2 * q + (r != 0).toNat) * n = 2 * (n * q) + n := by
      rw [hb, Bool.toNat_true, Nat.add_mul, Nat.one_mul, Nat.mul_assoc, Nat.mul_comm q]
    rw [e2, hb, Bool.toNat_true]
    generalize n * q = p at *
    refine ⟨by omega, by omega, by omega, by omega⟩

theorem div_word (a b : Nat) (ha : 1 ≤ a) (ha2 : a < 2 ^ 53) (hb : 1 ≤ b) (hb2 : b < 2 ^ 53) :
    D.div (fi (a : Int)) (fi (b : Int)) = some (D.nearest false (2 * (a * 2 ^ (52 - a.log2) * 2 ^ 54 / (b * 2 ^ (52 - b.log2))) + (a * 2 ^ (52 - a.log2) * 2 ^ 54 % (b * 2 ^ (52 - b.log2)) != 0).toNat) (-((52 - a.log2 : Nat) : Int) + ((52 - b.log2 : Nat) : Int) - 55)) := by
  have la := log_52 a ha ha2
  have lb := log_52 b hb hb2
  have ra := read_pos a ha ha2
  have rb := read_pos b hb hb2
  have hn0 : b * 2 ^ (52 - b.log2) ≠ 0 := Nat.mul_ne_zero (by omega) (Nat.pos_iff_ne_zero.1 (Nat.two_pow_pos _))
  generalize a * 2 ^ (52 - a.log2) = m at *
  generalize b * 2 ^ (52 - b.log2) = n at *
  unfold Format.div
  rw [ra, rb]
  simp only [Datum.quotient, if_neg hn0, Option.map_some, Format.write, la, lb]
  have hfb : D.fractionBits + 2 + 52 - 52 = 54 := rfl
  rw [hfb, Nat.shiftLeft_eq]
  have hp : -((52 - a.log2 : Nat) : Int) - -((52 - b.log2 : Nat) : Int) - ((54 : Nat) : Int) - 1 = -((52 - a.log2 : Nat) : Int) + ((52 - b.log2 : Nat) : Int) - 55 := by
    generalize ((52 - a.log2 : Nat) : Int) = x
    generalize ((52 - b.log2 : Nat) : Int) = y
    omega
  rw [hp]
  rfl

theorem log_two (X : Nat) (h1 : 2 ^ 54 ≤ X) (h2 : X < 2 ^ 56) : X.log2 = 54 ∨ X.log2 = 55 := by
  have hX : X ≠ 0 := by have := Nat.two_pow_pos 54; omega
  have a1 : 54 ≤ X.log2 := (Nat.le_log2 hX).2 h1
  have a2 : X.log2 < 56 := (Nat.log2_lt hX).2 h2
  omega

theorem quot_lo (m n : Nat) (hm : 2 ^ 52 ≤ m) (hn : n < 2 ^ 53) (hn0 : 0 < n) : 2 ^ 53 ≤ m * 2 ^ 54 / n := by
  rw [Nat.le_div_iff_mul_le hn0]
  calc 2 ^ 53 * n ≤ 2 ^ 53 * 2 ^ 53 := Nat.mul_le_mul_left _ (Nat.le_of_lt hn)
    _ = 2 ^ 52 * 2 ^ 54 := by decide
    _ ≤ m * 2 ^ 54 := Nat.mul_le_mul_right _ hm
theorem quot_hi (m n : Nat) (hm : m < 2 ^ 53) (hn : 2 ^ 52 ≤ n) (hn0 : 0 < n) : m * 2 ^ 54 / n < 2 ^ 55 := by
  rw [Nat.div_lt_iff_lt_mul hn0]
  calc m * 2 ^ 54 < 2 ^ 53 * 2 ^ 54 := Nat.mul_lt_mul_of_pos_right hm (by decide)
    _ = 2 ^ 55 * 2 ^ 52 := by decide
    _ ≤ 2 ^ 55 * n := Nat.mul_le_mul_left _ hn

/-- the last joining of powers -/
theorem scale_back (P a b j k B : Nat) (hB : B + k = 55 + j) (hB2 : B ≤ 130) (hB3 : 36 ≤ B)
    (h1 : P * (b * 2 ^ k) ≤ 2 * (a * 2 ^ j * 2 ^ 54) + 5 * (b * 2 ^ k)) (h2 : 2 * (a * 2 ^ j * 2 ^ 54) ≤ P * (b * 2 ^ k) + 5 * (b * 2 ^ k)) :
    P * 2 ^ (130 - B) * b ≤ a * 2 ^ 130 + 5 * b * 2 ^ 94 ∧ a * 2 ^ 130 ≤ P * 2 ^ (130 - B) * b + 5 * b * 2 ^ 94 := by
  have hk : 0 < 2 ^ k := Nat.two_pow_pos _
  have hT : 2 ^ (130 - B) ≤ 2 ^ 94 := Nat.pow_le_pow_right (by decide) (by omega)
  have e1 : 2 * (a * 2 ^ j * 2 ^ 54) * 2 ^ (130 - B) = a * 2 ^ 130 * 2 ^ k := by
    have e : (2 : Nat) * 2 ^ j * 2 ^ 54 * 2 ^ (130 - B) = 2 ^ 130 * 2 ^ k := by
      rw [← Nat.pow_succ', ← Nat.pow_add, ← Nat.pow_add, ← Nat.pow_add]
      congr 1; omega
    calc 2 * (a * 2 ^ j * 2 ^ 54) * 2 ^ (130 - B) = a * (2 * 2 ^ j * 2 ^ 54 * 2 ^ (130 - B)) := by
          generalize 2 ^ j = u; generalize 2 ^ 54 = v; generalize 2 ^ (130 - B) = t
          simp only [Nat.mul_assoc, Nat.mul_left_comm]
      _ = a * 2 ^ 130 * 2 ^ k := by rw [e, Nat.mul_assoc]
  have e2 : P * (b * 2 ^ k) * 2 ^ (130 - B) = P * 2 ^ (130 - B) * b * 2 ^ k := by
    generalize 2 ^ (130 - B) = t; generalize 2 ^ k = u
    simp only [Nat.mul_left_comm, Nat.mul_comm]
  have e3 : 5 * (b * 2 ^ k) * 2 ^ (130 - B) = 5 * b * 2 ^ (130 - B) * 2 ^ k := by
    generalize 2 ^ (130 - B) = t; generalize 2 ^ k = u
    simp only [Nat.mul_assoc, Nat.mul_left_comm, Nat.mul_comm]
  have g1 := Nat.mul_le_mul_right (2 ^ (130 - B)) h1
  have g2 := Nat.mul_le_mul_right (2 ^ (130 - B)) h2
  rw [Nat.add_mul, e1, e2, e3, ← Nat.add_mul] at g1
  rw [Nat.add_mul, e1, e2, e3, ← Nat.add_mul] at g2
  have f1 := Nat.le_of_mul_le_mul_right g1 hk
  have f2 := Nat.le_of_mul_le_mul_right g2 hk
  have f3 : 5 * b * 2 ^ (130 - B) ≤ 5 * b * 2 ^ 94 := Nat.mul_le_mul_left _ hT
  exact ⟨Nat.le_trans f1 (Nat.add_le_add_left f3 _), Nat.le_trans f2 (Nat.add_le_add_left f3 _)⟩

theorem place_eq (j k B : Nat) (hB : B + k = 55 + j) : -(j : Int) + (k : Int) - 55 = -(B : Int) := by omega
theorem near_step (K X n Y d D8 : Nat) (hD : D8 = 2 ^ d) (h8 : D8 ≤ 8) (b1 : 2 * (K * 2 ^ d) ≤ 2 * X + 2 ^ d) (b2 : 2 * X ≤ 2 * (K * 2 ^ d) + 2 ^ d) (s1 : X * n ≤ 2 * Y + n) (s2 : 2 * Y ≤ X * n + n) :
    K * 2 ^ d * n ≤ 2 * Y + 5 * n ∧ 2 * Y ≤ K * 2 ^ d * n + 5 * n := by
  rw [← hD] at b1 b2 ⊢
  generalize K * D8 = P at *
  have p1 : P ≤ X + 4 := by omega
  have p2 : X ≤ P + 4 := by omega
  have q1 := Nat.mul_le_mul_right n p1
  have q2 := Nat.mul_le_mul_right n p2
  rw [Nat.add_mul] at q1 q2
  generalize P * n = u at *
  generalize X * n = v at *
  omega

/-- The quotient of two whole numbers, to 2^-36 and better. -/
theorem div_sc (a b : Nat) (ha : 1 ≤ a) (ha2 : a ≤ 1000000) (hb : 1 ≤ b) (hb2 : b ≤ 1000) :
    ∃ y F, D.div (fi (a : Int)) (fi (b : Int)) = some y ∧ Sc y F ∧ F * b ≤ a * 2 ^ 130 + 5 * b * 2 ^ 94 ∧ a * 2 ^ 130 ≤ F * b + 5 * b * 2 ^ 94 := by
  have h53a : a < 2 ^ 53 := Nat.lt_of_le_of_lt ha2 (by decide)
  have h53b : b < 2 ^ 53 := Nat.lt_of_le_of_lt hb2 (by decide)
  have la : a.log2 < 20 := (Nat.log2_lt (by omega)).2 (Nat.lt_of_le_of_lt ha2 (by decide))
  have lb : b.log2 < 10 := (Nat.log2_lt (by omega)).2 (Nat.lt_of_le_of_lt hb2 (by decide))
  have hw := div_word a b ha h53a hb h53b
  have ma : 2 ^ 52 ≤ a * 2 ^ (52 - a.log2) := by have h := scale_lo a a.log2 (by omega) (Nat.log2_self_le (by omega)); rw [k52]; exact h
  have ma2 : a * 2 ^ (52 - a.log2) < 2 ^ 53 := by have h := scale_hi a a.log2 (by omega) Nat.lt_log2_self; rw [k53]; exact h
  have nb : 2 ^ 52 ≤ b * 2 ^ (52 - b.log2) := by have h := scale_lo b b.log2 (by omega) (Nat.log2_self_le (by omega)); rw [k52]; exact h
  have nb2 : b * 2 ^ (52 - b.log2) < 2 ^ 53 := by have h := scale_hi b b.log2 (by omega) Nat.lt_log2_self; rw [k53]; exact h
  have hj : 33 ≤ 52 - a.log2 ∧ 52 - a.log2 ≤ 52 := by omega
  have hk : 43 ≤ 52 - b.log2 ∧ 52 - b.log2 ≤ 52 := by omega
  generalize 52 - a.log2 = j at *
  generalize 52 - b.log2 = k at *
  obtain ⟨B, hB, hB1, hB2⟩ : ∃ B, B + k = 55 + j ∧ 36 ≤ B ∧ B ≤ 130 := ⟨55 + j - k, by omega, by omega, by omega⟩
  rw [place_eq j k B hB] at hw
  have hn0 : 0 < b * 2 ^ k := Nat.mul_pos (by omega) (Nat.two_pow_pos _)
  obtain ⟨X, hX, s1, s2, s3, s4⟩ := sticky_bd (a * 2 ^ j * 2 ^ 54) (b * 2 ^ k) hn0
  have ql := quot_lo _ _ ma nb2 hn0
  have qh := quot_hi _ _ ma2 nb hn0
  rw [← hX] at hw
  generalize a * 2 ^ j * 2 ^ 54 / (b * 2 ^ k) = Q at *
  have x1 : 2 ^ 54 ≤ X := by
    have : (2 : Nat) ^ 54 = 2 * 2 ^ 53 := by decide
    omega
  have x2 : X < 2 ^ 56 := by
    have : (2 : Nat) ^ 56 = 2 * 2 ^ 55 := by decide
    omega
  have hX0 : X ≠ 0 := by have := Nat.two_pow_pos 54; omega
  rcases log_two X x1 x2 with hl | hl
  · obtain ⟨K, hsc, b1, b2, _⟩ := near_sc X B 54 hX0 hl (by decide) (by omega) hB2 (by omega)
    obtain ⟨c1, c2⟩ := near_step K X (b * 2 ^ k) (a * 2 ^ j * 2 ^ 54) (54 - 52) _ rfl (by decide) b1 b2 s1 s2
    exact ⟨_, _, hw, hsc, scale_back _ a b j k B hB hB2 hB1 c1 c2⟩
  · obtain ⟨K, hsc, b1, b2, _⟩ := near_sc X B 55 hX0 hl (by decide) (by omega) hB2 (by omega)
    obtain ⟨c1, c2⟩ := near_step K X (b * 2 ^ k) (a * 2 ^ j * 2 ^ 54) (55 - 52) _ rfl (by decide) b1 b2 s1 s2
    exact ⟨_, _, hw, hsc, scale_back _ a b j k B hB hB2 hB1 c1 c2⟩

theorem cut_zero_way (s : Bool) (m d : Nat) : Toward.zero.cut s m d = m / 2 ^ d := by
  unfold Toward.cut
  simp only [Bool.toNat_false, Nat.add_zero, Nat.shiftLeft_eq, Nat.one_mul]
  rcases Nat.le_total d (m.log2 + 2) with h | h
  · rw [Nat.min_eq_left h]
  · rw [Nat.min_eq_right h]
    have hlt : m < 2 ^ (m.log2 + 1) := Nat.lt_log2_self
    have h1 : m < 2 ^ (m.log2 + 2) := Nat.lt_of_lt_of_le hlt (Nat.pow_le_pow_right (by decide) (by omega))
    have h2 : m < 2 ^ d := Nat.lt_of_lt_of_le h1 (Nat.pow_le_pow_right (by decide) h)
    rw [Nat.div_eq_of_lt h1, Nat.div_eq_of_lt h2]

/-- The whole part. -/
theorem sc_trunc (y F : Nat) (h : Sc y F) : D.write ((D.read y).integral .zero) = fi ((F / 2 ^ 130 : Nat) : Int) := by
  obtain ⟨mag, e, hr, _, he, _, _, rfl⟩ := h
  rw [hr]
  simp only [Datum.integral]
  have e1 : (-(e : Int)).toNat = 0 := by omega
  have e2 : (-(-(e : Int))).toNat = e := by omega
  rw [e1, e2, Nat.shiftLeft_zero, cut_zero_way]
  have e3 : mag * 2 ^ (130 - e) / 2 ^ 130 = mag / 2 ^ e := by
    have hp : 0 < 2 ^ (130 - e) := Nat.two_pow_pos _
    have e4 : (2 : Nat) ^ 130 = 2 ^ e * 2 ^ (130 - e) := by rw [← Nat.pow_add]; congr 1; omega
    rw [e4, Nat.mul_div_mul_right _ _ hp]
  rw [e3]
  have hs : decide (((mag / 2 ^ e : Nat) : Int) < 0) = false := by
    rw [decide_eq_false_iff_not]; exact Int.not_lt.2 (Int.natCast_nonneg _)
  rw [fi_def, hs, Int.natAbs_natCast]
  rfl

/-- What has at most 53 digits is exact. -/
theorem near_exact_sc (R e : Nat) (h1 : 1 ≤ R) (h2 : R < 2 ^ 53) (he : e + (52 - R.log2) ≤ 130) (he1 : 1 ≤ e) : Sc (D.nearest false R (-(e : Int))) (R * 2 ^ (130 - e)) := by
  have hlog := pow52 R h2
  have lo := scale_lo R R.log2 hlog (Nat.log2_self_le (by omega))
  have hi := scale_hi R R.log2 hlog Nat.lt_log2_self
  have hlast : lastOf R (-(e : Int)) = -((e + (52 - R.log2) : Nat) : Int) := by unfold lastOf; omega
  have ee := nearest_exact false R (-(e : Int)) (by omega) (by rw [hlast]; omega)
  rw [hlast] at ee
  have e1 : (-((e + (52 - R.log2) : Nat) : Int) + 1074).toNat = 1074 - (e + (52 - R.log2)) := by omega
  have e2 : (-(e : Int) - -((e + (52 - R.log2) : Nat) : Int)).toNat = 52 - R.log2 := by omega
  rw [e1, e2, k52, kInf] at ee
  have hle : 52 - R.log2 ≤ 52 := Nat.sub_le _ _
  have h := sc_rung (e + (52 - R.log2)) (R * 2 ^ (52 - R.log2)) (by omega) lo (Nat.le_of_lt hi) (by omega) (.inl hi)
  have e3 : R * 2 ^ (52 - R.log2) * 2 ^ (130 - (e + (52 - R.log2))) = R * 2 ^ (130 - e) := by
    rw [Nat.mul_assoc, ← Nat.pow_add]; congr 2; omega
  have hmin : min ((1074 - (e + (52 - R.log2))) * 4503599627370496 + R * 2 ^ (52 - R.log2)) 9218868437227405312 = (1074 - (e + (52 - R.log2))) * 4503599627370496 + R * 2 ^ (52 - R.log2) := by
    generalize R * 2 ^ (52 - R.log2) = K at *
    generalize e + (52 - R.log2) = t at *
    clear ee h e1 e2 hlast e3
    exact Nat.min_eq_left (by omega)
  rw [hmin] at ee
  rw [e3, ← ee] at h
  exact h

/-- What is left behind the whole part, exactly. -/
theorem sc_sub (y F q : Nat) (h : Sc y F) (h1 : q * 2 ^ 130 < F) (hq : q ≤ 1000000) : ∃ z, D.sub y (fi (q : Int)) = some z ∧ Sc z (F - q * 2 ^ 130) := by
  obtain ⟨mag, e, hr, he1, he, hm, hm2, rfl⟩ := h
  obtain ⟨m, k, hn, _, hmk⟩ := read_fi (q : Int) (by rw [Int.natAbs_natCast]; exact Nat.lt_of_le_of_lt hq (by decide))
  have hs : decide ((q : Int) < 0) = false := by rw [decide_eq_false_iff_not]; exact Int.not_lt.2 (Int.natCast_nonneg _)
  rw [hs] at hn
  rw [Int.natAbs_natCast] at hmk
  have hpe : 0 < 2 ^ (130 - e) := Nat.two_pow_pos _
  have e130 : (2 : Nat) ^ 130 = 2 ^ e * 2 ^ (130 - e) := by rw [← Nat.pow_add]; congr 1; omega
  have hlt : q * 2 ^ e < mag := by
    rw [e130, ← Nat.mul_assoc] at h1
    exact Nat.lt_of_mul_lt_mul_right h1
  obtain ⟨R, hR⟩ : ∃ R, R = mag - q * 2 ^ e := ⟨_, rfl⟩
  have hRF : mag * 2 ^ (130 - e) - q * 2 ^ 130 = R * 2 ^ (130 - e) := by
    rw [hR, Nat.sub_mul, e130, ← Nat.mul_assoc]
  unfold Format.sub
  rw [hr, hn]
  simp only [Datum.opposite, Datum.sum, Option.map_some, Format.write, Bool.not_false]
  generalize hB : max e k = B
  have hbase : min (-(e : Int)) (-(k : Int)) = -(B : Int) := by omega
  have e1 : (-(e : Int) - -(B : Int)).toNat = B - e := by omega
  have e2 : (-(k : Int) - -(B : Int)).toNat = B - k := by omega
  rw [hbase, e1, e2]
  have hsum : signed false mag (B - e) + signed true m (B - k) = ((R * 2 ^ (B - e) : Nat) : Int) := by
    unfold signed
    simp only [Bool.false_eq_true, if_false, if_true, Nat.shiftLeft_eq]
    have f1 : m * 2 ^ (B - k) = q * 2 ^ e * 2 ^ (B - e) := by
      rw [hmk, Nat.mul_assoc, Nat.mul_assoc, ← Nat.pow_add, ← Nat.pow_add]
      congr 2; omega
    rw [f1, hR, Nat.sub_mul, Int.natCast_sub (Nat.mul_le_mul_right _ (Nat.le_of_lt hlt))]
    omega
  rw [hsum]
  have hRpos : 1 ≤ R := by rw [hR]; exact Nat.sub_pos_of_lt hlt
  have hRlt : R < 2 ^ 53 := by rw [k53, hR]; exact Nat.lt_of_le_of_lt (Nat.sub_le _ _) hm
  have hpos : 0 < R * 2 ^ (B - e) := Nat.mul_pos hRpos (Nat.two_pow_pos _)
  rw [Int.natAbs_natCast, if_neg (by omega)]
  have hs2 : decide (((R * 2 ^ (B - e) : Nat) : Int) < 0) = false := by rw [decide_eq_false_iff_not]; exact Int.not_lt.2 (Int.natCast_nonneg _)
  rw [hs2]
  have hsh := nearest_shift false R (B - e) (-(B : Int)) (pow52 R hRlt) (by omega)
  rw [hsh]
  have hpl : -(B : Int) + ((B - e : Nat) : Int) = -(e : Int) := by omega
  rw [hpl, hRF]
  refine ⟨_, rfl, near_exact_sc R e hRpos hRlt ?_ he1⟩
  rcases Nat.eq_zero_or_pos q with hq0 | hq0
  · have : R = mag := by rw [hR, hq0, Nat.zero_mul, Nat.sub_zero]
    rw [this]
    have : 52 ≤ mag.log2 := (Nat.le_log2 (by omega)).2 (by rw [k52]; exact hm2)
    omega
  · have h2e : 2 ^ e < 2 ^ 53 := by
      rw [k53]
      exact Nat.lt_of_le_of_lt (Nat.le_mul_of_pos_left _ hq0) (Nat.lt_trans hlt hm)
    have := (Nat.pow_lt_pow_iff_right (by decide : 1 < 2)).1 h2e
    omega

theorem sc_order (z G : Nat) (h : Sc z G) : D.order z 0 = some .gt := by
  obtain ⟨mag, e, hr, _, _, _, hm, _⟩ := h
  have h0 : D.read 0 = .number false 0 (-1074) := by decide
  unfold Format.order
  rw [hr, h0]
  simp only [Datum.order, signed, Nat.shiftLeft_eq, Bool.false_eq_true, if_false, Nat.zero_mul]
  have hp : 0 < mag * 2 ^ (-(e : Int) - min (-(e : Int)) (-1074)).toNat := Nat.mul_pos (by omega) (Nat.two_pow_pos _)
  generalize mag * 2 ^ (-(e : Int) - min (-(e : Int)) (-1074)).toNat = p at *
  have h1 : ¬ (p : Int) < ((0 : Nat) : Int) := by omega
  have h2 : ¬ (p : Int) = ((0 : Nat) : Int) := by omega
  simp only [compare, compareOfLessAndEq, h1, h2, if_false]

theorem sc_num (z G : Nat) (h : Sc z G) : ∃ mag e : Nat, D.read z = .number false mag (-(e : Int)) := by
  obtain ⟨mag, e, hr, _⟩ := h
  exact ⟨mag, e, hr⟩

theorem lin_lo (p r b u E T : Nat) (hT : T = 68719476736 * E) (hE : 0 < E) (hr : 0 < r) (hb : b ≤ 1000) (h0 : u ≤ p * T) (h2 : (p + r) * T ≤ u + 5 * b * E) : False := by
  have h3 : r * T ≤ 5 * b * E := by rw [Nat.add_mul] at h2; omega
  have h4 : T ≤ r * T := Nat.le_mul_of_pos_left _ hr
  have h5 : 5 * b * E ≤ 5000 * E := Nat.mul_le_mul_right _ (by omega)
  omega
theorem lin_hi (p r b u E T : Nat) (hT : T = 68719476736 * E) (hE : 0 < E) (hr : r < b) (hb : b ≤ 1000) (h0 : (p + b) * T ≤ u) (h1 : u ≤ (p + r) * T + 5 * b * E) : False := by
  obtain ⟨t, rfl⟩ : ∃ t, b = r + 1 + t := ⟨b - r - 1, by omega⟩
  have h5 : 5 * (r + 1 + t) * E ≤ 5000 * E := Nat.mul_le_mul_right _ (by omega)
  have e1 : (p + (r + 1 + t)) * T = (p + r) * T + T + t * T := by
    rw [show p + (r + 1 + t) = (p + r) + 1 + t by omega, Nat.add_mul, Nat.add_mul, Nat.one_mul]
  rw [e1] at h0
  generalize (p + r) * T = x at *
  generalize t * T = v at *
  omega

/-- The whole part of the quotient's word is the quotient's whole part. -/
theorem floor_bd (a b q r F : Nat) (hab : a = q * b + r) (hr0 : 0 < r) (hr : r < b) (hb : b ≤ 1000) (h1 : F * b ≤ a * 2 ^ 130 + 5 * b * 2 ^ 94) (h2 : a * 2 ^ 130 ≤ F * b + 5 * b * 2 ^ 94) : q * 2 ^ 130 < F ∧ F < (q + 1) * 2 ^ 130 := by
  subst hab
  have hT : (2 : Nat) ^ 130 = 68719476736 * 2 ^ 94 := by decide
  have hE : 0 < (2 : Nat) ^ 94 := Nat.two_pow_pos _
  generalize (2 : Nat) ^ 130 = T at *
  generalize (2 : Nat) ^ 94 = E at *
  constructor
  · rcases Nat.lt_or_ge (q * T) F with h | h
    · exact h
    · have h0 : F * b ≤ q * b * T := by
        have := Nat.mul_le_mul_right b h
        rwa [Nat.mul_assoc, Nat.mul_comm T, ← Nat.mul_assoc] at this
      exact (lin_lo (q * b) r b (F * b) E T hT hE hr0 hb h0 h2).elim
  · rcases Nat.lt_or_ge F ((q + 1) * T) with h | h
    · exact h
    · have h0 : (q * b + b) * T ≤ F * b := by
        have := Nat.mul_le_mul_right b h
        rw [Nat.mul_assoc, Nat.mul_comm T, ← Nat.mul_assoc, Nat.add_mul, Nat.one_mul] at this
        exact this
      exact (lin_hi (q * b) r b (F * b) E T hT hE hr hb h0 h1).elim

def half : Nat := 4602678819172646912
theorem read_half : D.read half = .number false 4503599627370496 (-((53 : Nat) : Int)) := by decide

/-- z + 1/2, for a z that lies below 1 (and is not too fine). -/
theorem sc_half (z G : Nat) (h : Sc z G) (hG : G < 2 ^ 130) (hfine : ∀ mag e : Nat, D.read z = .number false mag (-(e : Int)) → e ≤ 64) :
    ∃ s B X lg K, D.add z half = some s ∧ X * 2 ^ (130 - B) = G + 2 ^ 129 ∧ 53 ≤ B ∧ B ≤ 64 ∧ X.log2 = lg ∧ 52 ≤ lg ∧ lg ≤ B ∧ Sc s (K * 2 ^ (lg - 52) * 2 ^ (130 - B)) ∧ 2 * (K * 2 ^ (lg - 52)) ≤ 2 * X + 2 ^ (lg - 52) ∧ X / 2 ^ (lg - 52) ≤ K := by
  obtain ⟨mag, e, hr, he1, he, hm, hm2, rfl⟩ := h
  have he64 := hfine mag e hr
  obtain ⟨B, hB⟩ : ∃ B, B = max e 53 := ⟨_, rfl⟩
  have hB1 : 53 ≤ B := by omega
  have hB2 : B ≤ 64 := by omega
  have hBe : e ≤ B := by omega
  obtain ⟨X, hX⟩ : ∃ X, X = mag * 2 ^ (B - e) + 2 ^ (B - 1) := ⟨_, rfl⟩
  have hval : X * 2 ^ (130 - B) = mag * 2 ^ (130 - e) + 2 ^ 129 := by
    rw [hX, Nat.add_mul, Nat.mul_assoc, ← Nat.pow_add, ← Nat.pow_add]
    congr 2
    · congr 1; omega
    · omega
  have hadd : D.add z half = some (D.nearest false X (-(B : Int))) := by
    unfold Format.add
    rw [hr, read_half]
    simp only [Datum.sum, Option.map_some, Format.write]
    have hbase : min (-(e : Int)) (-((53 : Nat) : Int)) = -(B : Int) := by omega
    have e1 : (-(e : Int) - -(B : Int)).toNat = B - e := by omega
    have e2 : (-((53 : Nat) : Int) - -(B : Int)).toNat = B - 53 := by omega
    rw [hbase, e1, e2]
    have hsum : signed false mag (B - e) + signed false 4503599627370496 (B - 53) = ((X : Nat) : Int) := by
      unfold signed
      simp only [Bool.false_eq_true, if_false, Nat.shiftLeft_eq]
      have f1 : 4503599627370496 * 2 ^ (B - 53) = 2 ^ (B - 1) := by
        rw [← k52, ← Nat.pow_add]; congr 1; omega
      rw [f1, hX]; rfl
    rw [hsum, Int.natAbs_natCast]
    have hXp : 0 < X := by rw [hX]; exact Nat.lt_of_lt_of_le (Nat.two_pow_pos (B - 1)) (Nat.le_add_left _ _)
    rw [if_neg (by omega)]
    have hs2 : decide ((X : Int) < 0) = false := by rw [decide_eq_false_iff_not]; exact Int.not_lt.2 (Int.natCast_nonneg _)
    rw [hs2]
  have hp : 0 < 2 ^ (130 - B) := Nat.two_pow_pos _
  have hXhi : X < 2 ^ (B + 1) := by
    have h1 : X * 2 ^ (130 - B) < 2 ^ (B + 1) * 2 ^ (130 - B) := by
      rw [hval, ← Nat.pow_add, show B + 1 + (130 - B) = 131 by omega]
      have : (2 : Nat) ^ 131 = 2 * 2 ^ 130 := by decide
      have : (2 : Nat) ^ 130 = 2 * 2 ^ 129 := by decide
      omega
    exact Nat.lt_of_mul_lt_mul_right h1
  have hXlo : 2 ^ (B - 1) ≤ X := by rw [hX]; exact Nat.le_add_left _ _
  have hX0 : X ≠ 0 := by have := Nat.two_pow_pos (B - 1); omega
  have l1 : B - 1 ≤ X.log2 := (Nat.le_log2 hX0).2 hXlo
  have l2 : X.log2 < B + 1 := (Nat.log2_lt hX0).2 hXhi
  obtain ⟨K, hsc, b1, _, b3⟩ := near_sc X B X.log2 hX0 rfl (by omega) (by omega) (by omega) (by omega)
  exact ⟨_, B, X, X.log2, K, hadd, hval, hB1, hB2, rfl, by omega, by omega, hsc, b1, b3⟩

/-- z + 1/2 has the whole part 0 or 1: as z lies clearly below a half, or at a half and above. -/
theorem half_part (z G : Nat) (h : Sc z G) (hG : G < 2 ^ 130) (hfine : ∀ mag e : Nat, D.read z = .number false mag (-(e : Int)) → e ≤ 64) :
    ∃ s F, D.add z half = some s ∧ Sc s F ∧ (G + 2 ^ 129 + 2 ^ 118 ≤ 2 ^ 130 → F / 2 ^ 130 = 0) ∧ (2 ^ 129 ≤ G → F / 2 ^ 130 = 1) := by
  obtain ⟨s, B, X, lg, K, hadd, hval, hB1, hB2, hlg, l1, l2, hsc, b1, b3⟩ := sc_half z G h hG hfine
  have hd : 2 ^ (lg - 52) * 2 ^ (130 - B) ≤ 2 ^ 78 := by
    rw [← Nat.pow_add]; exact Nat.pow_le_pow_right (by decide) (by omega)
  have hF : 2 * (K * 2 ^ (lg - 52) * 2 ^ (130 - B)) ≤ 2 * (G + 2 ^ 129) + 2 ^ 78 := by
    have h1 := Nat.mul_le_mul_right (2 ^ (130 - B)) b1
    rw [Nat.add_mul, Nat.mul_assoc 2 X, hval, Nat.mul_assoc 2 (K * 2 ^ (lg - 52))] at h1
    exact Nat.le_trans h1 (Nat.add_le_add_left hd _)
  refine ⟨s, _, hadd, hsc, fun hlo => ?_, fun hhi => ?_⟩
  · apply Nat.div_eq_of_lt
    generalize K * 2 ^ (lg - 52) * 2 ^ (130 - B) = F at *
    clear hsc hval b1 b3 hd
    have : (2 : Nat) ^ 118 = 1099511627776 * 2 ^ 78 := by decide
    have : 0 < (2 : Nat) ^ 78 := by decide
    omega
  · have hX : 2 ^ B ≤ X := by
      have h1 : 2 ^ B * 2 ^ (130 - B) ≤ X * 2 ^ (130 - B) := by
        rw [hval, ← Nat.pow_add, show B + (130 - B) = 130 by omega]
        have : (2 : Nat) ^ 130 = 2 * 2 ^ 129 := by decide
        omega
      exact Nat.le_of_mul_le_mul_right h1 (Nat.two_pow_pos _)
    have hK : 2 ^ (B - (lg - 52)) ≤ K := by
      refine Nat.le_trans ?_ b3
      rw [Nat.le_div_iff_mul_le (Nat.two_pow_pos _), ← Nat.pow_add, show B - (lg - 52) + (lg - 52) = B by omega]
      exact hX
    have hge : 2 ^ 130 ≤ K * 2 ^ (lg - 52) * 2 ^ (130 - B) := by
      have h1 := Nat.mul_le_mul_right (2 ^ (130 - B)) (Nat.mul_le_mul_right (2 ^ (lg - 52)) hK)
      rw [← Nat.pow_add, show B - (lg - 52) + (lg - 52) = B by omega, ← Nat.pow_add, show B + (130 - B) = 130 by omega] at h1
      exact h1
    have hlt : K * 2 ^ (lg - 52) * 2 ^ (130 - B) < 2 * 2 ^ 130 := by
      generalize K * 2 ^ (lg - 52) * 2 ^ (130 - B) = F at *
      clear hsc hval b1 b3 hd hX hK
      have : (2 : Nat) ^ 129 = 2251799813685248 * 2 ^ 78 := by decide
      have : (2 : Nat) ^ 130 = 4503599627370496 * 2 ^ 78 := by decide
      have : 0 < (2 : Nat) ^ 78 := by decide
      omega
    have hp : 0 < (2 : Nat) ^ 130 := Nat.two_pow_pos _
    have g1 : 1 ≤ K * 2 ^ (lg - 52) * 2 ^ (130 - B) / 2 ^ 130 := by rw [Nat.le_div_iff_mul_le hp, Nat.one_mul]; exact hge
    have g2 : K * 2 ^ (lg - 52) * 2 ^ (130 - B) / 2 ^ 130 < 2 := by rw [Nat.div_lt_iff_lt_mul hp]; exact hlt
    exact Nat.le_antisymm (Nat.le_of_lt_succ g2) g1

/-- A quotient that is a whole number and a half. -/
theorem div_half (a b c : Nat) (hab : 2 * a = c * b) (ha : 1 ≤ a) (ha2 : a < 2 ^ 53) (hb : 1 ≤ b) (hb2 : b < 2 ^ 53) (hc : c < 2 ^ 53) :
    D.div (fi (a : Int)) (fi (b : Int)) = some (D.nearest false c (-((1 : Nat) : Int))) := by
  rw [div_word a b ha ha2 hb hb2]
  have la := pow52 a ha2
  have lb := pow52 b hb2
  generalize 52 - a.log2 = j at *
  have hj : True := trivial
  obtain ⟨k, hk, hk2⟩ : ∃ k, k = 52 - b.log2 ∧ k ≤ 52 := ⟨_, rfl, Nat.sub_le _ _⟩
  rw [← hk]
  have hn0 : 0 < b * 2 ^ k := Nat.mul_pos (by omega) (Nat.two_pow_pos _)
  have hY : a * 2 ^ j * 2 ^ 54 = c * 2 ^ (j + 53 - k) * (b * 2 ^ k) := by
    have e1 : a * 2 ^ j * 2 ^ 54 = 2 * a * 2 ^ (j + 53) := by
      rw [Nat.mul_assoc, ← Nat.pow_add, show j + 54 = j + 53 + 1 by omega, Nat.pow_succ, Nat.mul_comm 2 a, Nat.mul_assoc a 2, Nat.mul_comm 2]
    have e2 : (2 : Nat) ^ (j + 53) = 2 ^ (j + 53 - k) * 2 ^ k := by rw [← Nat.pow_add]; congr 1; omega
    rw [e1, hab, e2]
    generalize 2 ^ (j + 53 - k) = u
    generalize 2 ^ k = v
    simp only [Nat.mul_assoc, Nat.mul_left_comm]
  rw [hY, Nat.mul_div_cancel _ hn0, Nat.mul_mod_left]
  have e5 : 2 * (c * 2 ^ (j + 53 - k)) + (0 != 0 : Bool).toNat = c * 2 ^ (j + 54 - k) := by
    simp only [bne_self_eq_false, Bool.toNat_false, Nat.add_zero]
    rw [show j + 54 - k = j + 53 - k + 1 by omega, Nat.pow_succ, ← Nat.mul_assoc c, Nat.mul_comm 2]
  rw [e5, nearest_shift false c (j + 54 - k) _ (pow52 c hc) (by omega)]
  congr 2
  omega

/-- What is not too small is not too fine. -/
theorem fine_of (z G : Nat) (h : Sc z G) (hG : 2 ^ 118 ≤ G) : ∀ mag e : Nat, D.read z = .number false mag (-(e : Int)) → e ≤ 64 := by
  intro mag e hr
  obtain ⟨mag', e', hr', _, he, hm, _, rfl⟩ := h
  rw [hr'] at hr
  injection hr with _ h1 h2
  have hee : e' = e := by omega
  subst hee
  rcases Nat.lt_or_ge 64 e' with h | h
  · exfalso
    have h3 : mag' * 2 ^ (130 - e') < 2 ^ 53 * 2 ^ (130 - e') := Nat.mul_lt_mul_of_pos_right (by rw [k53]; exact hm) (Nat.two_pow_pos _)
    have h4 : (2 : Nat) ^ 53 * 2 ^ (130 - e') ≤ 2 ^ 118 := by rw [← Nat.pow_add]; exact Nat.pow_le_pow_right (by decide) (by omega)
    exact absurd (Nat.le_trans hG (Nat.le_of_lt h3)) (by intro h5; exact Nat.lt_irrefl _ (Nat.lt_of_le_of_lt hG (Nat.lt_of_lt_of_le h3 h4)))
  · exact h
end Go.Proofs.YtojicbajcebjjaaGreatDoor
