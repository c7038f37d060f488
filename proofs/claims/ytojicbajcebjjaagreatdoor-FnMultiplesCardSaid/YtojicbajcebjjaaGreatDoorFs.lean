/-
  A quotient, its whole part, its rest, and the rest and a half: the words, in one plain statement.
-/
import Derived.Test.YtojicbajcebjjaaGreatDoorFr
namespace Go.Proofs.YtojicbajcebjjaaGreatDoor
open Ieee

theorem nearest_below (X : Nat) (p : Int) : D.nearest false X p < 9223372036854775808 := by
  by_cases hX : X = 0
  · subst hX
    unfold Format.nearest Format.word
    simp
  · rw [nearest_def false X p hX]
    unfold Format.word
    simp only [Bool.false_eq_true, if_false, kInf]
    exact Nat.lt_of_le_of_lt (Nat.min_le_right _ _) (by decide)

theorem fi_below (q : Nat) : fi (q : Int) < 9223372036854775808 := by
  have hs : decide ((q : Int) < 0) = false := by rw [decide_eq_false_iff_not]; exact Int.not_lt.2 (Int.natCast_nonneg _)
  rw [fi_def, hs]
  exact nearest_below _ _

theorem rest_of (a b q r F G E T : Nat) (hab : a = q * b + r) (hF : F = q * T + G) (h1 : F * b ≤ a * T + 5 * b * E) (h2 : a * T ≤ F * b + 5 * b * E) : G * b ≤ r * T + 5 * b * E ∧ r * T ≤ G * b + 5 * b * E := by
  subst hab hF
  have e1 : (q * T + G) * b = q * b * T + G * b := by rw [Nat.add_mul, Nat.mul_right_comm]
  rw [e1, Nat.add_mul] at h1 h2
  generalize q * b * T = x at *
  generalize G * b = u at *
  generalize r * T = p at *
  generalize 5 * b * E = v at *
  omega

theorem rest_bounds (b r G E T : Nat) (hT : T = 68719476736 * E) (hE : 0 < E) (hb : b ≤ 1000) (hr0 : 0 < r) (g1 : G * b ≤ r * T + 5 * b * E) (g2 : r * T ≤ G * b + 5 * b * E) :
    16777216 * E ≤ G ∧ (2 * r < b → 2 * G + 33554432 * E ≤ T) ∧ (b < 2 * r → T ≤ 2 * G) := by
  obtain ⟨v, hv⟩ : ∃ v, v = b * E := ⟨_, rfl⟩
  have hv1 : v ≤ 1000 * E := by rw [hv]; exact Nat.mul_le_mul_right _ hb
  have e5 : 5 * b * E = 5 * v := by rw [hv, Nat.mul_assoc]
  rw [e5] at g1 g2
  obtain ⟨u, hu⟩ : ∃ u, u = G * b := ⟨_, rfl⟩
  obtain ⟨p, hp⟩ : ∃ p, p = r * T := ⟨_, rfl⟩
  rw [← hu, ← hp] at g1 g2
  have hp1 : T ≤ p := by rw [hp]; exact Nat.le_mul_of_pos_left _ hr0
  refine ⟨?_, fun h => ?_, fun h => ?_⟩
  · rcases Nat.lt_or_ge G (16777216 * E) with h | h
    · exfalso
      have h1 : u ≤ 16777216 * v := by
        have := Nat.mul_le_mul_right b (Nat.le_of_lt h)
        rw [← hu, Nat.mul_assoc, Nat.mul_comm E b, ← hv] at this
        exact this
      omega
    · exact h
  · rcases Nat.lt_or_ge T (2 * G + 33554432 * E) with h0 | h0
    · exfalso
      have h1 : T * b ≤ 2 * u + 33554432 * v := by
        have := Nat.mul_le_mul_right b (Nat.le_of_lt h0)
        rw [Nat.add_mul, Nat.mul_assoc 2, ← hu, Nat.mul_assoc 33554432, Nat.mul_comm E b, ← hv] at this
        exact this
      have h2 : 2 * p + T ≤ T * b := by
        have := Nat.mul_le_mul_left T (show 2 * r + 1 ≤ b from h)
        rw [Nat.mul_add, Nat.mul_one, Nat.mul_left_comm, Nat.mul_comm T r, ← hp] at this
        exact this
      generalize T * b = x at *
      omega
    · exact h0
  · rcases Nat.lt_or_ge (2 * G) T with h0 | h0
    · exfalso
      have h1 : 2 * u ≤ T * b := by
        have := Nat.mul_le_mul_right b (Nat.le_of_lt h0)
        rw [Nat.mul_assoc 2, ← hu] at this
        exact this
      have h2 : T * b + T ≤ 2 * p := by
        have := Nat.mul_le_mul_left T (show b + 1 ≤ 2 * r from h)
        rw [Nat.mul_add, Nat.mul_one, Nat.mul_left_comm, Nat.mul_comm T r, ← hp] at this
        exact this
      generalize T * b = x at *
      omega
    · exact h0

/-- The words on the way: the quotient y of a and b, its rest z behind the whole part q, and that and a half. -/
def Parts (a b q r y z s : Nat) : Prop :=
  D.div (fi (a : Int)) (fi (b : Int)) = some y ∧ y < 9223372036854775808 ∧ (∃ m p, D.read y = .number false m p) ∧
  D.write ((D.read y).integral .zero) = fi (q : Int) ∧ D.sub y (fi (q : Int)) = some z ∧ z < 9223372036854775808 ∧ (r = 0 → z = 0) ∧ (0 < r → D.order z 0 = some .gt) ∧
  D.add z half = some s ∧ (∃ m p, D.read s = .number false m p) ∧ D.write ((D.read s).integral .zero) = fi ((if b ≤ 2 * r then 1 else 0 : Nat) : Int)

theorem below_sub (x y z : Nat) (hs : D.sub x y = some z) (G : Nat) (h : Sc z G) : z < 9223372036854775808 := by
  have h64 : z < 2 ^ 64 := Format.sub_lt D hs
  obtain ⟨mag, e, hr, _⟩ := h
  unfold Format.read at hr
  simp only [kSign] at hr
  rcases Nat.lt_or_ge z 9223372036854775808 with h | h
  · exact h
  · exfalso
    have : z / 9223372036854775808 = 1 := by
      have : (2 : Nat) ^ 64 = 18446744073709551616 := by decide
      omega
    rw [this, show ((1 : Nat) % 2 == 1) = true from rfl] at hr
    split at hr
    · injection hr with h1
      exact absurd h1 (by decide)
    · split at hr
      · injection hr with h1
        exact absurd h1 (by decide)
      · split at hr <;> injection hr

theorem parts_core (a b q r y F : Nat) (hr0 : 0 < r) (hq : q ≤ 1000000) (hd : D.div (fi (a : Int)) (fi (b : Int)) = some y) (hyl : y < 9223372036854775808) (hy : Sc y F)
    (f1 : q * 2 ^ 130 < F) (f2 : F < (q + 1) * 2 ^ 130) (hG0 : 2 ^ 118 ≤ F - q * 2 ^ 130) (hlo : 2 * r < b → F - q * 2 ^ 130 + 2 ^ 129 + 2 ^ 118 ≤ 2 ^ 130) (hhi : b ≤ 2 * r → 2 ^ 129 ≤ F - q * 2 ^ 130) :
    ∃ y z s, Parts a b q r y z s := by
  obtain ⟨z, hz, hzG⟩ := sc_sub y F q hy f1 hq
  have hG : F - q * 2 ^ 130 < 2 ^ 130 := by
    rw [Nat.add_mul, Nat.one_mul] at f2
    generalize q * 2 ^ 130 = x at *
    generalize 2 ^ 130 = T at *
    omega
  obtain ⟨s, Fs, hs, hsS, l0, l1⟩ := half_part z _ hzG hG (fine_of z _ hzG hG0)
  have hw := sc_trunc y F hy
  have hFq : F / 2 ^ 130 = q := Nat.div_eq_of_lt_le (Nat.le_of_lt f1) f2
  rw [hFq] at hw
  obtain ⟨m1, e1, n1⟩ := sc_num y F hy
  obtain ⟨m2, e2, n2⟩ := sc_num s Fs hsS
  refine ⟨y, z, s, hd, hyl, ⟨m1, _, n1⟩, hw, hz, below_sub _ _ _ hz _ hzG, fun h => by omega, fun _ => sc_order z _ hzG, hs, ⟨m2, _, n2⟩, ?_⟩
  rw [sc_trunc s Fs hsS]
  by_cases h : b ≤ 2 * r
  · rw [l1 (hhi h), if_pos h]
  · rw [l0 (hlo (by omega)), if_neg h]

theorem parts_any (a b q r : Nat) (hab : a = q * b + r) (hr : r < b) (ha : a ≤ 1000000) (hb : b ≤ 1000) : ∃ y z s, Parts a b q r y z s := by
  have hq : q ≤ 1000000 := by
    have : q * 1 ≤ q * b := Nat.mul_le_mul_left _ (by omega)
    omega
  have h53a : a < 2 ^ 53 := Nat.lt_of_le_of_lt ha (by decide)
  have h53b : b < 2 ^ 53 := Nat.lt_of_le_of_lt hb (by decide)
  have h53q : q < 2 ^ 53 := Nat.lt_of_le_of_lt hq (by decide)
  rcases Nat.eq_zero_or_pos r with hr0 | hr0
  · subst hr0
    have h1 := div_fi (a : Int) (b : Int) (q : Int) (by rw [hab]; simp) (by rw [Int.natAbs_natCast]; exact h53a) (by rw [Int.natAbs_natCast]; exact h53b) (by omega)
    have h2 := sub_fi (q : Int) (q : Int) (by rw [Int.natAbs_natCast]; exact h53q) (by rw [Int.natAbs_natCast]; exact h53q) (by rw [Int.sub_self]; decide) (.inr (Int.natCast_nonneg _))
    rw [Int.sub_self, show fi 0 = 0 by decide] at h2
    obtain ⟨m, j, h3, _⟩ := read_fi (q : Int) (by rw [Int.natAbs_natCast]; exact h53q)
    have hs : decide ((q : Int) < 0) = false := by rw [decide_eq_false_iff_not]; exact Int.not_lt.2 (Int.natCast_nonneg _)
    rw [hs] at h3
    refine ⟨_, 0, half, h1, fi_below q, ⟨m, _, h3⟩, write_integral_fi _ (by rw [Int.natAbs_natCast]; exact h53q) _, h2, by decide, fun _ => rfl, fun h => absurd h (by decide), by decide +kernel, ⟨_, _, read_half⟩, ?_⟩
    rw [if_neg (by omega)]
    decide
  · have ha1 : 1 ≤ a := by rw [hab]; exact Nat.le_trans hr0 (Nat.le_add_left _ _)
    have hT : (2 : Nat) ^ 130 = 68719476736 * 2 ^ 94 := by decide
    have hE : 0 < (2 : Nat) ^ 94 := Nat.two_pow_pos _
    have k118 : (2 : Nat) ^ 118 = 16777216 * 2 ^ 94 := by decide
    have k129 : (2 : Nat) ^ 129 = 34359738368 * 2 ^ 94 := by decide
    have hdw := div_word a b ha1 h53a (by omega) h53b
    by_cases hh : 2 * r = b
    · have hc : 2 * a = (2 * q + 1) * b := by rw [hab, ← hh, Nat.add_mul (2 * q), Nat.one_mul, Nat.mul_assoc 2 q]; generalize q * (2 * r) = x at *; omega
      have h2q : 2 * q + 1 < 2 ^ 53 := Nat.lt_of_le_of_lt (show 2 * q + 1 ≤ 2000001 by omega) (by decide)
      have hd := div_half a b (2 * q + 1) hc ha1 h53a (by omega) h53b h2q
      have hy := near_exact_sc (2 * q + 1) 1 (by omega) h2q (by omega) (by omega)
      have k130 : (2 : Nat) ^ 130 = 2 * 2 ^ 129 := by decide
      have hF : (2 * q + 1) * 2 ^ (130 - 1) = q * 2 ^ 130 + 2 ^ 129 := by
        rw [k130, Nat.add_mul, Nat.one_mul, Nat.mul_comm 2 q, Nat.mul_assoc]
      rw [hF] at hy
      refine parts_core a b q r _ _ hr0 hq hd (nearest_below _ _) hy ?_ ?_ ?_ ?_ ?_
      · exact Nat.lt_add_of_pos_right (Nat.two_pow_pos _)
      · rw [Nat.add_mul, Nat.one_mul]; exact Nat.add_lt_add_left (by decide) _
      · rw [Nat.add_sub_cancel_left]; decide
      · intro h; omega
      · intro _; rw [Nat.add_sub_cancel_left]; exact Nat.le_refl _
    · obtain ⟨y, F, hd, hy, h1, h2⟩ := div_sc a b ha1 ha (by omega) hb
      obtain ⟨f1, f2⟩ := floor_bd a b q r F hab hr0 hr hb h1 h2
      have hyl : y < 9223372036854775808 := by
        rw [hd] at hdw
        injection hdw with hdw
        rw [hdw]
        exact nearest_below _ _
      obtain ⟨G, hG⟩ : ∃ G, G = F - q * 2 ^ 130 := ⟨_, rfl⟩
      have hFG : F = q * 2 ^ 130 + G := by rw [hG, Nat.add_sub_cancel' (Nat.le_of_lt f1)]
      obtain ⟨g1, g2⟩ := rest_of a b q r F G _ _ hab hFG h1 h2
      obtain ⟨b1, b2, b3⟩ := rest_bounds b r G _ _ hT hE hb hr0 g1 g2
      refine parts_core a b q r y F hr0 hq hd hyl hy f1 f2 ?_ ?_ ?_
      · rw [← hG, k118]; exact b1
      · intro h
        have := b2 h
        rw [← hG, k118, k129]
        rw [hT] at this ⊢
        generalize (2 : Nat) ^ 94 = E at *
        clear hT g1 g2 h1 h2 f1 f2 hFG hG k118 k129
        omega
      · intro h
        have := b3 (by omega)
        rw [← hG, k129]
        rw [hT] at this
        generalize (2 : Nat) ^ 94 = E at *
        clear hT g1 g2 h1 h2 f1 f2 hFG hG k118 k129
        omega
end Go.Proofs.YtojicbajcebjjaaGreatDoor
