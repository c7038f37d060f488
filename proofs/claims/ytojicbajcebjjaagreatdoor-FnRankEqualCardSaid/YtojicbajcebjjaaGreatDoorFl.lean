/-
  Whole numbers as float64: what +, -, *, /, comparison and cutting give on them, by plain arithmetic over the model's Ieee core. No program in sight.
-/
import Derived.Laws.FloatArith
namespace Go.Proofs.YtojicbajcebjjaaGreatDoor
open Ieee

abbrev D : Format := Ieee.double
def fi (n : Int) : Nat := floatOfInt .f64 n

theorem fi_def (n : Int) : fi n = D.nearest (decide (n < 0)) n.natAbs 0 := rfl

theorem cut_exact (s : Bool) (k d : Nat) (way : Toward) (hd : d ≤ (k * 2 ^ d).log2 + 2) : way.cut s (k * 2 ^ d) d = k := by
  have hg : (1 <<< min d ((k * 2 ^ d).log2 + 2)) = 2 ^ d := by
    rw [Nat.min_eq_left hd, Nat.shiftLeft_eq, Nat.one_mul]
  have hp : 0 < 2 ^ d := Nat.two_pow_pos _
  unfold Toward.cut
  simp only [hg, Nat.mul_div_cancel _ hp, Nat.mul_mod_left]
  cases way <;> simp <;> omega

theorem cut_zero (s : Bool) (k : Nat) (way : Toward) : way.cut s k 0 = k := by
  have := cut_exact s k 0 way (by omega)
  simpa using this

theorem log2_mul_pow (m t : Nat) (hm : m ≠ 0) : (m * 2 ^ t).log2 = m.log2 + t := by
  induction t with
  | zero => simp
  | succ t ih =>
    have h0 : m * 2 ^ t ≠ 0 := Nat.mul_ne_zero hm (Nat.pos_iff_ne_zero.1 (Nat.two_pow_pos t))
    rw [Nat.pow_succ, ← Nat.mul_assoc, Nat.mul_comm _ 2, Nat.log2_two_mul h0, ih]
    omega

/-- The last place kept of m * 2^p. -/
def lastOf (m : Nat) (p : Int) : Int := max (p + m.log2 - 52) (-1074)

theorem nearest_def (s : Bool) (m : Nat) (p : Int) (hm : m ≠ 0) :
    D.nearest s m p = D.word s (min ((lastOf m p + 1074).toNat * 2 ^ 52 + Toward.even.cut s (m <<< (p - lastOf m p).toNat) (lastOf m p - p).toNat) D.infRung) := by
  unfold Format.nearest
  rw [if_neg hm]
  have h2 : D.leastPlace = -1074 := by decide
  simp only [h2]
  rfl

/-- What is exact at its place. -/
theorem nearest_exact (s : Bool) (m : Nat) (p : Int) (hm : m ≠ 0) (hp : lastOf m p ≤ p) :
    D.nearest s m p = D.word s (min ((lastOf m p + 1074).toNat * 2 ^ 52 + m * 2 ^ (p - lastOf m p).toNat) D.infRung) := by
  rw [nearest_def s m p hm]
  have : (lastOf m p - p).toNat = 0 := by omega
  rw [this, cut_zero, Nat.shiftLeft_eq]

theorem nearest_shift (s : Bool) (m t : Nat) (p : Int) (hl : m.log2 ≤ 52) (hp : -1074 ≤ p + t) :
    D.nearest s (m * 2 ^ t) p = D.nearest s m (p + t) := by
  by_cases hm : m = 0
  · subst hm; simp [Format.nearest]
  have hp2 : 0 < 2 ^ t := Nat.two_pow_pos _
  have hm' : m * 2 ^ t ≠ 0 := Nat.mul_ne_zero hm (by omega)
  have hlog := log2_mul_pow m t hm
  have hlast : lastOf (m * 2 ^ t) p = lastOf m (p + t) := by unfold lastOf; rw [hlog]; congr 1; omega
  have hle : lastOf m (p + t) ≤ p + t := by unfold lastOf; omega
  rw [nearest_def s _ p hm', nearest_exact s m (p + t) hm hle, hlast]
  congr 2
  generalize hL : lastOf m (p + t) = L at *
  by_cases hc : L ≤ p
  · have h0 : (L - p).toNat = 0 := by omega
    rw [h0, cut_zero, Nat.shiftLeft_eq, Nat.mul_assoc, ← Nat.pow_add]
    congr 3
    omega
  · have h0 : (p - L).toNat = 0 := by omega
    rw [h0, Nat.shiftLeft_zero]
    have hd : (L - p).toNat ≤ t := by omega
    have e : m * 2 ^ t = m * 2 ^ (t - (L - p).toNat) * 2 ^ (L - p).toNat := by
      rw [Nat.mul_assoc, ← Nat.pow_add]; congr 2; omega
    have hlog2 : (m * 2 ^ t).log2 + 2 ≥ (L - p).toNat := by rw [hlog]; omega
    rw [e] at hlog2 ⊢
    rw [cut_exact _ _ _ _ hlog2]
    congr 3
    omega

theorem pow52 (n : Nat) (hn : n < 2 ^ 53) : n.log2 ≤ 52 := by
  by_cases h : n = 0
  · subst h; simp
  · have := (Nat.log2_lt h).2 hn; omega

theorem k52 : (2 : Nat) ^ 52 = 4503599627370496 := by decide
theorem k53 : (2 : Nat) ^ 53 = 9007199254740992 := by decide
theorem kInf : D.infRung = 9218868437227405312 := by decide
theorem kSign : D.signWeight = 9223372036854775808 := by decide
theorem kBin : D.binade = 4503599627370496 := by decide
theorem kLeast : D.leastPlace = -1074 := by decide

theorem read_word (s : Bool) (r : Nat) (h1 : 4503599627370496 ≤ r) (h2 : r < 9218868437227405312) : D.read (D.word s r) = .number s (4503599627370496 + r % 4503599627370496) (-1074 + ((r / 4503599627370496 - 1 : Nat) : Int)) := by
  have hr : r < 9223372036854775808 := by omega
  unfold Format.read Format.word
  simp only [kSign, kBin, kInf, kLeast]
  cases s
  · simp only [Bool.false_eq_true, if_false]
    rw [Nat.mod_eq_of_lt hr, Nat.div_eq_of_lt hr, if_neg (by omega), if_pos h2]
    simp
  · simp only [if_true]
    have e1 : (9223372036854775808 + r) % 9223372036854775808 = r := by omega
    have e2 : (9223372036854775808 + r) / 9223372036854775808 = 1 := by omega
    rw [e1, e2, if_neg (by omega), if_pos h2]
    simp

theorem zero_case (t : Nat) : 0 = (0 : Int).natAbs * 2 ^ t := by simp
theorem read_zero : D.read (fi 0) = .number (decide ((0 : Int) < 0)) 0 (-((1074 : Nat) : Int)) := by decide

theorem scale_lo (a L : Nat) (h52 : L ≤ 52) (hself : 2 ^ L ≤ a) : 4503599627370496 ≤ a * 2 ^ (52 - L) := by
  rw [← k52]
  have e : (2 : Nat) ^ 52 = 2 ^ L * 2 ^ (52 - L) := by rw [← Nat.pow_add]; congr 1; omega
  rw [e]
  exact Nat.mul_le_mul_right _ hself
theorem scale_hi (a L : Nat) (h52 : L ≤ 52) (hlt : a < 2 ^ (L + 1)) : a * 2 ^ (52 - L) < 9007199254740992 := by
  rw [← k53]
  have e : (2 : Nat) ^ 53 = 2 ^ (L + 1) * 2 ^ (52 - L) := by rw [← Nat.pow_add]; congr 1; omega
  rw [e]
  exact Nat.mul_lt_mul_of_pos_right hlt (Nat.two_pow_pos _)

theorem nearest_small (s : Bool) (a L K : Nat) (ha : a ≠ 0) (hL : a.log2 = L) (h52 : L ≤ 52) (hK : a * 2 ^ (52 - L) = K) :
    D.nearest s a 0 = D.word s ((L + 1022) * 4503599627370496 + K) := by
  have hlast : lastOf a 0 = (L : Int) - 52 := by unfold lastOf; omega
  have e := nearest_exact s a 0 ha (by rw [hlast]; omega)
  rw [hlast] at e
  have e1 : ((L : Int) - 52 + 1074).toNat = L + 1022 := by omega
  have e2 : (0 - ((L : Int) - 52)).toNat = 52 - L := by omega
  have k2 : K < 9007199254740992 := by rw [← hK]; exact scale_hi a L h52 (by rw [← hL]; exact Nat.lt_log2_self)
  rw [e1, e2, hK, k52, kInf] at e
  have hmin : min ((L + 1022) * 4503599627370496 + K) 9218868437227405312 = (L + 1022) * 4503599627370496 + K := Nat.min_eq_left (by omega)
  rw [hmin] at e
  exact e

theorem read_small (s : Bool) (L K : Nat) (h52 : L ≤ 52) (k1 : 4503599627370496 ≤ K) (k2 : K < 9007199254740992) :
    D.read (D.word s ((L + 1022) * 4503599627370496 + K)) = .number s K (-((52 - L : Nat) : Int)) := by
  have f1 : ((L + 1022) * 4503599627370496 + K) % 4503599627370496 = K - 4503599627370496 := by omega
  have f2 : ((L + 1022) * 4503599627370496 + K) / 4503599627370496 = L + 1023 := by omega
  have f3 : 4503599627370496 + (K - 4503599627370496) = K := by omega
  have f4 : (-1074 + ((L + 1023 - 1 : Nat) : Int)) = -((52 - L : Nat) : Int) := by omega
  rw [read_word _ _ (by omega) (by omega), f1, f2, f3, f4]

/-- What the word of a whole number reads as. -/
theorem read_fi (n : Int) (hn : n.natAbs < 2 ^ 53) : ∃ (m : Nat) (j : Nat), D.read (fi n) = .number (decide (n < 0)) m (-(j : Int)) ∧ j ≤ 1074 ∧ m = n.natAbs * 2 ^ j := by
  by_cases h0 : n = 0
  · subst h0
    exact ⟨0, 1074, read_zero, Nat.le_refl _, zero_case 1074⟩
  have ha : n.natAbs ≠ 0 := by omega
  have hlog := pow52 n.natAbs hn
  refine ⟨n.natAbs * 2 ^ (52 - n.natAbs.log2), 52 - n.natAbs.log2, ?_, by omega, rfl⟩
  rw [fi_def, nearest_small _ n.natAbs n.natAbs.log2 _ ha rfl hlog rfl]
  exact read_small _ _ _ hlog (scale_lo _ _ hlog (Nat.log2_self_le ha)) (scale_hi _ _ hlog Nat.lt_log2_self)

theorem signed_fi (n : Int) (j u : Nat) : signed (decide (n < 0)) (n.natAbs * 2 ^ j) u = n * 2 ^ (j + u) := by
  unfold signed
  have hp : ((2 ^ (j + u) : Nat) : Int) = 2 ^ (j + u) := by simp
  have e : ((n.natAbs * 2 ^ j) <<< u : Nat) = n.natAbs * 2 ^ (j + u) := by rw [Nat.shiftLeft_eq, Nat.mul_assoc, ← Nat.pow_add]
  rw [e]
  by_cases h : n < 0
  · rw [if_pos (by simpa using h), Int.natCast_mul, hp]
    have : (n.natAbs : Int) = -n := by omega
    rw [this, Int.neg_mul, Int.neg_neg]
  · rw [if_neg (by simpa using h), Int.natCast_mul, hp]
    have : (n.natAbs : Int) = n := by omega
    rw [this]

theorem pow_pos' (k : Nat) : (0 : Int) < 2 ^ k := by
  have : (0 : Int) < ((2 ^ k : Nat) : Int) := by exact_mod_cast Nat.two_pow_pos k
  simpa using this

theorem mul_pow_lt (c : Int) (k : Nat) : (c * 2 ^ k < 0) ↔ c < 0 := by
  have := pow_pos' k
  constructor
  · intro h
    by_cases hc : c < 0
    · exact hc
    · have := Int.mul_nonneg (show 0 ≤ c by omega) (Int.le_of_lt this); omega
  · intro h; exact Int.mul_neg_of_neg_of_pos h this

theorem mul_pow_eq (c : Int) (k : Nat) : (c * 2 ^ k = 0) ↔ c = 0 := by
  have := pow_pos' k
  rw [Int.mul_eq_zero]
  omega

theorem natAbs_mul_pow (c : Int) (k : Nat) : (c * 2 ^ k).natAbs = c.natAbs * 2 ^ k := by
  rw [Int.natAbs_mul, Int.natAbs_pow]; rfl

theorem back (s : Bool) (c : Nat) (k : Nat) (hc : c < 2 ^ 53) : D.nearest s (c * 2 ^ k) (-(k : Int)) = D.nearest s c 0 := by
  rw [nearest_shift s c k _ (pow52 c hc) (by omega)]
  congr 1; omega

theorem sum_fi (a b : Int) (j k : Nat) (hab : (a + b).natAbs < 2 ^ 53) :
    ((Datum.number (decide (a < 0)) (a.natAbs * 2 ^ j) (-(j : Int))).sum (Datum.number (decide (b < 0)) (b.natAbs * 2 ^ k) (-(k : Int)))).map D.write = some (fi (a + b)) := by
  simp only [Datum.sum]
  generalize hB : max j k = B
  have hbase : min (-(j : Int)) (-(k : Int)) = -(B : Int) := by omega
  have e1 : (-(j : Int) - -(B : Int)).toNat = B - j := by omega
  have e2 : (-(k : Int) - -(B : Int)).toNat = B - k := by omega
  rw [hbase, e1, e2, signed_fi, signed_fi]
  have e3 : j + (B - j) = B := by omega
  have e4 : k + (B - k) = B := by omega
  rw [e3, e4, ← Int.add_mul]
  simp only [Option.map_some, Format.write, natAbs_mul_pow]
  rw [back _ _ _ hab, fi_def]
  congr 2
  by_cases h0 : (a + b) * 2 ^ B = 0
  · rw [if_pos h0]
    rw [mul_pow_eq] at h0
    by_cases ha : a < 0 <;> by_cases hb : b < 0 <;> simp [ha, hb] <;> omega
  · rw [if_neg h0]
    exact decide_eq_decide.2 (mul_pow_lt _ _)

theorem add_fi (a b : Int) (ha : a.natAbs < 2 ^ 53) (hb : b.natAbs < 2 ^ 53) (hab : (a + b).natAbs < 2 ^ 53) : D.add (fi a) (fi b) = some (fi (a + b)) := by
  obtain ⟨m, j, hm, _, rfl⟩ := read_fi a ha
  obtain ⟨n, k, hn, _, rfl⟩ := read_fi b hb
  unfold Format.add
  rw [hm, hn]
  exact sum_fi a b j k hab

/-- of a minuend and a subtrahend that is not 0 -/
theorem sub_fi (a b : Int) (ha : a.natAbs < 2 ^ 53) (hb : b.natAbs < 2 ^ 53) (hab : (a - b).natAbs < 2 ^ 53) (h0 : b ≠ 0 ∨ 0 ≤ a) : D.sub (fi a) (fi b) = some (fi (a - b)) := by
  obtain ⟨m, j, hm, _, rfl⟩ := read_fi a ha
  obtain ⟨n, k, hn, _, rfl⟩ := read_fi b hb
  unfold Format.sub
  rw [hm, hn]
  simp only [Datum.opposite]
  by_cases hz : b = 0
  · subst hz
    have hap : 0 ≤ a := by rcases h0 with h | h <;> first | exact absurd rfl h | exact h
    have e : decide (a < 0) = false := by simp; omega
    have h := sum_fi a 0 j k (by simpa using hab)
    simp only [Datum.sum] at h ⊢
    simp only [e, Int.natAbs_zero, Nat.zero_mul, Int.sub_zero, Int.add_zero] at h ⊢
    simp only [signed, Bool.false_and] at h ⊢
    simpa using h
  · have e : (!decide (b < 0)) = decide (-b < 0) := by by_cases hb : b < 0 <;> simp [hb] <;> omega
    rw [e, ← Int.natAbs_neg b, sum_fi a (-b) j k (by rw [← Int.sub_eq_add_neg]; exact hab), Int.sub_eq_add_neg]

theorem mul_fi (a b : Int) (ha : a.natAbs < 2 ^ 53) (hb : b.natAbs < 2 ^ 53) (hab : (a * b).natAbs < 2 ^ 53) (h0 : a * b ≠ 0 ∨ (0 ≤ a ∧ 0 ≤ b)) : D.mul (fi a) (fi b) = some (fi (a * b)) := by
  obtain ⟨m, j, hm, _, rfl⟩ := read_fi a ha
  obtain ⟨n, k, hn, _, rfl⟩ := read_fi b hb
  unfold Format.mul
  rw [hm, hn]
  simp only [Datum.product, Option.map_some, Format.write]
  have e : a.natAbs * 2 ^ j * (b.natAbs * 2 ^ k) = (a * b).natAbs * 2 ^ (j + k) := by
    rw [Int.natAbs_mul, Nat.pow_add]; simp only [Nat.mul_assoc, Nat.mul_left_comm]
  have e2 : -(j : Int) + -(k : Int) = -((j + k : Nat) : Int) := by omega
  rw [e, e2, back _ _ _ hab, fi_def]
  congr 2
  rcases h0 with h | ⟨h1, h2⟩
  · have ha0 : a ≠ 0 := fun e => h (by simp [e])
    have hb0 : b ≠ 0 := fun e => h (by simp [e])
    by_cases x : a < 0 <;> by_cases y : b < 0
    · have := Int.mul_pos_of_neg_of_neg x y; simp [x, y]; omega
    · have := Int.mul_neg_of_neg_of_pos x (show 0 < b by omega); simp [x, y]; omega
    · have := Int.mul_neg_of_pos_of_neg (show 0 < a by omega) y; simp [x, y]; omega
    · have := Int.mul_pos (show 0 < a by omega) (show 0 < b by omega); simp [x, y]; omega
  · have := Int.mul_nonneg h1 h2
    have x : ¬ a < 0 := by omega
    have y : ¬ b < 0 := by omega
    have z : ¬ a * b < 0 := by omega
    simp [x, y, z]

theorem compare_mul_pow (a b : Int) (k : Nat) : compare (a * 2 ^ k) (b * 2 ^ k) = compare a b := by
  have hp := pow_pos' k
  have h1 : a * 2 ^ k < b * 2 ^ k ↔ a < b := Int.mul_lt_mul_right hp
  have h2 : a * 2 ^ k = b * 2 ^ k ↔ a = b := by
    constructor
    · intro h; exact Int.eq_of_mul_eq_mul_right (by omega) h
    · rintro rfl; rfl
  simp only [compare, compareOfLessAndEq, h1, h2]

theorem order_fi (a b : Int) (ha : a.natAbs < 2 ^ 53) (hb : b.natAbs < 2 ^ 53) : D.order (fi a) (fi b) = some (compare a b) := by
  obtain ⟨m, j, hm, _, rfl⟩ := read_fi a ha
  obtain ⟨n, k, hn, _, rfl⟩ := read_fi b hb
  unfold Format.order
  rw [hm, hn]
  simp only [Datum.order]
  generalize hB : max j k = B
  have hbase : min (-(j : Int)) (-(k : Int)) = -(B : Int) := by omega
  have e1 : (-(j : Int) - -(B : Int)).toNat = B - j := by omega
  have e2 : (-(k : Int) - -(B : Int)).toNat = B - k := by omega
  rw [hbase, e1, e2, signed_fi, signed_fi]
  have e3 : j + (B - j) = B := by omega
  have e4 : k + (B - k) = B := by omega
  rw [e3, e4, compare_mul_pow]

/-- A quotient that is whole. -/
theorem div_fi (a b : Int) (q : Int) (hq : a = q * b) (ha : a.natAbs < 2 ^ 53) (hb : b.natAbs < 2 ^ 53) (hb0 : 0 < b) : D.div (fi a) (fi b) = some (fi q) := by
  obtain ⟨m, j, hm, _, hmj⟩ := read_fi a ha
  obtain ⟨n, k, hn, _, hnk⟩ := read_fi b hb
  unfold Format.div
  rw [hm, hn]
  have hn0 : n ≠ 0 := by rw [hnk]; exact Nat.mul_ne_zero (by omega) (by have := Nat.two_pow_pos k; omega)
  simp only [Datum.quotient, if_neg hn0, Option.map_some, Format.write]
  have hbneg : decide (b < 0) = false := by simp; omega
  have haq : decide (a < 0) = decide (q < 0) := by
    by_cases h : q < 0
    · have := Int.mul_neg_of_neg_of_pos h hb0; simp [h]; omega
    · have := Int.mul_nonneg (show 0 ≤ q by omega) (show 0 ≤ b by omega); simp [h]; omega
  rw [hbneg, haq, Bool.xor_false]
  have hfb : D.fractionBits + 2 = 54 := rfl
  rw [hfb]
  have hqa : a.natAbs = q.natAbs * b.natAbs := by rw [hq, Int.natAbs_mul]
  by_cases hq0 : q = 0
  · subst hq0
    have h1 : m = 0 := by rw [hmj, hqa]; simp
    subst h1
    have e0 : 2 * (0 <<< (54 + n.log2 - (0 : Nat).log2) / n) + (0 <<< (54 + n.log2 - (0 : Nat).log2) % n != 0).toNat = 0 := by
      simp only [Nat.zero_shiftLeft, Nat.zero_div, Nat.zero_mod, Nat.mul_zero, bne_self_eq_false, Bool.toNat_false, Nat.add_zero]
    rw [e0]
    unfold Format.nearest
    rw [if_pos rfl]
    decide
  have hbn : b.natAbs ≠ 0 := by omega
  have hqn : q.natAbs ≠ 0 := by omega
  have han : a.natAbs ≠ 0 := by rw [hqa]; exact Nat.mul_ne_zero hqn hbn
  have hlm : m.log2 = a.natAbs.log2 + j := by rw [hmj, log2_mul_pow _ _ han]
  have hln : n.log2 = b.natAbs.log2 + k := by rw [hnk, log2_mul_pow _ _ hbn]
  have hla := pow52 _ ha
  generalize hM : 54 + n.log2 - m.log2 = M
  have hge : k ≤ M + j := by omega
  have hdiv : m <<< M = q.natAbs * 2 ^ (M + j - k) * n := by
    have e9 : M + j = M + j - k + k := by omega
    rw [Nat.shiftLeft_eq, hmj, hnk, hqa, Nat.mul_assoc (q.natAbs * b.natAbs), ← Nat.pow_add, Nat.add_comm j M]
    calc q.natAbs * b.natAbs * 2 ^ (M + j) = q.natAbs * b.natAbs * (2 ^ (M + j - k) * 2 ^ k) := by rw [← Nat.pow_add, ← e9]
      _ = q.natAbs * 2 ^ (M + j - k) * (b.natAbs * 2 ^ k) := by simp only [Nat.mul_assoc, Nat.mul_left_comm]
  rw [hdiv, Nat.mul_div_cancel _ (by omega), Nat.mul_mod_left]
  have e5 : 2 * (q.natAbs * 2 ^ (M + j - k)) + (0 != 0 : Bool).toNat = q.natAbs * 2 ^ (M + j - k + 1) := by
    rw [Nat.pow_succ]; simp only [bne_self_eq_false, Bool.toNat_false, Nat.add_zero]; rw [Nat.mul_comm 2, Nat.mul_assoc]
  have e6 : -(j : Int) - -(k : Int) - (M : Int) - 1 = -((M + j - k + 1 : Nat) : Int) := by omega
  have hqs : q.natAbs < 2 ^ 53 := by
    refine Nat.lt_of_le_of_lt ?_ ha
    rw [hqa]; exact Nat.le_mul_of_pos_right _ (by omega)
  rw [e5, e6, back _ _ _ hqs, fi_def]

theorem integral_fi (n : Int) (hn : n.natAbs < 2 ^ 53) (way : Toward) : (D.read (fi n)).integral way = .number (decide (n < 0)) n.natAbs 0 := by
  obtain ⟨m, j, hm, _, hmj⟩ := read_fi n hn
  rw [hm]
  simp only [Datum.integral]
  have e1 : (-(j : Int)).toNat = 0 := by omega
  have e2 : (-(-(j : Int))).toNat = j := by omega
  rw [e1, e2, Nat.shiftLeft_zero, hmj]
  by_cases h0 : n.natAbs = 0
  · rw [h0]
    have : way.cut (decide (n < 0)) (0 * 2 ^ j) j = 0 := by
      unfold Toward.cut
      cases way <;> simp
    rw [this]
  · rw [cut_exact _ _ _ _ (by rw [log2_mul_pow _ _ h0]; omega)]

theorem write_integral_fi (n : Int) (hn : n.natAbs < 2 ^ 53) (way : Toward) : D.write ((D.read (fi n)).integral way) = fi n := by
  rw [integral_fi n hn way]; rfl

theorem toInt_fi (n : Int) (hn : n.natAbs < 2 ^ 53) (way : Toward) : (D.read (fi n)).toInt way = some n := by
  unfold Datum.toInt
  rw [integral_fi n hn way]
  simp only [signed, Nat.shiftLeft_zero]
  by_cases h : n < 0
  · simp [h]; omega
  · simp [h]; omega

end Go.Proofs.YtojicbajcebjjaaGreatDoor
