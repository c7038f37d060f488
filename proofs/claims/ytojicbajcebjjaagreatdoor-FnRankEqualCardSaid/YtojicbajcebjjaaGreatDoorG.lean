/-
  COMBIN over two numbers up to 10.
-/
import Derived.Test.YtojicbajcebjjaaGreatDoorF
namespace Go.Proofs.YtojicbajcebjjaaGreatDoor
open Go.RowKit
attribute [local go_sem] run_store_float

def cbStep (n : Int) (i : Nat) (v : Nat) : Option Nat := (D.div (fi (n + 1 - i)) (fi i)).bind fun q => D.mul v q
/-- The product behind i rounds. -/
def cbv (n : Int) : Nat → Option Nat
  | 0 => some (fi 1)
  | i + 1 => (cbv n i).bind (cbStep n (i + 1))
def choose : Nat → Nat → Nat
  | _, 0 => 1
  | 0, _ + 1 => 0
  | n + 1, k + 1 => choose n k + choose n (k + 1)
def cbOk (n k : Nat) : Bool := match cbv n k with | some v => isNum v && cutF .up v == fi (choose n k) | none => false
theorem tbl : (List.range 11).all (fun n => (List.range (n + 1)).all fun k => cbOk n k) = true := by decide +kernel
theorem cbOk_of (n k : Nat) (hn : n ≤ 10) (hk : k ≤ n) : cbOk n k = true := by
  have := List.all_eq_true.1 tbl n (by simp; omega)
  exact List.all_eq_true.1 this k (by simp; omega)
theorem cbv_some (n k i : Nat) (hn : n ≤ 10) (hk : k ≤ n) (hi : i ≤ k) : ∃ v, cbv n i = some v := by
  have := cbOk_of n i hn (by omega)
  unfold cbOk at this
  split at this
  · rename_i v hv; exact ⟨v, hv⟩
  · cases this
theorem cbv_end (n k : Nat) (v : Nat) (hn : n ≤ 10) (hk : k ≤ n) (h : cbv n k = some v) : isNum v = true ∧ cutF .up v = fi (choose n k) := by
  have := cbOk_of n k hn hk
  unfold cbOk at this
  rw [h] at this
  simpa using this
theorem choose_small : (List.range 11).all (fun n => (List.range (n + 1)).all fun k => decide (choose n k < 1000)) = true := by decide +kernel
theorem choose_lt (n k : Nat) (hn : n ≤ 10) (hk : k ≤ n) : choose n k < 1000 := by
  have := List.all_eq_true.1 choose_small n (by simp; omega)
  simpa using List.all_eq_true.1 this k (by simp; omega)

theorem choose_over (n : Nat) : ∀ k, n < k → choose n k = 0 := by
  induction n with
  | zero => intro k hk; match k, hk with | k + 1, _ => rfl
  | succ n ih =>
    intro k hk
    match k, hk with
    | k + 1, hk => show choose n k + choose n (k + 1) = 0; rw [ih k (by omega), ih (k + 1) (by omega)]
theorem choose_self (n : Nat) : choose n n = 1 := by
  induction n with
  | zero => rfl
  | succ n ih => show choose n n + choose n (n + 1) = 1; rw [ih, choose_over n (n + 1) (by omega)]

theorem fi_one : fi 1 = 4607182418800017408 := by decide

theorem ord_fi (a b : Int) (ha : a.natAbs < 2 ^ 53) (hb : b.natAbs < 2 ^ 53) : FloatKind.f64.format.order (fi a) (fi b) = some (compare a b) := order_fi a b ha hb
theorem cmp_lt {a b : Int} (h : a < b) : compare a b = .lt := by simp [compare, compareOfLessAndEq, h]
theorem cmp_eq (a : Int) : compare a a = .eq := by simp [compare, compareOfLessAndEq]
theorem cmp_gt {a b : Int} (h : b < a) : compare a b = .gt := by
  have h1 : ¬ a < b := by omega
  have h2 : ¬ a = b := by omega
  simp [compare, compareOfLessAndEq, h1, h2]

/-- what a slot's float is as a whole number -/
def toI : Value → Int
  | .float .f64 x => ((D.read x).toInt .zero).getD 0
  | _ => 0
theorem toI_fi (n : Int) (h : n.natAbs < 2 ^ 53) : toI (.float .f64 (fi n)) = n := by
  show ((D.read (fi n)).toInt .zero).getD 0 = n
  rw [toInt_fi n h]; rfl

theorem assert73 (v : Value) (w : World) : (Instr.typeAssert (.iface 73 v) 20 73 false).run Tryz.prog w = .ok v w := by kernel_rfl

theorem newOne (w : World) : Calls Tryz.prog 90 #[.float .f64 4607182418800017408] w fun e w' => e = .returned (.agg #[.string ⟨#[]⟩, .float .f64 (4607182418800017408), .string ⟨#[]⟩, .slice none 0 0, .slice none 0 0, .bool false, .string ⟨#[]⟩, .int .u8 1, .pointer none, .pointer none]) ∧ Below w.heap.size w w' := by
  have := newNum 1 w (by decide)
  rwa [fi_one] at this

/-- The two elements of a list of two. -/
theorem two_cells {w : World} {L : Nat} {es : List Nat} {a b : Value} (hl : IsList w L es [a, b]) : ∃ e0 e1 p0 p1, es = [e0, e1] ∧ Bk w e0 91 #[.pointer (some ⟨e1, 0, none⟩), p0, .pointer (some ⟨L, 0, none⟩), .iface 73 a] ∧ Bk w e1 91 #[.pointer (some ⟨L, 0, none⟩), p1, .pointer (some ⟨L, 0, none⟩), .iface 73 b] := by
  obtain ⟨e0, e1, rfl⟩ : ∃ e0 e1, es = [e0, e1] := by
    have := hl.len
    match es, this with
    | [a, b], _ => exact ⟨a, b, rfl⟩
  obtain ⟨p0, hb0⟩ := hl.elem 0 e0 a rfl rfl
  obtain ⟨p1, hb1⟩ := hl.elem 1 e1 b rfl rfl
  exact ⟨e0, e1, p0, p1, rfl, hb0, hb1⟩

set_option maxRecDepth 100000 in
set_option maxHeartbeats 1600000 in
/-- Both arguments read: the walk as far as the numbers. -/
theorem combin_any (g : Nat) (L : Nat) (es : List Nat) (n k : Nat) (w : World) (hl : IsList w L es [fa n, fa k]) (hn : n ≤ 10) (hk : k ≤ n) :
    Calls Tryz.prog 69 #[.pointer (some ⟨g, 0, none⟩), .pointer (some ⟨L, 0, none⟩)] w fun e w' => e = .returned (.agg #[.string ⟨#[]⟩, .float .f64 (fi (choose n k)), .string ⟨#[]⟩, .slice none 0 0, .slice none 0 0, .bool false, .string ⟨#[]⟩, .int .u8 1, .pointer none, .pointer none]) ∧ Below w.heap.size w w' := by
  obtain ⟨e0, e1, p0, p1, rfl, B0, B1⟩ := two_cells hl
  have l0 := B0.lt
  have l1 := B1.lt
  have lL := hl.root.lt
  have hta := assert73
  go_enter Tryz.func69, Tryz.ntmps69
  go_wp2_with fail
  have R1 := Bk.new w 73 #[.string ⟨#[]⟩, .float .f64 0, .string ⟨#[]⟩, .slice none 0 0, .slice none 0 0, .bool false, .string ⟨#[]⟩, .int .u8 0, .pointer none, .pointer none]
  have bz := (Below.refl _ w).alloc (Nat.le_refl _) (.cells #[.string ⟨#[]⟩, .float .f64 0, .string ⟨#[]⟩, .slice none 0 0, .slice none 0 0, .bool false, .string ⟨#[]⟩, .int .u8 0, .pointer none, .pointer none] 73)
  have hl1 := hl.below bz
  refine (list_len L _ _ _ hl1).mono ?_
  rintro e w1 ⟨rfl, rfl⟩
  go_wp2_with fail
  refine (list_front L e0 [e1] _ _ hl1).mono ?_
  rintro e w1 ⟨rfl, rfl⟩
  have c0 := fun i => (B0.alloc (.cells #[.string ⟨#[]⟩, .float .f64 0, .string ⟨#[]⟩, .slice none 0 0, .slice none 0 0, .bool false, .string ⟨#[]⟩, .int .u8 0, .pointer none, .pointer none] 73)).cell i
  simp only [fa] at c0
  go_wp2_with fail
  refine (toNumber_num n _ (by omega)).mono ?_
  rintro e w1 ⟨rfl, b1⟩
  clear c0
  go_wp2_with fail
  have R2 := (R1.below b1 R1.lt).alloc (.cells #[.string ⟨#[]⟩, .float .f64 (fi n), .string ⟨#[]⟩, .slice none 0 0, .slice none 0 0, .bool false, .string ⟨#[]⟩, .int .u8 1, .pointer none, .pointer none] 73)
  have C2 := ((B1.below bz l1).below b1 (by simp; omega)).alloc (.cells #[.string ⟨#[]⟩, .float .f64 (fi n), .string ⟨#[]⟩, .slice none 0 0, .slice none 0 0, .bool false, .string ⟨#[]⟩, .int .u8 1, .pointer none, .pointer none] 73)
  have hl2 := (hl1.below b1).below ((Below.refl _ w1).alloc (Nat.le_refl _) (.cells #[.string ⟨#[]⟩, .float .f64 (fi n), .string ⟨#[]⟩, .slice none 0 0, .slice none 0 0, .bool false, .string ⟨#[]⟩, .int .u8 1, .pointer none, .pointer none] 73))
  have s2 : w.heap.size < w1.heap.size := by have := b1.size; simp at this; omega
  refine (list_back L e1 [e0] _ _ hl2).mono ?_
  rintro e w2 ⟨rfl, rfl⟩
  have c1 := fun i => C2.cell i
  simp only [fa] at c1
  go_wp2_with fail
  refine (toNumber_num k _ (by omega)).mono ?_
  rintro e w2 ⟨rfl, b2⟩
  clear c1
  have N2 := (Bk.new w1 73 #[.string ⟨#[]⟩, .float .f64 (fi n), .string ⟨#[]⟩, .slice none 0 0, .slice none 0 0, .bool false, .string ⟨#[]⟩, .int .u8 1, .pointer none, .pointer none]).below b2 (by simp)
  have n2 := fun i => N2.cell i
  go_wp2_with fail
  refine (trunc_fi n _ (by omega)).mono ?_
  rintro e w3 ⟨rfl, rfl⟩
  go_wp2_with fail
  refine (trunc_fi k _ (by omega)).mono ?_
  rintro e w3 ⟨rfl, rfl⟩
  clear n2 N2 B0 C2 hl1 hl2 bz
  have R3 := (R2.below b2 R2.lt).alloc (.cells #[.string ⟨#[]⟩, .float .f64 (fi k), .string ⟨#[]⟩, .slice none 0 0, .slice none 0 0, .bool false, .string ⟨#[]⟩, .int .u8 1, .pointer none, .pointer none] 73)
  have K3 := Bk.new w2 73 #[.string ⟨#[]⟩, .float .f64 (fi k), .string ⟨#[]⟩, .slice none 0 0, .slice none 0 0, .bool false, .string ⟨#[]⟩, .int .u8 1, .pointer none, .pointer none]
  have bW : Below w.heap.size w (w2.alloc (.cells #[.string ⟨#[]⟩, .float .f64 (fi k), .string ⟨#[]⟩, .slice none 0 0, .slice none 0 0, .bool false, .string ⟨#[]⟩, .int .u8 1, .pointer none, .pointer none] 73)) := (((((Below.refl _ w).alloc (Nat.le_refl _) (.cells #[.string ⟨#[]⟩, .float .f64 0, .string ⟨#[]⟩, .slice none 0 0, .slice none 0 0, .bool false, .string ⟨#[]⟩, .int .u8 0, .pointer none, .pointer none] 73)).trans (b1.mono (by simp))).alloc (by omega) (.cells #[.string ⟨#[]⟩, .float .f64 (fi n), .string ⟨#[]⟩, .slice none 0 0, .slice none 0 0, .bool false, .string ⟨#[]⟩, .int .u8 1, .pointer none, .pointer none] 73)).trans (b2.mono (by simp; omega))).alloc (by have := b2.size; simp at this; omega) _
  have sW := R3.lt
  clear R1 R2 b1 b2 s2 l0 l1 lL B1 hl
  generalize w2.alloc (.cells #[.string ⟨#[]⟩, .float .f64 (fi k), .string ⟨#[]⟩, .slice none 0 0, .slice none 0 0, .bool false, .string ⟨#[]⟩, .int .u8 1, .pointer none, .pointer none] 73) = W at *
  have k3 := fun i => K3.cell i
  have og : (FloatKind.f64.format.order (fi k) (fi n) == some .gt) = false := by
    rw [ord_fi _ _ (by omega) (by omega)]
    rcases Nat.lt_or_ge k n with h | h
    · rw [cmp_lt (by omega)]; rfl
    · rw [show (k : Int) = n by omega, cmp_eq]; rfl
  by_cases hq : k = n ∨ k = 0
  · have hc : fi (choose n k) = 4607182418800017408 := by
      rw [← fi_one]; congr 1
      rcases hq with rfl | rfl
      · rw [choose_self]; rfl
      · cases n <;> rfl
    have HC := Lib.hid hc
    rcases Nat.eq_or_lt_of_le hk with rfl | hlt
    · have oe : (FloatKind.f64.format.order (fi k) (fi k) == some .eq) = true := by rw [ord_fi _ _ (by omega) (by omega), cmp_eq]; rfl
      clear hc hq
      go_wp2_with fail
      refine (newOne _).mono ?_
      rintro e w4 ⟨rfl, b4⟩
      have R4 := R3.below b4 sW
      have r4 := fun i => R4.cell i
      have q4 := fun i => R4.frozen i
      go_wp2
      refine bodyPost_ret (v := (.agg #[.string ⟨#[]⟩, .float .f64 (4607182418800017408), .string ⟨#[]⟩, .slice none 0 0, .slice none 0 0, .bool false, .string ⟨#[]⟩, .int .u8 1, .pointer none, .pointer none])) (by simp [results, Tryz.results69, go_sem, r4]) rfl ⟨by rw [HC.out], ?_⟩
      repeat refine Below.setCell ?_ (by simp) _
      exact bW.trans (b4.mono (by omega))
    · have hk0 : k = 0 := by omega
      have on : (FloatKind.f64.format.order (fi k) (fi n) == some .eq) = false := by rw [ord_fi _ _ (by omega) (by omega), cmp_lt (by omega)]; rfl
      have oz : (FloatKind.f64.format.order (fi k) 0 == some .eq) = true := by rw [hk0, ord_zero _ (by omega)]; rfl
      clear hk0
      clear hc hq
      go_wp2_with fail
      refine (newOne _).mono ?_
      rintro e w4 ⟨rfl, b4⟩
      have R4 := R3.below b4 sW
      have r4 := fun i => R4.cell i
      have q4 := fun i => R4.frozen i
      go_wp2
      refine bodyPost_ret (v := (.agg #[.string ⟨#[]⟩, .float .f64 (4607182418800017408), .string ⟨#[]⟩, .slice none 0 0, .slice none 0 0, .bool false, .string ⟨#[]⟩, .int .u8 1, .pointer none, .pointer none])) (by simp [results, Tryz.results69, go_sem, r4]) rfl ⟨by rw [HC.out], ?_⟩
      repeat refine Below.setCell ?_ (by simp) _
      exact bW.trans (b4.mono (by omega))
  · have hlt : k < n := by omega
    have hk0 : 0 < k := by omega
    have on : (FloatKind.f64.format.order (fi k) (fi n) == some .eq) = false := by rw [ord_fi _ _ (by omega) (by omega), cmp_lt (by omega)]; rfl
    have oz : (FloatKind.f64.format.order (fi k) 0 == some .eq) = false := by rw [ord_zero _ (by omega), cmp_gt (by omega)]; rfl
    have hadd : ∀ w : World, (binOp .add 33 (.float .f64 (fi n)) (.float .f64 4607182418800017408)).run Tryz.prog w = .ok (.float .f64 (fi (n + 1))) w := fun w => run_float_arith w .add 33 .f64 _ _ _ (by rw [← fi_one]; exact add_fi n 1 (by omega) (by decide) (by omega))
    clear hq
    go_wp2_with fail
    go_loop [7, 10] (fun v c => ∃ i : Nat, 1 ≤ i ∧ i ≤ k + 1 ∧ c = .float .f64 (fi i) ∧ ∃ x, cbv n (i - 1) = some x ∧ v = .float .f64 x) (fun _ c => ((k : Int) + 1 - toI c).toNat)
    case atStart => exact ⟨1, by omega, by omega, by rw [← fi_one]; rfl, fi 1, rfl, by rw [fi_one]⟩
    case round =>
      obtain ⟨i, hi1, hi2, rfl, x, hx, rfl⟩ := hrel
      by_cases hik : i ≤ k
      · have ho : (FloatKind.f64.format.order (fi i) (fi k) == some .lt || FloatKind.f64.format.order (fi i) (fi k) == some .eq) = true := by
          rw [ord_fi _ _ (by omega) (by omega)]
          rcases Nat.lt_or_ge i k with h | h
          · rw [cmp_lt (by omega)]; rfl
          · rw [show (i : Int) = k by omega, cmp_eq]; rfl
        obtain ⟨y, hy⟩ := cbv_some n k i hn hk hik
        obtain ⟨j, rfl⟩ : ∃ j, i = j + 1 := ⟨i - 1, by omega⟩
        simp only [Nat.add_sub_cancel] at hx
        have hy2 := hy
        simp only [cbv, hx, Option.bind_some, cbStep] at hy2
        obtain ⟨q, hdv, hmv⟩ := Option.bind_eq_some_iff.1 hy2
        have HY := Lib.hid hy
        have hsub : ∀ w : World, (binOp .sub 33 (.float .f64 (fi (n + 1))) (.float .f64 (fi ((j + 1 : Nat) : Int)))).run Tryz.prog w = .ok (.float .f64 (fi (n + 1 - (j + 1 : Nat)))) w := fun w => run_float_arith w .sub 33 .f64 _ _ _ (sub_fi (n + 1) (j + 1 : Nat) (by omega) (by omega) (by omega) (by omega))
        have hdiv : ∀ w : World, (binOp .quo 33 (.float .f64 (fi (n + 1 - (j + 1 : Nat)))) (.float .f64 (fi ((j + 1 : Nat) : Int)))).run Tryz.prog w = .ok (.float .f64 q) w := fun w => run_float_arith w .quo 33 .f64 _ _ _ hdv
        have hmul : ∀ w : World, (binOp .mul 33 (.float .f64 x) (.float .f64 q)).run Tryz.prog w = .ok (.float .f64 y) w := fun w => run_float_arith w .mul 33 .f64 _ _ _ hmv
        have hinc : ∀ w : World, (binOp .add 33 (.float .f64 (fi ((j + 1 : Nat) : Int))) (.float .f64 4607182418800017408)).run Tryz.prog w = .ok (.float .f64 (fi ((j + 1 + 1 : Nat) : Int))) w := fun w => run_float_arith w .add 33 .f64 _ _ _ (by rw [← fi_one]; exact add_fi (j + 1 : Nat) 1 (by omega) (by decide) (by omega))
        have t1 := toI_fi ((j + 1 : Nat) : Int) (by omega)
        have t2 := toI_fi ((j + 1 + 1 : Nat) : Int) (by omega)
        have T1 := Lib.hid t1
        have T2 := Lib.hid t2
        clear hx hy hy2 hdv hmv t1 t2
        generalize ha : ((j + 1 : Nat) : Int) = a at *
        generalize hb : ((j + 1 + 1 : Nat) : Int) = b at *
        have HA := Lib.hid ha
        have HB := Lib.hid hb
        clear ha hb
        go_wp2
        go_round
        case rel => exact ⟨j + 1 + 1, by omega, by omega, by rw [HB.out], y, HY.out, rfl⟩
        case measure =>
          rw [T1.out, T2.out]
          have := HA.out
          have := HB.out
          omega
      · obtain rfl : i = k + 1 := by omega
        simp only [Nat.add_sub_cancel] at hx
        obtain ⟨v1, v2⟩ := cbv_end n k x hn hk hx
        have ho : (FloatKind.f64.format.order (fi ((k + 1 : Nat) : Int)) (fi k) == some .lt || FloatKind.f64.format.order (fi ((k + 1 : Nat) : Int)) (fi k) == some .eq) = false := by
          rw [ord_fi _ _ (by omega) (by omega), cmp_gt (by omega)]; rfl
        have H2 := Lib.hid v2
        clear hx v2 hik
        generalize ((k + 1 : Nat) : Int) = a at *
        go_wp2_with fail
        refine (ceil_any x _ v1).mono ?_
        rintro e w4 ⟨rfl, rfl⟩
        rw [H2.out]
        go_wp2_with fail
        refine (newNum (choose n k) _ (by have := choose_lt n k hn hk; omega)).mono ?_
        rintro e w4 ⟨rfl, b4⟩
        have R4 := R3.below b4 sW
        have r4 := fun i => R4.cell i
        have q4 := fun i => R4.frozen i
        go_wp2
        refine bodyPost_ret (v := (.agg #[.string ⟨#[]⟩, .float .f64 (fi (choose n k)), .string ⟨#[]⟩, .slice none 0 0, .slice none 0 0, .bool false, .string ⟨#[]⟩, .int .u8 1, .pointer none, .pointer none])) (by simp [results, Tryz.results69, go_sem, r4]) rfl ⟨rfl, ?_⟩
        repeat refine Below.setCell ?_ (by simp) _
        exact bW.trans (b4.mono (by omega))
end Go.Proofs.YtojicbajcebjjaaGreatDoor
