/-
  fact, FACT; math.Round over whole numbers.
-/
import Derived.Test.YtojicbajcebjjaaGreatDoorL
namespace Go.Proofs.YtojicbajcebjjaaGreatDoor
open Go.RowKit
attribute [local go_sem] run_store_float

def facN : Nat → Nat
  | 0 => 1
  | n + 1 => (n + 1) * facN n

theorem fac_tbl : (List.range 18).all (fun n => decide (1 ≤ facN n ∧ facN n < 2 ^ 53)) = true := by decide +kernel
theorem fac_lt (n : Nat) (h : n ≤ 17) : 1 ≤ facN n ∧ facN n < 2 ^ 53 := by
  have := List.all_eq_true.1 fac_tbl n (by simp; omega)
  exact of_decide_eq_true this
theorem fi_two : fi 2 = 4611686018427387904 := by decide +kernel

set_option maxHeartbeats 800000 in
theorem fact_any (n : Nat) (w : World) (h : n ≤ 17) :
    Calls Tryz.prog 94 #[.float .f64 (fi n)] w fun e w' => e = .returned (.float .f64 (fi (facN n))) ∧ w = w' := by
  go_enter Tryz.func94, Tryz.ntmps94
  go_wp2_with fail
  go_loop [3, 4] (fun v c => ∃ i : Nat, 1 ≤ i ∧ (i ≤ n ∨ i ≤ 1) ∧ c = .float .f64 (fi ((i : Int) + 1)) ∧ v = .float .f64 (fi (facN i))) (fun _ c => ((n : Int) + 1 - toI c).toNat)
  case atStart => exact ⟨1, by omega, by omega, by rw [show ((1 : Nat) : Int) + 1 = 2 from rfl, fi_two], by rw [show ((facN 1 : Nat) : Int) = 1 from rfl, fi_one]⟩
  case round =>
    obtain ⟨i, hi1, hi2, rfl, rfl⟩ := hrel
    by_cases hin : i + 1 ≤ n
    · have ho : (FloatKind.f64.format.order (fi ((i : Int) + 1)) (fi n) == some .lt || FloatKind.f64.format.order (fi ((i : Int) + 1)) (fi n) == some .eq) = true := by
        rw [ord_fi _ _ (by omega) (by omega)]
        rcases Nat.lt_or_ge (i + 1) n with h | h
        · rw [cmp_lt (by omega)]; rfl
        · rw [show (i : Int) + 1 = n by omega, cmp_eq]; rfl
      have f1 := fac_lt i (by omega)
      have f2 := fac_lt (i + 1) (by omega)
      have e2 : (facN (i + 1) : Int) = (facN i : Int) * ((i : Int) + 1) := by
        show (((i + 1) * facN i : Nat) : Int) = _
        rw [Int.natCast_mul, Int.mul_comm]; rfl
      have hmul : ∀ w : World, (binOp .mul 33 (.float .f64 (fi (facN i))) (.float .f64 (fi ((i : Int) + 1)))).run Tryz.prog w = .ok (.float .f64 (fi (facN (i + 1)))) w := fun w => run_float_arith w .mul 33 .f64 _ _ _ (by rw [e2]; exact mul_fi _ _ (by omega) (by omega) (by rw [← e2]; omega) (.inr ⟨by omega, by omega⟩))
      have hinc : ∀ w : World, (binOp .add 33 (.float .f64 (fi ((i : Int) + 1))) (.float .f64 4607182418800017408)).run Tryz.prog w = .ok (.float .f64 (fi ((i : Int) + 1 + 1))) w := fun w => run_float_arith w .add 33 .f64 _ _ _ (by rw [← fi_one]; exact add_fi ((i : Int) + 1) 1 (by omega) (by decide) (by omega))
      have t1 := toI_fi ((i : Int) + 1) (by omega)
      have t2 := toI_fi ((i : Int) + 1 + 1) (by omega)
      have T1 := Lib.hid t1
      have T2 := Lib.hid t2
      clear e2 f1 f2 t1 t2
      go_wp2
      go_round
      case rel => exact ⟨i + 1, by omega, by omega, by rw [show ((i + 1 : Nat) : Int) + 1 = (i : Int) + 1 + 1 by omega], rfl⟩
      case measure =>
        rw [T1.out, T2.out]
        omega
    · have ho : (FloatKind.f64.format.order (fi ((i : Int) + 1)) (fi n) == some .lt || FloatKind.f64.format.order (fi ((i : Int) + 1)) (fi n) == some .eq) = false := by
        rw [ord_fi _ _ (by omega) (by omega), cmp_gt (by omega)]; rfl
      have e : facN i = facN n := by
        rcases hi2 with h | h
        · rw [show i = n by omega]
        · have : i = 1 := by omega
          subst this
          have hn1 : n ≤ 1 := by omega
          match n, hn1 with
          | 0, _ => rfl
          | 1, _ => rfl
      rw [e]
      go_wp2
      go_ret
      exact ⟨rfl, rfl⟩

theorem run_bits (x : Nat) (w : World) : (callFunc 118 #[.float .f64 x]).run Tryz.prog w = .ok (.value (.int .u64 x)) w := by
  rw [run_callFunc_extern Tryz.func118 (by kernel_rfl) (by kernel_rfl) (by kernel_rfl) (show Extern.find Tryz.f118 = some Extern.MathFloatBits.float64bits by kernel_rfl)]
  rfl
theorem run_frombits (n : Int) (w : World) : (callFunc 119 #[.int .u64 n]).run Tryz.prog w = .ok (.value (.float .f64 n.toNat)) w := by
  rw [run_callFunc_extern Tryz.func119 (by kernel_rfl) (by kernel_rfl) (by kernel_rfl) (show Extern.find Tryz.f119 = some Extern.MathFloatBits.float64frombits by kernel_rfl)]
  rfl

def rexp (x : Nat) : Int := bits .and .u64 ((x : Int) / 4503599627370496) 2047
def rfin (x : Nat) : Int := bits .andNot .u64 (IntKind.u64.wrap ((x : Int) + 2251799813685248 / 2 ^ (rexp x - 1023).toNat)) (4503599627370495 / 2 ^ (rexp x - 1023).toNat)
def roundOk (x : Nat) : Bool := decide (x < 18446744073709551616 ∧ 1023 ≤ rexp x ∧ rexp x < 1075 ∧ (rfin x).toNat = x)

set_option maxRecDepth 10000 in
set_option maxHeartbeats 800000 in
theorem round_any (x : Nat) (w : World) (hx : roundOk x = true) :
    Calls Tryz.prog 99 #[.float .f64 x] w fun e w' => e = .returned (.float .f64 x) ∧ w = w' := by
  have h1 := run_bits x
  have h2 := run_frombits
  obtain ⟨hx, h3, h4, h5⟩ := of_decide_eq_true hx
  unfold rfin at h5
  unfold rexp at h3 h4 h5
  go_enter Tryz.func99, Tryz.ntmps99
  go_wp2_with fail
  go_ret
  exact ⟨rfl, rfl⟩

theorem one_cell {w : World} {L : Nat} {es : List Nat} {n : Int} (h : IsList w L es [fa n]) : ∃ e0 p0, es = [e0] ∧ Bk w e0 91 #[.pointer (some ⟨L, 0, none⟩), p0, .pointer (some ⟨L, 0, none⟩), .iface 73 (fa n)] := by
  have hl := h.len
  match es, hl with
  | [e0], _ =>
    obtain ⟨p0, h0⟩ := h.elem 0 e0 _ rfl rfl
    exact ⟨e0, p0, rfl, h0⟩

set_option maxRecDepth 100000 in
set_option maxHeartbeats 1600000 in
/-- FACT over one number. -/
theorem fact_method (g L : Nat) (es : List Nat) (n : Nat) (w : World) (hl : IsList w L es [fa n]) (hn : n ≤ 17) :
    Calls Tryz.prog 76 #[.pointer (some ⟨g, 0, none⟩), .pointer (some ⟨L, 0, none⟩)] w fun e w' => e = .returned (.agg #[.string ⟨#[]⟩, .float .f64 (fi (facN n)), .string ⟨#[]⟩, .slice none 0 0, .slice none 0 0, .bool false, .string ⟨#[]⟩, .int .u8 1, .pointer none, .pointer none]) ∧ Below w.heap.size w w' := by
  obtain ⟨e0, p0, rfl, B0⟩ := one_cell hl
  have l0 := B0.lt
  have lL := hl.root.lt
  have hta := assert73
  have hfl := fac_lt n hn
  go_enter Tryz.func76, Tryz.ntmps76
  go_wp2_with fail
  have R1 := Bk.new w 73 #[.string ⟨#[]⟩, .float .f64 0, .string ⟨#[]⟩, .slice none 0 0, .slice none 0 0, .bool false, .string ⟨#[]⟩, .int .u8 0, .pointer none, .pointer none]
  have bz := (Below.refl _ w).alloc (Nat.le_refl _) (.cells #[.string ⟨#[]⟩, .float .f64 0, .string ⟨#[]⟩, .slice none 0 0, .slice none 0 0, .bool false, .string ⟨#[]⟩, .int .u8 0, .pointer none, .pointer none] 73)
  have hl1 := hl.below bz
  refine (list_len L _ _ _ hl1).mono ?_
  rintro e w1 ⟨rfl, rfl⟩
  go_wp2_with fail
  refine (list_front L e0 [] _ _ hl1).mono ?_
  rintro e w1 ⟨rfl, rfl⟩
  have c0 := fun i => (B0.alloc (.cells #[.string ⟨#[]⟩, .float .f64 0, .string ⟨#[]⟩, .slice none 0 0, .slice none 0 0, .bool false, .string ⟨#[]⟩, .int .u8 0, .pointer none, .pointer none] 73)).cell i
  simp only [fa] at c0
  go_wp2_with fail
  refine (toNumber_num n _ (by omega)).mono ?_
  rintro e w1 ⟨rfl, b1⟩
  clear c0
  have s2 : w.heap.size < w1.heap.size := by have := b1.size; simp at this; omega
  have R3 := (R1.below b1 R1.lt).alloc (.cells #[.string ⟨#[]⟩, .float .f64 (fi n), .string ⟨#[]⟩, .slice none 0 0, .slice none 0 0, .bool false, .string ⟨#[]⟩, .int .u8 1, .pointer none, .pointer none] 73)
  have K3 := Bk.new w1 73 #[.string ⟨#[]⟩, .float .f64 (fi n), .string ⟨#[]⟩, .slice none 0 0, .slice none 0 0, .bool false, .string ⟨#[]⟩, .int .u8 1, .pointer none, .pointer none]
  have bW : Below w.heap.size w (w1.alloc (.cells #[.string ⟨#[]⟩, .float .f64 (fi n), .string ⟨#[]⟩, .slice none 0 0, .slice none 0 0, .bool false, .string ⟨#[]⟩, .int .u8 1, .pointer none, .pointer none] 73)) := ((((Below.refl _ w).alloc (Nat.le_refl _) (.cells #[.string ⟨#[]⟩, .float .f64 0, .string ⟨#[]⟩, .slice none 0 0, .slice none 0 0, .bool false, .string ⟨#[]⟩, .int .u8 0, .pointer none, .pointer none] 73)).trans (b1.mono (by simp))).alloc (by omega) (.cells #[.string ⟨#[]⟩, .float .f64 (fi n), .string ⟨#[]⟩, .slice none 0 0, .slice none 0 0, .bool false, .string ⟨#[]⟩, .int .u8 1, .pointer none, .pointer none] 73))
  have sW := R3.lt
  have oz : (FloatKind.f64.format.order (fi n) 0 == some .lt) = false := by
    rw [ord_zero _ (by omega)]
    rcases Nat.eq_zero_or_pos n with h | h
    · subst h; rfl
    · rw [cmp_gt (by omega)]; rfl
  go_wp2_with fail
  have k3 := fun i => K3.cell i
  generalize w1.alloc (.cells #[.string ⟨#[]⟩, .float .f64 (fi n), .string ⟨#[]⟩, .slice none 0 0, .slice none 0 0, .bool false, .string ⟨#[]⟩, .int .u8 1, .pointer none, .pointer none] 73) = W at *
  go_wp2_with fail
  refine (fact_any n _ hn).mono ?_
  rintro e w2 ⟨rfl, rfl⟩
  go_wp2_with fail
  refine (newNum (facN n) _ (by omega)).mono ?_
  rintro e w4 ⟨rfl, b4⟩
  have R4 := R3.below b4 sW
  have r4 := fun i => R4.cell i
  have q4 := fun i => R4.frozen i
  clear hl1 bz b1 R1 hl
  go_wp2
  refine bodyPost_ret (v := (.agg #[.string ⟨#[]⟩, .float .f64 (fi (facN n)), .string ⟨#[]⟩, .slice none 0 0, .slice none 0 0, .bool false, .string ⟨#[]⟩, .int .u8 1, .pointer none, .pointer none])) (by simp [results, Tryz.results76, go_sem, r4]) rfl ⟨rfl, ?_⟩
  repeat refine Below.setCell ?_ (by simp) _
  exact bW.trans (b4.mono (by omega))
end Go.Proofs.YtojicbajcebjjaaGreatDoor
