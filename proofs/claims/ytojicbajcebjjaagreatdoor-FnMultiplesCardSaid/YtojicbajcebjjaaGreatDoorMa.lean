/-
  math.Modf and math.Copysign over positive words; CEILING, FLOOR, MROUND of whole numbers.
-/
import Derived.Test.YtojicbajcebjjaaGreatDoorM
import Derived.Test.YtojicbajcebjjaaGreatDoorFs
namespace Go.Proofs.YtojicbajcebjjaaGreatDoor
open Go.RowKit
attribute [local go_sem] run_store_float

theorem bv_clear (x : BitVec 64) (h : x.toNat < 2 ^ 63) : x &&& ~~~(BitVec.ofInt 64 9223372036854775808) = x := by
  apply BitVec.eq_of_getLsbD_eq
  intro i hi
  rw [BitVec.getLsbD_and, BitVec.getLsbD_not]
  by_cases h63 : i = 63
  · subst h63
    have : x.getLsbD 63 = false := by rw [← BitVec.testBit_toNat]; exact Nat.testBit_lt_two_pow h
    rw [this, Bool.false_and]
  · have : (BitVec.ofInt 64 9223372036854775808).getLsbD i = false := by
      rw [show BitVec.ofInt 64 9223372036854775808 = BitVec.twoPow 64 63 by decide, BitVec.getLsbD_twoPow]; simp; omega
    rw [this]; simp only [hi, decide_true, Bool.not_false, Bool.and_true]
theorem bv_sign (x : BitVec 64) (h : x.toNat < 2 ^ 63) : x &&& (BitVec.ofInt 64 9223372036854775808) = 0#64 := by
  apply BitVec.eq_of_getLsbD_eq
  intro i _
  rw [BitVec.getLsbD_and]
  by_cases h63 : i = 63
  · subst h63
    have : x.getLsbD 63 = false := by rw [← BitVec.testBit_toNat]; exact Nat.testBit_lt_two_pow h
    rw [this, Bool.false_and]; exact (BitVec.getLsbD_zero).symm
  · have : (BitVec.ofInt 64 9223372036854775808).getLsbD i = false := by
      rw [show BitVec.ofInt 64 9223372036854775808 = BitVec.twoPow 64 63 by decide, BitVec.getLsbD_twoPow]; simp; omega
    rw [this, Bool.and_false]; exact (BitVec.getLsbD_zero).symm
theorem bv_of (x : Nat) (h : x < 9223372036854775808) : (BitVec.ofInt 64 (x : Int)).toNat = x := by
  rw [BitVec.toNat_ofInt]
  omega
theorem wrap_of (x : Nat) (h : x < 9223372036854775808) : IntKind.u64.wrap (x : Int) = x := by
  have e : IntKind.u64.wrap (x : Int) = (x : Int) % 18446744073709551616 := by simp [IntKind.wrap, IntKind.bits, IntKind.signed]
  rw [e]; omega
theorem clear_sign (x : Nat) (h : x < 9223372036854775808) : bits .andNot .u64 (x : Int) 9223372036854775808 = x := by
  show IntKind.u64.wrap ((BitVec.ofInt 64 (x : Int) &&& ~~~(BitVec.ofInt 64 9223372036854775808)).toNat : Int) = x
  rw [bv_clear _ (by rw [bv_of x h]; exact h), bv_of x h, wrap_of x h]
theorem sign_none (x : Nat) (h : x < 9223372036854775808) : bits .and .u64 (x : Int) 9223372036854775808 = 0 := by
  show IntKind.u64.wrap ((BitVec.ofInt 64 (x : Int) &&& (BitVec.ofInt 64 9223372036854775808)).toNat : Int) = 0
  rw [bv_sign _ (by rw [bv_of x h]; exact h)]
  rfl
theorem or_none (x : Nat) (h : x < 9223372036854775808) : bits .or .u64 (x : Int) 0 = x := by
  show IntKind.u64.wrap ((BitVec.ofInt 64 (x : Int) ||| (BitVec.ofInt 64 0)).toNat : Int) = x
  rw [show BitVec.ofInt 64 0 = 0#64 from rfl, BitVec.or_zero, bv_of x h, wrap_of x h]

set_option maxHeartbeats 800000 in
theorem copysign_any (x y : Nat) (w : World) (hx : x < 9223372036854775808) (hy : y < 9223372036854775808) :
    Calls Tryz.prog 117 #[.float .f64 x, .float .f64 y] w fun e w' => e = .returned (.float .f64 x) ∧ w = w' := by
  have h1 := run_bits
  have h2 := run_frombits
  have e1 := clear_sign x hx
  have e2 := sign_none y hy
  have e3 := or_none x hx
  clear hx hy
  go_enter Tryz.func117, Tryz.ntmps117
  go_wp2_with fail
  go_ret
  exact ⟨rfl, rfl⟩

set_option maxHeartbeats 800000 in
theorem modf_any (y q z : Nat) (w : World) (hn : isNum y = true) (hq : cutF .zero y = q) (hs : D.sub y q = some z) (hz : z < 9223372036854775808) (hy : y < 9223372036854775808) :
    Calls Tryz.prog 98 #[.float .f64 y] w fun e w' => e = .returned (.tuple #[.float .f64 q, .float .f64 z]) ∧ w = w' := by
  have hsub := fun (w : World) => run_float_arith (P := Tryz.prog) w .sub 33 .f64 _ _ _ hs
  subst hq
  have HN := Lib.hid hn
  clear hs hn
  go_enter Tryz.func98, Tryz.ntmps98
  go_wp2_with fail
  refine (trunc_any y _ HN.out).mono ?_
  rintro e w1 ⟨rfl, rfl⟩
  go_wp2_with fail
  refine (copysign_any z y _ hz hy).mono ?_
  rintro e w1 ⟨rfl, rfl⟩
  go_wp2_with fail
  go_ret2
  exact ⟨rfl, rfl⟩
end Go.Proofs.YtojicbajcebjjaaGreatDoor
