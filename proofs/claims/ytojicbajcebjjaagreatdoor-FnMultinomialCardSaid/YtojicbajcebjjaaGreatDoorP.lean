/-
  PERMUT; the reference's ordered choices.
-/
import Derived.Test.YtojicbajcebjjaaGreatDoorM
import Derived.Deep.RegionWith
import Derived.StillTailTactics
namespace Go.Proofs.YtojicbajcebjjaaGreatDoor
open Go.RowKit
attribute [local go_sem] run_store_float

/-- ordered choices -/
def fallN (n k : Nat) : Nat := facN n / facN (n - k)
def fallOk (n k : Nat) : Bool := decide (facN n = fallN n k * facN (n - k) ∧ 1 ≤ fallN n k ∧ fallN n k ≤ 1000000 ∧ fallN n k = choose n k * facN k) && roundOk (fi (fallN n k))
theorem fall_tbl : (List.range 10).all (fun n => (List.range (n + 1)).all fun k => fallOk n k) = true := by decide +kernel
theorem fallOk_of (n k : Nat) (hn : n ≤ 9) (hk : k ≤ n) : (facN n = fallN n k * facN (n - k) ∧ 1 ≤ fallN n k ∧ fallN n k ≤ 1000000 ∧ fallN n k = choose n k * facN k) ∧ roundOk (fi (fallN n k)) = true := by
  have := List.all_eq_true.1 fall_tbl n (by simp; omega)
  have := List.all_eq_true.1 this k (by simp; omega)
  unfold fallOk at this
  rw [Bool.and_eq_true] at this
  exact ⟨of_decide_eq_true this.1, this.2⟩

set_option maxRecDepth 100000 in
set_option maxHeartbeats 1600000 in
theorem permut_method (g L : Nat) (es : List Nat) (n k : Nat) (w : World) (hl : IsList w L es [fa n, fa k]) (hn : n ≤ 9) (hk : k ≤ n) :
    Calls Tryz.prog 75 #[.pointer (some ⟨g, 0, none⟩), .pointer (some ⟨L, 0, none⟩)] w fun e w' => e = .returned (.agg #[.string ⟨#[]⟩, .float .f64 (fi (fallN n k)), .string ⟨#[]⟩, .slice none 0 0, .slice none 0 0, .bool false, .string ⟨#[]⟩, .int .u8 1, .pointer none, .pointer none]) ∧ Below w.heap.size w w' := by
  obtain ⟨e0, e1, p0, p1, rfl, B0, B1⟩ := two_cells hl
  have l0 := B0.lt
  have l1 := B1.lt
  have lL := hl.root.lt
  have hta := assert73
  obtain ⟨⟨f1, f2, f3, f4⟩, f5⟩ := fallOk_of n k hn hk
  go_enter Tryz.func75, Tryz.ntmps75
  go_wp2_with fail
  have R1 := Bk.new w 73 #[.string ⟨#[]⟩, .float .f64 0, .string ⟨#[]⟩, .slice none 0 0, .slice none 0 0, .bool false, .string ⟨#[]⟩, .int .u8 0, .pointer none, .pointer none]
  have bz := (Below.refl _ w).alloc (Nat.le_refl _) (.cells #[.string ⟨#[]⟩, .float .f64 0, .string ⟨#[]⟩, .slice none 0 0, .slice none 0 0, .bool false, .string ⟨#[]⟩, .int .u8 0, .pointer none, .pointer none] 73)
  have hl1 := hl.below bz
  refine (list_len L _ _ _ hl1).mono ?_
  rintro e w1 ⟨rfl, rfl⟩
  go_wp2_with fail
  refine (list_front L e0 [e1] _ _ hl1).mono ?_
  rintro e w1 ⟨rfl, rfl⟩
  have c0 := fun i => (B0.alloc (.cells #[.string ⟨#[]⟩, .float .f64 0, .string ⟨#[]⟩, .slice none 0 0, .slice none 0 0, .bool false, .string ⟨#[]⟩, .int .u8 0, .pointer none, .pointer none] 73)).cell i
  simp only [fa] at c0
  go_wp2_with fail
  refine (toNumber_num n _ (by omega)).mono ?_
  rintro e w1 ⟨rfl, b1⟩
  clear c0
  go_wp2_with fail
  have R2 := (R1.below b1 R1.lt).alloc (.cells #[.string ⟨#[]⟩, .float .f64 (fi n), .string ⟨#[]⟩, .slice none 0 0, .slice none 0 0, .bool false, .string ⟨#[]⟩, .int .u8 1, .pointer none, .pointer none] 73)
  have C2 := ((B1.below bz l1).below b1 (by simp; omega)).alloc (.cells #[.string ⟨#[]⟩, .float .f64 (fi n), .string ⟨#[]⟩, .slice none 0 0, .slice none 0 0, .bool false, .string ⟨#[]⟩, .int .u8 1, .pointer none, .pointer none] 73)
  have hl2 := (hl1.below b1).below ((Below.refl _ w1).alloc (Nat.le_refl _) (.cells #[.string ⟨#[]⟩, .float .f64 (fi n), .string ⟨#[]⟩, .slice none 0 0, .slice none 0 0, .bool false, .string ⟨#[]⟩, .int .u8 1, .pointer none, .pointer none] 73))
  have s2 : w.heap.size < w1.heap.size := by have := b1.size; simp at this; omega
  refine (list_back L e1 [e0] _ _ hl2).mono ?_
  rintro e w2 ⟨rfl, rfl⟩
  have c1 := fun i => C2.cell i
  simp only [fa] at c1
  go_wp2_with fail
  refine (toNumber_num k _ (by omega)).mono ?_
  rintro e w2 ⟨rfl, b2⟩
  clear c1
  have N2 := (Bk.new w1 73 #[.string ⟨#[]⟩, .float .f64 (fi n), .string ⟨#[]⟩, .slice none 0 0, .slice none 0 0, .bool false, .string ⟨#[]⟩, .int .u8 1, .pointer none, .pointer none]).below b2 (by simp)
  have N3 := N2.alloc (.cells #[.string ⟨#[]⟩, .float .f64 (fi k), .string ⟨#[]⟩, .slice none 0 0, .slice none 0 0, .bool false, .string ⟨#[]⟩, .int .u8 1, .pointer none, .pointer none] 73)
  have n2 := fun i => N3.cell i
  have og : (FloatKind.f64.format.order (fi n) (fi k) == some .lt) = false := by
    rw [ord_fi _ _ (by omega) (by omega)]
    rcases Nat.lt_or_ge k n with h | h
    · rw [cmp_gt (by omega)]; rfl
    · rw [show (k : Int) = n by omega, cmp_eq]; rfl
  go_wp2_with fail
  have R3 := (R2.below b2 R2.lt).alloc (.cells #[.string ⟨#[]⟩, .float .f64 (fi k), .string ⟨#[]⟩, .slice none 0 0, .slice none 0 0, .bool false, .string ⟨#[]⟩, .int .u8 1, .pointer none, .pointer none] 73)
  have K3 := Bk.new w2 73 #[.string ⟨#[]⟩, .float .f64 (fi k), .string ⟨#[]⟩, .slice none 0 0, .slice none 0 0, .bool false, .string ⟨#[]⟩, .int .u8 1, .pointer none, .pointer none]
  have bW : Below w.heap.size w (w2.alloc (.cells #[.string ⟨#[]⟩, .float .f64 (fi k), .string ⟨#[]⟩, .slice none 0 0, .slice none 0 0, .bool false, .string ⟨#[]⟩, .int .u8 1, .pointer none, .pointer none] 73)) := (((((Below.refl _ w).alloc (Nat.le_refl _) (.cells #[.string ⟨#[]⟩, .float .f64 0, .string ⟨#[]⟩, .slice none 0 0, .slice none 0 0, .bool false, .string ⟨#[]⟩, .int .u8 0, .pointer none, .pointer none] 73)).trans (b1.mono (by simp))).alloc (by omega) (.cells #[.string ⟨#[]⟩, .float .f64 (fi n), .string ⟨#[]⟩, .slice none 0 0, .slice none 0 0, .bool false, .string ⟨#[]⟩, .int .u8 1, .pointer none, .pointer none] 73)).trans (b2.mono (by simp; omega))).alloc (by have := b2.size; simp at this; omega) _
  have sW := R3.lt
  have ne1 : w.heap.size ≠ w1.heap.size := by omega
  have ne2 : w.heap.size ≠ w2.heap.size := by have := b2.size; simp at this; omega
  clear n2 N2 B0 C2 hl1 hl2 bz R1 R2 b1 b2 s2 l0 l1 lL B1 hl hta
  generalize w2.alloc (.cells #[.string ⟨#[]⟩, .float .f64 (fi k), .string ⟨#[]⟩, .slice none 0 0, .slice none 0 0, .bool false, .string ⟨#[]⟩, .int .u8 1, .pointer none, .pointer none] 73) = W at *
  generalize w1.heap.size = a1 at *
  generalize w2.heap.size = a2 at *
  have k3 := fun i => K3.cell i
  have n3 := fun i => N3.cell i
  have hnk : ((n : Int) - (k : Int)) = ((n - k : Nat) : Int) := by omega
  have hfn := fac_lt n (by omega)
  have hfk := fac_lt (n - k) (by omega)
  have hsub : ∀ w : World, (binOp .sub 33 (.float .f64 (fi n)) (.float .f64 (fi k))).run Tryz.prog w = .ok (.float .f64 (fi ((n - k : Nat) : Int))) w := fun w => run_float_arith w .sub 33 .f64 _ _ _ (by rw [← hnk]; exact sub_fi n k (by omega) (by omega) (by omega) (by omega))
  have hdiv : ∀ w : World, (binOp .quo 33 (.float .f64 (fi (facN n))) (.float .f64 (fi (facN (n - k))))).run Tryz.prog w = .ok (.float .f64 (fi (fallN n k))) w := fun w => run_float_arith w .quo 33 .f64 _ _ _ (div_fi _ _ _ (by rw [f1, Int.natCast_mul]) (by omega) (by omega) (by omega))
  have HF5 := Lib.hid f5
  have HF3 := Lib.hid f3
  clear f1 f4 hnk hfn hfk f3
  clear f5
  refine wp_region_still_tail 11 (by kernel_rfl) (by kernel_rfl) ?_
  simp only [List.take_succ_cons, List.take_zero, List.drop_succ_cons, List.drop_zero]
  still_step
  still_step
  still_call ((fact_any n _ (by omega)).mono fun _ _ h => ⟨h.1, h.2.symm⟩)
  still_step
  still_step
  still_step
  still_step
  still_step
  still_call ((fact_any (n - k) _ (by omega)).mono fun _ _ h => ⟨h.1, h.2.symm⟩)
  still_step
  still_call ((round_any _ _ HF5.out).mono fun _ _ h => ⟨h.1, h.2.symm⟩)
  refine wpStill_nil ?_
  have bW2 : Below w.heap.size w W.drew := ⟨bW.os, bW.tape, bW.output, bW.size, bW.block⟩
  have R3 : Bk W.drew w.heap.size 73 #[.string ⟨#[]⟩, .float .f64 0, .string ⟨#[]⟩, .slice none 0 0, .slice none 0 0, .bool false, .string ⟨#[]⟩, .int .u8 0, .pointer none, .pointer none] := R3
  have sW : w.heap.size < W.drew.heap.size := sW
  have hf3 := HF3.out
  clear n3 k3 K3 N3 bW hsub hdiv
  change wpList _ _ _ _ _ W.drew
  generalize W.drew = W2 at *
  go_wp2_with fail
  refine (newNum (fallN n k) _ (by omega)).mono ?_
  rintro e w4 ⟨rfl, b4⟩
  have R4 := R3.below b4 sW
  have r4 := fun i => R4.cell i
  have q4 := fun i => R4.frozen i
  go_wp2
  refine bodyPost_ret (v := (.agg #[.string ⟨#[]⟩, .float .f64 (fi (fallN n k)), .string ⟨#[]⟩, .slice none 0 0, .slice none 0 0, .bool false, .string ⟨#[]⟩, .int .u8 1, .pointer none, .pointer none])) (by simp [results, Tryz.results75, go_sem, r4]) rfl ⟨rfl, ?_⟩
  repeat refine Below.setCell ?_ (by simp) _
  exact bW2.trans (b4.mono (by omega))

set_option maxRecDepth 100000 in
set_option maxHeartbeats 800000 in
theorem door_PERMUT (B : Nat) (A : Option Addr) (len c : Nat) (ns : List Int) (r : Int) (w : World) (hlen : ns.length = len) (hl : len ≤ 1000) (hr : Rd w B A (nvs ns)) (hB : B ≤ w.heap.size) (hs : ∀ n ∈ ns, n.natAbs < 2 ^ 53)
    (hM : ∀ (g L : Nat) (es : List Nat) (w : World), IsList w L es (ns.map fa) → Calls Tryz.prog 75 #[.pointer (some ⟨g, 0, none⟩), .pointer (some ⟨L, 0, none⟩)] w fun e w' => e = .returned (.agg #[.string ⟨#[]⟩, .float .f64 (fi r), .string ⟨#[]⟩, .slice none 0 0, .slice none 0 0, .bool false, .string ⟨#[]⟩, .int .u8 1, .pointer none, .pointer none]) ∧ Below w.heap.size w w') :
    Calls Tryz.prog 58 #[.slice A len c] w fun e w' => e = .returned (.agg #[.int .i64 1, .float .f64 (fi r), .string ⟨#[]⟩, .slice none 0 0]) ∧ Below w.heap.size w w' := by
  have HL := Lib.hid hlen
  have HM := Lib.hid hM
  have HS := Lib.hid hs
  clear hlen hM hs
  go_enter Tryz.func58, Tryz.ntmps58
  go_wp2_with fail
  have R1 := Bk.new w 59 #[.int .i64 0, .float .f64 0, .string ⟨#[]⟩, .slice none 0 0]
  have bz := (Below.refl _ w).alloc (Nat.le_refl _) (.cells #[.int .i64 0, .float .f64 0, .string ⟨#[]⟩, .slice none 0 0] 59)
  have s0 : w.heap.size < (w.alloc (.cells #[.int .i64 0, .float .f64 0, .string ⟨#[]⟩, .slice none 0 0] 59)).heap.size := by simp
  generalize w.alloc (.cells #[.int .i64 0, .float .f64 0, .string ⟨#[]⟩, .slice none 0 0] 59) = w0 at *
  refine (doorFuncs_any _).mono ?_
  rintro e w1 ⟨rfl, b1, _⟩
  have hr1 := (hr.below (bz.mono hB)).below (b1.mono (by omega))
  have s1 := b1.size
  go_wp2_with fail
  refine (innerList_nums B A len c ns _ HL.out hl hr1 (by omega) HS.out).mono ?_
  rintro e w2 ⟨L, es, rfl, hlist, hLL, b2⟩
  have s2 := b2.size
  go_wp2_with fail
  refine (HM.out _ L es _ hlist).mono ?_
  rintro e w3 ⟨rfl, b3⟩
  have s3 := b3.size
  go_wp2_with fail
  refine (doorArg_num r _).mono ?_
  rintro e w4 ⟨rfl, b4⟩
  have R4 := (((R1.later b1).later b2).later b3).later b4
  have r4 := fun i => R4.cell i
  have q4 := fun i => R4.frozen i
  have b := (((bz.trans (b1.mono (by omega))).trans (b2.mono (by omega))).trans (b3.mono (by omega))).trans (b4.mono (by omega))
  clear bz b1 b2 b3 b4 hlist hr1 hr
  go_wp2
  refine bodyPost_ret (v := (.agg #[.int .i64 1, .float .f64 (fi r), .string ⟨#[]⟩, .slice none 0 0])) (by simp [results, Tryz.results58, go_sem, r4]) rfl ⟨rfl, ?_⟩
  repeat refine Below.setCell ?_ (by simp) _
  exact b

set_option maxRecDepth 100000 in
set_option maxHeartbeats 800000 in
theorem impl_PERMUT (B : Nat) (A : Option Addr) (len c : Nat) (ns : List Int) (r : Int) (w : World) (hlen : ns.length = len) (hl : len ≤ 1000) (hr : Rd w B A (nvs ns)) (hB : B ≤ w.heap.size) (hs : ∀ n ∈ ns, n.natAbs < 2 ^ 53)
    (hM : ∀ (g L : Nat) (es : List Nat) (w : World), IsList w L es (ns.map fa) → Calls Tryz.prog 75 #[.pointer (some ⟨g, 0, none⟩), .pointer (some ⟨L, 0, none⟩)] w fun e w' => e = .returned (.agg #[.string ⟨#[]⟩, .float .f64 (fi r), .string ⟨#[]⟩, .slice none 0 0, .slice none 0 0, .bool false, .string ⟨#[]⟩, .int .u8 1, .pointer none, .pointer none]) ∧ Below w.heap.size w w') :
    Calls Tryz.prog 36 #[.slice A len c] w fun e w' => e = .returned (.agg #[.int .i64 1, .float .f64 (fi r), .string ⟨#[]⟩, .slice none 0 0]) ∧ Below w.heap.size w w' := by
  have HL := Lib.hid hlen
  have HM := Lib.hid hM
  have HS := Lib.hid hs
  clear hlen hM hs
  go_enter Tryz.func36, Tryz.ntmps36
  go_wp2_with fail
  have R1 := Bk.new w 36 #[.int .i64 0, .float .f64 0, .string ⟨#[]⟩, .slice none 0 0]
  have bz := (Below.refl _ w).alloc (Nat.le_refl _) (.cells #[.int .i64 0, .float .f64 0, .string ⟨#[]⟩, .slice none 0 0] 36)
  have s0 : w.heap.size < (w.alloc (.cells #[.int .i64 0, .float .f64 0, .string ⟨#[]⟩, .slice none 0 0] 36)).heap.size := by simp
  generalize w.alloc (.cells #[.int .i64 0, .float .f64 0, .string ⟨#[]⟩, .slice none 0 0] 36) = w0 at *
  have hr0 := hr.below (bz.mono hB)
  refine (in_nums B A len c ns _ HL.out hl hr0 (by omega)).mono ?_
  rintro e w1 ⟨A1, c1, rfl, hr1, b1⟩
  have s1 := b1.size
  go_wp2_with fail
  refine (door_PERMUT w1.heap.size A1 len c1 ns r _ HL.out hl hr1 (Nat.le_refl _) HS.out HM.out).mono ?_
  rintro e w2 ⟨rfl, b2⟩
  have s2 := b2.size
  go_wp2_with fail
  refine (out_num r _).mono ?_
  rintro e w4 ⟨rfl, b4⟩
  have R4 := ((R1.later b1).later b2).later b4
  have r4 := fun i => R4.cell i
  have q4 := fun i => R4.frozen i
  have b := ((bz.trans (b1.mono (by omega))).trans (b2.mono (by omega))).trans (b4.mono (by omega))
  clear bz b1 b2 b4 hr1 hr hr0
  go_wp2
  refine bodyPost_ret (v := (.agg #[.int .i64 1, .float .f64 (fi r), .string ⟨#[]⟩, .slice none 0 0])) (by simp [results, Tryz.results36, go_sem, r4]) rfl ⟨rfl, ?_⟩
  repeat refine Below.setCell ?_ (by simp) _
  exact b

set_option maxRecDepth 100000 in
set_option maxHeartbeats 800000 in
theorem door_FACT (B : Nat) (A : Option Addr) (len c : Nat) (ns : List Int) (r : Int) (w : World) (hlen : ns.length = len) (hl : len ≤ 1000) (hr : Rd w B A (nvs ns)) (hB : B ≤ w.heap.size) (hs : ∀ n ∈ ns, n.natAbs < 2 ^ 53)
    (hM : ∀ (g L : Nat) (es : List Nat) (w : World), IsList w L es (ns.map fa) → Calls Tryz.prog 76 #[.pointer (some ⟨g, 0, none⟩), .pointer (some ⟨L, 0, none⟩)] w fun e w' => e = .returned (.agg #[.string ⟨#[]⟩, .float .f64 (fi r), .string ⟨#[]⟩, .slice none 0 0, .slice none 0 0, .bool false, .string ⟨#[]⟩, .int .u8 1, .pointer none, .pointer none]) ∧ Below w.heap.size w w') :
    Calls Tryz.prog 59 #[.slice A len c] w fun e w' => e = .returned (.agg #[.int .i64 1, .float .f64 (fi r), .string ⟨#[]⟩, .slice none 0 0]) ∧ Below w.heap.size w w' := by
  have HL := Lib.hid hlen
  have HM := Lib.hid hM
  have HS := Lib.hid hs
  clear hlen hM hs
  go_enter Tryz.func59, Tryz.ntmps59
  go_wp2_with fail
  have R1 := Bk.new w 59 #[.int .i64 0, .float .f64 0, .string ⟨#[]⟩, .slice none 0 0]
  have bz := (Below.refl _ w).alloc (Nat.le_refl _) (.cells #[.int .i64 0, .float .f64 0, .string ⟨#[]⟩, .slice none 0 0] 59)
  have s0 : w.heap.size < (w.alloc (.cells #[.int .i64 0, .float .f64 0, .string ⟨#[]⟩, .slice none 0 0] 59)).heap.size := by simp
  generalize w.alloc (.cells #[.int .i64 0, .float .f64 0, .string ⟨#[]⟩, .slice none 0 0] 59) = w0 at *
  refine (doorFuncs_any _).mono ?_
  rintro e w1 ⟨rfl, b1, _⟩
  have hr1 := (hr.below (bz.mono hB)).below (b1.mono (by omega))
  have s1 := b1.size
  go_wp2_with fail
  refine (innerList_nums B A len c ns _ HL.out hl hr1 (by omega) HS.out).mono ?_
  rintro e w2 ⟨L, es, rfl, hlist, hLL, b2⟩
  have s2 := b2.size
  go_wp2_with fail
  refine (HM.out _ L es _ hlist).mono ?_
  rintro e w3 ⟨rfl, b3⟩
  have s3 := b3.size
  go_wp2_with fail
  refine (doorArg_num r _).mono ?_
  rintro e w4 ⟨rfl, b4⟩
  have R4 := (((R1.later b1).later b2).later b3).later b4
  have r4 := fun i => R4.cell i
  have q4 := fun i => R4.frozen i
  have b := (((bz.trans (b1.mono (by omega))).trans (b2.mono (by omega))).trans (b3.mono (by omega))).trans (b4.mono (by omega))
  clear bz b1 b2 b3 b4 hlist hr1 hr
  go_wp2
  refine bodyPost_ret (v := (.agg #[.int .i64 1, .float .f64 (fi r), .string ⟨#[]⟩, .slice none 0 0])) (by simp [results, Tryz.results59, go_sem, r4]) rfl ⟨rfl, ?_⟩
  repeat refine Below.setCell ?_ (by simp) _
  exact b

set_option maxRecDepth 100000 in
set_option maxHeartbeats 800000 in
theorem impl_FACT (B : Nat) (A : Option Addr) (len c : Nat) (ns : List Int) (r : Int) (w : World) (hlen : ns.length = len) (hl : len ≤ 1000) (hr : Rd w B A (nvs ns)) (hB : B ≤ w.heap.size) (hs : ∀ n ∈ ns, n.natAbs < 2 ^ 53)
    (hM : ∀ (g L : Nat) (es : List Nat) (w : World), IsList w L es (ns.map fa) → Calls Tryz.prog 76 #[.pointer (some ⟨g, 0, none⟩), .pointer (some ⟨L, 0, none⟩)] w fun e w' => e = .returned (.agg #[.string ⟨#[]⟩, .float .f64 (fi r), .string ⟨#[]⟩, .slice none 0 0, .slice none 0 0, .bool false, .string ⟨#[]⟩, .int .u8 1, .pointer none, .pointer none]) ∧ Below w.heap.size w w') :
    Calls Tryz.prog 37 #[.slice A len c] w fun e w' => e = .returned (.agg #[.int .i64 1, .float .f64 (fi r), .string ⟨#[]⟩, .slice none 0 0]) ∧ Below w.heap.size w w' := by
  have HL := Lib.hid hlen
  have HM := Lib.hid hM
  have HS := Lib.hid hs
  clear hlen hM hs
  go_enter Tryz.func37, Tryz.ntmps37
  go_wp2_with fail
  have R1 := Bk.new w 36 #[.int .i64 0, .float .f64 0, .string ⟨#[]⟩, .slice none 0 0]
  have bz := (Below.refl _ w).alloc (Nat.le_refl _) (.cells #[.int .i64 0, .float .f64 0, .string ⟨#[]⟩, .slice none 0 0] 36)
  have s0 : w.heap.size < (w.alloc (.cells #[.int .i64 0, .float .f64 0, .string ⟨#[]⟩, .slice none 0 0] 36)).heap.size := by simp
  generalize w.alloc (.cells #[.int .i64 0, .float .f64 0, .string ⟨#[]⟩, .slice none 0 0] 36) = w0 at *
  have hr0 := hr.below (bz.mono hB)
  refine (in_nums B A len c ns _ HL.out hl hr0 (by omega)).mono ?_
  rintro e w1 ⟨A1, c1, rfl, hr1, b1⟩
  have s1 := b1.size
  go_wp2_with fail
  refine (door_FACT w1.heap.size A1 len c1 ns r _ HL.out hl hr1 (Nat.le_refl _) HS.out HM.out).mono ?_
  rintro e w2 ⟨rfl, b2⟩
  have s2 := b2.size
  go_wp2_with fail
  refine (out_num r _).mono ?_
  rintro e w4 ⟨rfl, b4⟩
  have R4 := ((R1.later b1).later b2).later b4
  have r4 := fun i => R4.cell i
  have q4 := fun i => R4.frozen i
  have b := ((bz.trans (b1.mono (by omega))).trans (b2.mono (by omega))).trans (b4.mono (by omega))
  clear bz b1 b2 b4 hr1 hr hr0
  go_wp2
  refine bodyPost_ret (v := (.agg #[.int .i64 1, .float .f64 (fi r), .string ⟨#[]⟩, .slice none 0 0])) (by simp [results, Tryz.results37, go_sem, r4]) rfl ⟨rfl, ?_⟩
  repeat refine Below.setCell ?_ (by simp) _
  exact b

end Go.Proofs.YtojicbajcebjjaaGreatDoor
