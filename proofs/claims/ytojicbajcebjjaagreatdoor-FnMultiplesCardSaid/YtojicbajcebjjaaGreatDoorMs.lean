/-
  The reference's multiples; the doors of CEILING, FLOOR and MROUND; the law FnMultiples, walked.
-/
import Derived.Test.YtojicbajcebjjaaGreatDoorMf
import Derived.Test.YtojicbajcebjjaaGreatDoorMr
namespace Go.Proofs.YtojicbajcebjjaaGreatDoor
open Go.RowKit
attribute [local go_sem] run_store_float

set_option maxRecDepth 100000 in
set_option maxHeartbeats 800000 in
theorem door_CEILING (B : Nat) (A : Option Addr) (len c : Nat) (ns : List Int) (r : Int) (w : World) (hlen : ns.length = len) (hl : len ≤ 1000) (hr : Rd w B A (nvs ns)) (hB : B ≤ w.heap.size) (hs : ∀ n ∈ ns, n.natAbs < 2 ^ 53)
    (hM : ∀ (g L : Nat) (es : List Nat) (w : World), IsList w L es (ns.map fa) → Calls Tryz.prog 72 #[.pointer (some ⟨g, 0, none⟩), .pointer (some ⟨L, 0, none⟩)] w fun e w' => e = .returned (.agg #[.string ⟨#[]⟩, .float .f64 (fi r), .string ⟨#[]⟩, .slice none 0 0, .slice none 0 0, .bool false, .string ⟨#[]⟩, .int .u8 1, .pointer none, .pointer none]) ∧ Below w.heap.size w w') :
    Calls Tryz.prog 55 #[.slice A len c] w fun e w' => e = .returned (.agg #[.int .i64 1, .float .f64 (fi r), .string ⟨#[]⟩, .slice none 0 0]) ∧ Below w.heap.size w w' := by
  have HL := Lib.hid hlen
  have HM := Lib.hid hM
  have HS := Lib.hid hs
  clear hlen hM hs
  go_enter Tryz.func55, Tryz.ntmps55
  go_wp2_with fail
  have R1 := Bk.new w 59 #[.int .i64 0, .float .f64 0, .string ⟨#[]⟩, .slice none 0 0]
  have bz := (Below.refl _ w).alloc (Nat.le_refl _) (.cells #[.int .i64 0, .float .f64 0, .string ⟨#[]⟩, .slice none 0 0] 59)
  have s0 : w.heap.size < (w.alloc (.cells #[.int .i64 0, .float .f64 0, .string ⟨#[]⟩, .slice none 0 0] 59)).heap.size := by simp
  generalize w.alloc (.cells #[.int .i64 0, .float .f64 0, .string ⟨#[]⟩, .slice none 0 0] 59) = w0 at *
  refine (doorFuncs_any _).mono ?_
  rintro e w1 ⟨rfl, b1, _⟩
  have hr1 := (hr.below (bz.mono hB)).below (b1.mono (by omega))
  have s1 := b1.size
  go_wp2_with fail
  refine (innerList_nums B A len c ns _ HL.out hl hr1 (by omega) HS.out).mono ?_
  rintro e w2 ⟨L, es, rfl, hlist, hLL, b2⟩
  have s2 := b2.size
  go_wp2_with fail
  refine (HM.out _ L es _ hlist).mono ?_
  rintro e w3 ⟨rfl, b3⟩
  have s3 := b3.size
  go_wp2_with fail
  refine (doorArg_num r _).mono ?_
  rintro e w4 ⟨rfl, b4⟩
  have R4 := (((R1.later b1).later b2).later b3).later b4
  have r4 := fun i => R4.cell i
  have q4 := fun i => R4.frozen i
  have b := (((bz.trans (b1.mono (by omega))).trans (b2.mono (by omega))).trans (b3.mono (by omega))).trans (b4.mono (by omega))
  clear bz b1 b2 b3 b4 hlist hr1 hr
  go_wp2
  refine bodyPost_ret (v := (.agg #[.int .i64 1, .float .f64 (fi r), .string ⟨#[]⟩, .slice none 0 0])) (by simp [results, Tryz.results55, go_sem, r4]) rfl ⟨rfl, ?_⟩
  repeat refine Below.setCell ?_ (by simp) _
  exact b

set_option maxRecDepth 100000 in
set_option maxHeartbeats 800000 in
theorem impl_CEILING (B : Nat) (A : Option Addr) (len c : Nat) (ns : List Int) (r : Int) (w : World) (hlen : ns.length = len) (hl : len ≤ 1000) (hr : Rd w B A (nvs ns)) (hB : B ≤ w.heap.size) (hs : ∀ n ∈ ns, n.natAbs < 2 ^ 53)
    (hM : ∀ (g L : Nat) (es : List Nat) (w : World), IsList w L es (ns.map fa) → Calls Tryz.prog 72 #[.pointer (some ⟨g, 0, none⟩), .pointer (some ⟨L, 0, none⟩)] w fun e w' => e = .returned (.agg #[.string ⟨#[]⟩, .float .f64 (fi r), .string ⟨#[]⟩, .slice none 0 0, .slice none 0 0, .bool false, .string ⟨#[]⟩, .int .u8 1, .pointer none, .pointer none]) ∧ Below w.heap.size w w') :
    Calls Tryz.prog 32 #[.slice A len c] w fun e w' => e = .returned (.agg #[.int .i64 1, .float .f64 (fi r), .string ⟨#[]⟩, .slice none 0 0]) ∧ Below w.heap.size w w' := by
  have HL := Lib.hid hlen
  have HM := Lib.hid hM
  have HS := Lib.hid hs
  clear hlen hM hs
  go_enter Tryz.func32, Tryz.ntmps32
  go_wp2_with fail
  have R1 := Bk.new w 36 #[.int .i64 0, .float .f64 0, .string ⟨#[]⟩, .slice none 0 0]
  have bz := (Below.refl _ w).alloc (Nat.le_refl _) (.cells #[.int .i64 0, .float .f64 0, .string ⟨#[]⟩, .slice none 0 0] 36)
  have s0 : w.heap.size < (w.alloc (.cells #[.int .i64 0, .float .f64 0, .string ⟨#[]⟩, .slice none 0 0] 36)).heap.size := by simp
  generalize w.alloc (.cells #[.int .i64 0, .float .f64 0, .string ⟨#[]⟩, .slice none 0 0] 36) = w0 at *
  have hr0 := hr.below (bz.mono hB)
  refine (in_nums B A len c ns _ HL.out hl hr0 (by omega)).mono ?_
  rintro e w1 ⟨A1, c1, rfl, hr1, b1⟩
  have s1 := b1.size
  go_wp2_with fail
  refine (door_CEILING w1.heap.size A1 len c1 ns r _ HL.out hl hr1 (Nat.le_refl _) HS.out HM.out).mono ?_
  rintro e w2 ⟨rfl, b2⟩
  have s2 := b2.size
  go_wp2_with fail
  refine (out_num r _).mono ?_
  rintro e w4 ⟨rfl, b4⟩
  have R4 := ((R1.later b1).later b2).later b4
  have r4 := fun i => R4.cell i
  have q4 := fun i => R4.frozen i
  have b := ((bz.trans (b1.mono (by omega))).trans (b2.mono (by omega))).trans (b4.mono (by omega))
  clear bz b1 b2 b4 hr1 hr hr0
  go_wp2
  refine bodyPost_ret (v := (.agg #[.int .i64 1, .float .f64 (fi r), .string ⟨#[]⟩, .slice none 0 0])) (by simp [results, Tryz.results32, go_sem, r4]) rfl ⟨rfl, ?_⟩
  repeat refine Below.setCell ?_ (by simp) _
  exact b

set_option maxRecDepth 100000 in
set_option maxHeartbeats 800000 in
theorem door_FLOOR (B : Nat) (A : Option Addr) (len c : Nat) (ns : List Int) (r : Int) (w : World) (hlen : ns.length = len) (hl : len ≤ 1000) (hr : Rd w B A (nvs ns)) (hB : B ≤ w.heap.size) (hs : ∀ n ∈ ns, n.natAbs < 2 ^ 53)
    (hM : ∀ (g L : Nat) (es : List Nat) (w : World), IsList w L es (ns.map fa) → Calls Tryz.prog 73 #[.pointer (some ⟨g, 0, none⟩), .pointer (some ⟨L, 0, none⟩)] w fun e w' => e = .returned (.agg #[.string ⟨#[]⟩, .float .f64 (fi r), .string ⟨#[]⟩, .slice none 0 0, .slice none 0 0, .bool false, .string ⟨#[]⟩, .int .u8 1, .pointer none, .pointer none]) ∧ Below w.heap.size w w') :
    Calls Tryz.prog 56 #[.slice A len c] w fun e w' => e = .returned (.agg #[.int .i64 1, .float .f64 (fi r), .string ⟨#[]⟩, .slice none 0 0]) ∧ Below w.heap.size w w' := by
  have HL := Lib.hid hlen
  have HM := Lib.hid hM
  have HS := Lib.hid hs
  clear hlen hM hs
  go_enter Tryz.func56, Tryz.ntmps56
  go_wp2_with fail
  have R1 := Bk.new w 59 #[.int .i64 0, .float .f64 0, .string ⟨#[]⟩, .slice none 0 0]
  have bz := (Below.refl _ w).alloc (Nat.le_refl _) (.cells #[.int .i64 0, .float .f64 0, .string ⟨#[]⟩, .slice none 0 0] 59)
  have s0 : w.heap.size < (w.alloc (.cells #[.int .i64 0, .float .f64 0, .string ⟨#[]⟩, .slice none 0 0] 59)).heap.size := by simp
  generalize w.alloc (.cells #[.int .i64 0, .float .f64 0, .string ⟨#[]⟩, .slice none 0 0] 59) = w0 at *
  refine (doorFuncs_any _).mono ?_
  rintro e w1 ⟨rfl, b1, _⟩
  have hr1 := (hr.below (bz.mono hB)).below (b1.mono (by omega))
  have s1 := b1.size
  go_wp2_with fail
  refine (innerList_nums B A len c ns _ HL.out hl hr1 (by omega) HS.out).mono ?_
  rintro e w2 ⟨L, es, rfl, hlist, hLL, b2⟩
  have s2 := b2.size
  go_wp2_with fail
  refine (HM.out _ L es _ hlist).mono ?_
  rintro e w3 ⟨rfl, b3⟩
  have s3 := b3.size
  go_wp2_with fail
  refine (doorArg_num r _).mono ?_
  rintro e w4 ⟨rfl, b4⟩
  have R4 := (((R1.later b1).later b2).later b3).later b4
  have r4 := fun i => R4.cell i
  have q4 := fun i => R4.frozen i
  have b := (((bz.trans (b1.mono (by omega))).trans (b2.mono (by omega))).trans (b3.mono (by omega))).trans (b4.mono (by omega))
  clear bz b1 b2 b3 b4 hlist hr1 hr
  go_wp2
  refine bodyPost_ret (v := (.agg #[.int .i64 1, .float .f64 (fi r), .string ⟨#[]⟩, .slice none 0 0])) (by simp [results, Tryz.results56, go_sem, r4]) rfl ⟨rfl, ?_⟩
  repeat refine Below.setCell ?_ (by simp) _
  exact b

set_option maxRecDepth 100000 in
set_option maxHeartbeats 800000 in
theorem impl_FLOOR (B : Nat) (A : Option Addr) (len c : Nat) (ns : List Int) (r : Int) (w : World) (hlen : ns.length = len) (hl : len ≤ 1000) (hr : Rd w B A (nvs ns)) (hB : B ≤ w.heap.size) (hs : ∀ n ∈ ns, n.natAbs < 2 ^ 53)
    (hM : ∀ (g L : Nat) (es : List Nat) (w : World), IsList w L es (ns.map fa) → Calls Tryz.prog 73 #[.pointer (some ⟨g, 0, none⟩), .pointer (some ⟨L, 0, none⟩)] w fun e w' => e = .returned (.agg #[.string ⟨#[]⟩, .float .f64 (fi r), .string ⟨#[]⟩, .slice none 0 0, .slice none 0 0, .bool false, .string ⟨#[]⟩, .int .u8 1, .pointer none, .pointer none]) ∧ Below w.heap.size w w') :
    Calls Tryz.prog 34 #[.slice A len c] w fun e w' => e = .returned (.agg #[.int .i64 1, .float .f64 (fi r), .string ⟨#[]⟩, .slice none 0 0]) ∧ Below w.heap.size w w' := by
  have HL := Lib.hid hlen
  have HM := Lib.hid hM
  have HS := Lib.hid hs
  clear hlen hM hs
  go_enter Tryz.func34, Tryz.ntmps34
  go_wp2_with fail
  have R1 := Bk.new w 36 #[.int .i64 0, .float .f64 0, .string ⟨#[]⟩, .slice none 0 0]
  have bz := (Below.refl _ w).alloc (Nat.le_refl _) (.cells #[.int .i64 0, .float .f64 0, .string ⟨#[]⟩, .slice none 0 0] 36)
  have s0 : w.heap.size < (w.alloc (.cells #[.int .i64 0, .float .f64 0, .string ⟨#[]⟩, .slice none 0 0] 36)).heap.size := by simp
  generalize w.alloc (.cells #[.int .i64 0, .float .f64 0, .string ⟨#[]⟩, .slice none 0 0] 36) = w0 at *
  have hr0 := hr.below (bz.mono hB)
  refine (in_nums B A len c ns _ HL.out hl hr0 (by omega)).mono ?_
  rintro e w1 ⟨A1, c1, rfl, hr1, b1⟩
  have s1 := b1.size
  go_wp2_with fail
  refine (door_FLOOR w1.heap.size A1 len c1 ns r _ HL.out hl hr1 (Nat.le_refl _) HS.out HM.out).mono ?_
  rintro e w2 ⟨rfl, b2⟩
  have s2 := b2.size
  go_wp2_with fail
  refine (out_num r _).mono ?_
  rintro e w4 ⟨rfl, b4⟩
  have R4 := ((R1.later b1).later b2).later b4
  have r4 := fun i => R4.cell i
  have q4 := fun i => R4.frozen i
  have b := ((bz.trans (b1.mono (by omega))).trans (b2.mono (by omega))).trans (b4.mono (by omega))
  clear bz b1 b2 b4 hr1 hr hr0
  go_wp2
  refine bodyPost_ret (v := (.agg #[.int .i64 1, .float .f64 (fi r), .string ⟨#[]⟩, .slice none 0 0])) (by simp [results, Tryz.results34, go_sem, r4]) rfl ⟨rfl, ?_⟩
  repeat refine Below.setCell ?_ (by simp) _
  exact b

set_option maxRecDepth 100000 in
set_option maxHeartbeats 800000 in
theorem door_MROUND (B : Nat) (A : Option Addr) (len c : Nat) (ns : List Int) (r : Int) (w : World) (hlen : ns.length = len) (hl : len ≤ 1000) (hr : Rd w B A (nvs ns)) (hB : B ≤ w.heap.size) (hs : ∀ n ∈ ns, n.natAbs < 2 ^ 53)
    (hM : ∀ (g L : Nat) (es : List Nat) (w : World), IsList w L es (ns.map fa) → Calls Tryz.prog 74 #[.pointer (some ⟨g, 0, none⟩), .pointer (some ⟨L, 0, none⟩)] w fun e w' => e = .returned (.agg #[.string ⟨#[]⟩, .float .f64 (fi r), .string ⟨#[]⟩, .slice none 0 0, .slice none 0 0, .bool false, .string ⟨#[]⟩, .int .u8 1, .pointer none, .pointer none]) ∧ Below w.heap.size w w') :
    Calls Tryz.prog 57 #[.slice A len c] w fun e w' => e = .returned (.agg #[.int .i64 1, .float .f64 (fi r), .string ⟨#[]⟩, .slice none 0 0]) ∧ Below w.heap.size w w' := by
  have HL := Lib.hid hlen
  have HM := Lib.hid hM
  have HS := Lib.hid hs
  clear hlen hM hs
  go_enter Tryz.func57, Tryz.ntmps57
  go_wp2_with fail
  have R1 := Bk.new w 59 #[.int .i64 0, .float .f64 0, .string ⟨#[]⟩, .slice none 0 0]
  have bz := (Below.refl _ w).alloc (Nat.le_refl _) (.cells #[.int .i64 0, .float .f64 0, .string ⟨#[]⟩, .slice none 0 0] 59)
  have s0 : w.heap.size < (w.alloc (.cells #[.int .i64 0, .float .f64 0, .string ⟨#[]⟩, .slice none 0 0] 59)).heap.size := by simp
  generalize w.alloc (.cells #[.int .i64 0, .float .f64 0, .string ⟨#[]⟩, .slice none 0 0] 59) = w0 at *
  refine (doorFuncs_any _).mono ?_
  rintro e w1 ⟨rfl, b1, _⟩
  have hr1 := (hr.below (bz.mono hB)).below (b1.mono (by omega))
  have s1 := b1.size
  go_wp2_with fail
  refine (innerList_nums B A len c ns _ HL.out hl hr1 (by omega) HS.out).mono ?_
  rintro e w2 ⟨L, es, rfl, hlist, hLL, b2⟩
  have s2 := b2.size
  go_wp2_with fail
  refine (HM.out _ L es _ hlist).mono ?_
  rintro e w3 ⟨rfl, b3⟩
  have s3 := b3.size
  go_wp2_with fail
  refine (doorArg_num r _).mono ?_
  rintro e w4 ⟨rfl, b4⟩
  have R4 := (((R1.later b1).later b2).later b3).later b4
  have r4 := fun i => R4.cell i
  have q4 := fun i => R4.frozen i
  have b := (((bz.trans (b1.mono (by omega))).trans (b2.mono (by omega))).trans (b3.mono (by omega))).trans (b4.mono (by omega))
  clear bz b1 b2 b3 b4 hlist hr1 hr
  go_wp2
  refine bodyPost_ret (v := (.agg #[.int .i64 1, .float .f64 (fi r), .string ⟨#[]⟩, .slice none 0 0])) (by simp [results, Tryz.results57, go_sem, r4]) rfl ⟨rfl, ?_⟩
  repeat refine Below.setCell ?_ (by simp) _
  exact b

set_option maxRecDepth 100000 in
set_option maxHeartbeats 800000 in
theorem impl_MROUND (B : Nat) (A : Option Addr) (len c : Nat) (ns : List Int) (r : Int) (w : World) (hlen : ns.length = len) (hl : len ≤ 1000) (hr : Rd w B A (nvs ns)) (hB : B ≤ w.heap.size) (hs : ∀ n ∈ ns, n.natAbs < 2 ^ 53)
    (hM : ∀ (g L : Nat) (es : List Nat) (w : World), IsList w L es (ns.map fa) → Calls Tryz.prog 74 #[.pointer (some ⟨g, 0, none⟩), .pointer (some ⟨L, 0, none⟩)] w fun e w' => e = .returned (.agg #[.string ⟨#[]⟩, .float .f64 (fi r), .string ⟨#[]⟩, .slice none 0 0, .slice none 0 0, .bool false, .string ⟨#[]⟩, .int .u8 1, .pointer none, .pointer none]) ∧ Below w.heap.size w w') :
    Calls Tryz.prog 35 #[.slice A len c] w fun e w' => e = .returned (.agg #[.int .i64 1, .float .f64 (fi r), .string ⟨#[]⟩, .slice none 0 0]) ∧ Below w.heap.size w w' := by
  have HL := Lib.hid hlen
  have HM := Lib.hid hM
  have HS := Lib.hid hs
  clear hlen hM hs
  go_enter Tryz.func35, Tryz.ntmps35
  go_wp2_with fail
  have R1 := Bk.new w 36 #[.int .i64 0, .float .f64 0, .string ⟨#[]⟩, .slice none 0 0]
  have bz := (Below.refl _ w).alloc (Nat.le_refl _) (.cells #[.int .i64 0, .float .f64 0, .string ⟨#[]⟩, .slice none 0 0] 36)
  have s0 : w.heap.size < (w.alloc (.cells #[.int .i64 0, .float .f64 0, .string ⟨#[]⟩, .slice none 0 0] 36)).heap.size := by simp
  generalize w.alloc (.cells #[.int .i64 0, .float .f64 0, .string ⟨#[]⟩, .slice none 0 0] 36) = w0 at *
  have hr0 := hr.below (bz.mono hB)
  refine (in_nums B A len c ns _ HL.out hl hr0 (by omega)).mono ?_
  rintro e w1 ⟨A1, c1, rfl, hr1, b1⟩
  have s1 := b1.size
  go_wp2_with fail
  refine (door_MROUND w1.heap.size A1 len c1 ns r _ HL.out hl hr1 (Nat.le_refl _) HS.out HM.out).mono ?_
  rintro e w2 ⟨rfl, b2⟩
  have s2 := b2.size
  go_wp2_with fail
  refine (out_num r _).mono ?_
  rintro e w4 ⟨rfl, b4⟩
  have R4 := ((R1.later b1).later b2).later b4
  have r4 := fun i => R4.cell i
  have q4 := fun i => R4.frozen i
  have b := ((bz.trans (b1.mono (by omega))).trans (b2.mono (by omega))).trans (b4.mono (by omega))
  clear bz b1 b2 b4 hr1 hr hr0
  go_wp2
  refine bodyPost_ret (v := (.agg #[.int .i64 1, .float .f64 (fi r), .string ⟨#[]⟩, .slice none 0 0])) (by simp [results, Tryz.results35, go_sem, r4]) rfl ⟨rfl, ?_⟩
  repeat refine Below.setCell ?_ (by simp) _
  exact b


theorem tdiv_nat (a b q r : Nat) (hab : a = q * b + r) (hr : r < b) : (a : Int).tdiv (b : Int) = (q : Int) := by
  rw [Int.tdiv_eq_ediv_of_nonneg (by omega), ← Int.natCast_ediv]
  congr 1
  rw [hab, Nat.mul_comm, Nat.mul_add_div (by omega), Nat.div_eq_of_lt hr, Nat.add_zero]

-- BEGIN msgen
set_option maxRecDepth 100000 in
set_option maxHeartbeats 800000 in
theorem rounded_ceil_same (a b q r low : Nat) (w : World) (hlow : low = q * b) (hab : a = low + r) (hr : r < b) (ha : a ≤ 1000000) (hb : b ≤ 1000) (hq : q ≤ 1000000) (h0 : r = 0) :
    Calls Tryz.prog 33 #[.string ⟨#[67, 69, 73, 76, 73, 78, 71]⟩, .int .i64 a, .int .i64 b] w fun e w' => e = .returned (.agg #[.int .i64 1, .int .i64 ((low : Nat)), .int .i64 1, .string ⟨#[]⟩, .slice none 0 0]) ∧ Below w.heap.size w w' := by
  have hd := tdiv_nat a b q r (by rw [hab, hlow]) hr
  have hwq : wrap64 (q : Int) = q := IntWalk.wrap64_in _ ⟨by omega, by omega⟩
  have hwm : wrap64 ((q : Int) * (b : Int)) = low := by rw [← Int.natCast_mul, ← hlow]; exact IntWalk.wrap64_in _ ⟨by omega, by omega⟩
  have hb0 : (b : Int) ≠ 0 := by omega
  have hal : low = a := by omega
  subst hal
  clear hab
  clear hlow
  have R1 := Bk.new w 29 #[.int .i64 0, .int .i64 0, .int .i64 0, .string ⟨#[]⟩, .slice none 0 0]
  have bz := (Below.refl _ w).alloc (Nat.le_refl _) (.cells #[.int .i64 0, .int .i64 0, .int .i64 0, .string ⟨#[]⟩, .slice none 0 0] 29)
  have s0 : w.heap.size < (w.alloc (.cells #[.int .i64 0, .int .i64 0, .int .i64 0, .string ⟨#[]⟩, .slice none 0 0] 29)).heap.size := by simp
  go_enter Tryz.func33, Tryz.ntmps33
  go_wp2_with fail
  refine (int_any _ _ (by omega) (by omega)).mono ?_
  rintro e w4 ⟨rfl, b4⟩
  have R4 := R1.later b4
  have r4 := fun i => R4.cell i
  have q4 := fun i => R4.frozen i
  go_wp2
  refine bodyPost_ret (v := (.agg #[.int .i64 1, .int .i64 ((low : Nat)), .int .i64 1, .string ⟨#[]⟩, .slice none 0 0])) (by simp [results, Tryz.results33, go_sem, r4]) rfl ⟨rfl, ?_⟩
  repeat refine Below.setCell ?_ (by simp) _
  exact bz.trans (b4.mono (by omega))

set_option maxRecDepth 100000 in
set_option maxHeartbeats 800000 in
theorem rounded_ceil_more (a b q r low : Nat) (w : World) (hlow : low = q * b) (hab : a = low + r) (hr : r < b) (ha : a ≤ 1000000) (hb : b ≤ 1000) (hq : q ≤ 1000000) (h0 : 0 < r) :
    Calls Tryz.prog 33 #[.string ⟨#[67, 69, 73, 76, 73, 78, 71]⟩, .int .i64 a, .int .i64 b] w fun e w' => e = .returned (.agg #[.int .i64 1, .int .i64 ((low + b : Nat)), .int .i64 1, .string ⟨#[]⟩, .slice none 0 0]) ∧ Below w.heap.size w w' := by
  have hd := tdiv_nat a b q r (by rw [hab, hlow]) hr
  have hwq : wrap64 (q : Int) = q := IntWalk.wrap64_in _ ⟨by omega, by omega⟩
  have hwm : wrap64 ((q : Int) * (b : Int)) = low := by rw [← Int.natCast_mul, ← hlow]; exact IntWalk.wrap64_in _ ⟨by omega, by omega⟩
  have hb0 : (b : Int) ≠ 0 := by omega
  have hne : ¬ (low : Int) = (a : Int) := by omega
  have hla : low ≤ a := by omega
  clear hab
  clear hlow
  have R1 := Bk.new w 29 #[.int .i64 0, .int .i64 0, .int .i64 0, .string ⟨#[]⟩, .slice none 0 0]
  have bz := (Below.refl _ w).alloc (Nat.le_refl _) (.cells #[.int .i64 0, .int .i64 0, .int .i64 0, .string ⟨#[]⟩, .slice none 0 0] 29)
  have s0 : w.heap.size < (w.alloc (.cells #[.int .i64 0, .int .i64 0, .int .i64 0, .string ⟨#[]⟩, .slice none 0 0] 29)).heap.size := by simp
  go_enter Tryz.func33, Tryz.ntmps33
  go_wp2_with fail
  refine (int_any _ _ (by omega) (by omega)).mono ?_
  rintro e w4 ⟨rfl, b4⟩
  have R4 := R1.later b4
  have r4 := fun i => R4.cell i
  have q4 := fun i => R4.frozen i
  go_wp2
  refine bodyPost_ret (v := (.agg #[.int .i64 1, .int .i64 ((low + b : Nat)), .int .i64 1, .string ⟨#[]⟩, .slice none 0 0])) (by simp [results, Tryz.results33, go_sem, r4]) rfl ⟨rfl, ?_⟩
  repeat refine Below.setCell ?_ (by simp) _
  exact bz.trans (b4.mono (by omega))

set_option maxRecDepth 100000 in
set_option maxHeartbeats 800000 in
theorem rounded_floor (a b q r low : Nat) (w : World) (hlow : low = q * b) (hab : a = low + r) (hr : r < b) (ha : a ≤ 1000000) (_hb : b ≤ 1000) (hq : q ≤ 1000000) :
    Calls Tryz.prog 33 #[.string ⟨#[70, 76, 79, 79, 82]⟩, .int .i64 a, .int .i64 b] w fun e w' => e = .returned (.agg #[.int .i64 1, .int .i64 ((low : Nat)), .int .i64 1, .string ⟨#[]⟩, .slice none 0 0]) ∧ Below w.heap.size w w' := by
  have hd := tdiv_nat a b q r (by rw [hab, hlow]) hr
  have hwq : wrap64 (q : Int) = q := IntWalk.wrap64_in _ ⟨by omega, by omega⟩
  have hwm : wrap64 ((q : Int) * (b : Int)) = low := by rw [← Int.natCast_mul, ← hlow]; exact IntWalk.wrap64_in _ ⟨by omega, by omega⟩
  have hb0 : (b : Int) ≠ 0 := by omega
  have hla : low ≤ a := by omega
  clear hab
  clear hlow
  have R1 := Bk.new w 29 #[.int .i64 0, .int .i64 0, .int .i64 0, .string ⟨#[]⟩, .slice none 0 0]
  have bz := (Below.refl _ w).alloc (Nat.le_refl _) (.cells #[.int .i64 0, .int .i64 0, .int .i64 0, .string ⟨#[]⟩, .slice none 0 0] 29)
  have s0 : w.heap.size < (w.alloc (.cells #[.int .i64 0, .int .i64 0, .int .i64 0, .string ⟨#[]⟩, .slice none 0 0] 29)).heap.size := by simp
  go_enter Tryz.func33, Tryz.ntmps33
  go_wp2_with fail
  refine (int_any _ _ (by omega) (by omega)).mono ?_
  rintro e w4 ⟨rfl, b4⟩
  have R4 := R1.later b4
  have r4 := fun i => R4.cell i
  have q4 := fun i => R4.frozen i
  go_wp2
  refine bodyPost_ret (v := (.agg #[.int .i64 1, .int .i64 ((low : Nat)), .int .i64 1, .string ⟨#[]⟩, .slice none 0 0])) (by simp [results, Tryz.results33, go_sem, r4]) rfl ⟨rfl, ?_⟩
  repeat refine Below.setCell ?_ (by simp) _
  exact bz.trans (b4.mono (by omega))

set_option maxRecDepth 100000 in
set_option maxHeartbeats 800000 in
theorem rounded_near_same (a b q r low : Nat) (w : World) (hlow : low = q * b) (hab : a = low + r) (hr : r < b) (ha : a ≤ 1000000) (_hb : b ≤ 1000) (hq : q ≤ 1000000) (h0 : r = 0) :
    Calls Tryz.prog 33 #[.string ⟨#[77, 82, 79, 85, 78, 68]⟩, .int .i64 a, .int .i64 b] w fun e w' => e = .returned (.agg #[.int .i64 1, .int .i64 ((low : Nat)), .int .i64 1, .string ⟨#[]⟩, .slice none 0 0]) ∧ Below w.heap.size w w' := by
  have hd := tdiv_nat a b q r (by rw [hab, hlow]) hr
  have hwq : wrap64 (q : Int) = q := IntWalk.wrap64_in _ ⟨by omega, by omega⟩
  have hwm : wrap64 ((q : Int) * (b : Int)) = low := by rw [← Int.natCast_mul, ← hlow]; exact IntWalk.wrap64_in _ ⟨by omega, by omega⟩
  have hb0 : (b : Int) ≠ 0 := by omega
  have hal : low = a := by omega
  subst hal
  clear hab
  clear hlow
  have R1 := Bk.new w 29 #[.int .i64 0, .int .i64 0, .int .i64 0, .string ⟨#[]⟩, .slice none 0 0]
  have bz := (Below.refl _ w).alloc (Nat.le_refl _) (.cells #[.int .i64 0, .int .i64 0, .int .i64 0, .string ⟨#[]⟩, .slice none 0 0] 29)
  have s0 : w.heap.size < (w.alloc (.cells #[.int .i64 0, .int .i64 0, .int .i64 0, .string ⟨#[]⟩, .slice none 0 0] 29)).heap.size := by simp
  go_enter Tryz.func33, Tryz.ntmps33
  go_wp2_with fail
  refine (int_any _ _ (by omega) (by omega)).mono ?_
  rintro e w4 ⟨rfl, b4⟩
  have R4 := R1.later b4
  have r4 := fun i => R4.cell i
  have q4 := fun i => R4.frozen i
  go_wp2
  refine bodyPost_ret (v := (.agg #[.int .i64 1, .int .i64 ((low : Nat)), .int .i64 1, .string ⟨#[]⟩, .slice none 0 0])) (by simp [results, Tryz.results33, go_sem, r4]) rfl ⟨rfl, ?_⟩
  repeat refine Below.setCell ?_ (by simp) _
  exact bz.trans (b4.mono (by omega))

set_option maxRecDepth 100000 in
set_option maxHeartbeats 800000 in
theorem rounded_near_more (a b q r low : Nat) (w : World) (hlow : low = q * b) (hab : a = low + r) (hr : r < b) (ha : a ≤ 1000000) (_hb : b ≤ 1000) (hq : q ≤ 1000000) (h0 : 0 < r) (h2 : b ≤ 2 * r) :
    Calls Tryz.prog 33 #[.string ⟨#[77, 82, 79, 85, 78, 68]⟩, .int .i64 a, .int .i64 b] w fun e w' => e = .returned (.agg #[.int .i64 1, .int .i64 ((low + b : Nat)), .int .i64 1, .string ⟨#[]⟩, .slice none 0 0]) ∧ Below w.heap.size w w' := by
  have hd := tdiv_nat a b q r (by rw [hab, hlow]) hr
  have hwq : wrap64 (q : Int) = q := IntWalk.wrap64_in _ ⟨by omega, by omega⟩
  have hwm : wrap64 ((q : Int) * (b : Int)) = low := by rw [← Int.natCast_mul, ← hlow]; exact IntWalk.wrap64_in _ ⟨by omega, by omega⟩
  have hb0 : (b : Int) ≠ 0 := by omega
  have hne : ¬ (low : Int) = (a : Int) := by omega
  have hla : low ≤ a := by omega
  have h3 : (b : Int) ≤ 2 * ((a : Int) - (low : Int)) := by omega
  have hws : wrap64 ((a : Int) - (low : Int)) = (a : Int) - (low : Int) := IntWalk.wrap64_in _ ⟨by omega, by omega⟩
  have hwt : wrap64 (2 * ((a : Int) - (low : Int))) = 2 * ((a : Int) - (low : Int)) := IntWalk.wrap64_in _ ⟨by omega, by omega⟩
  clear hab
  clear hlow
  have R1 := Bk.new w 29 #[.int .i64 0, .int .i64 0, .int .i64 0, .string ⟨#[]⟩, .slice none 0 0]
  have bz := (Below.refl _ w).alloc (Nat.le_refl _) (.cells #[.int .i64 0, .int .i64 0, .int .i64 0, .string ⟨#[]⟩, .slice none 0 0] 29)
  have s0 : w.heap.size < (w.alloc (.cells #[.int .i64 0, .int .i64 0, .int .i64 0, .string ⟨#[]⟩, .slice none 0 0] 29)).heap.size := by simp
  go_enter Tryz.func33, Tryz.ntmps33
  go_wp2_with fail
  refine (int_any _ _ (by omega) (by omega)).mono ?_
  rintro e w4 ⟨rfl, b4⟩
  have R4 := R1.later b4
  have r4 := fun i => R4.cell i
  have q4 := fun i => R4.frozen i
  go_wp2
  refine bodyPost_ret (v := (.agg #[.int .i64 1, .int .i64 ((low + b : Nat)), .int .i64 1, .string ⟨#[]⟩, .slice none 0 0])) (by simp [results, Tryz.results33, go_sem, r4]) rfl ⟨rfl, ?_⟩
  repeat refine Below.setCell ?_ (by simp) _
  exact bz.trans (b4.mono (by omega))

set_option maxRecDepth 100000 in
set_option maxHeartbeats 800000 in
theorem rounded_near_less (a b q r low : Nat) (w : World) (hlow : low = q * b) (hab : a = low + r) (hr : r < b) (ha : a ≤ 1000000) (_hb : b ≤ 1000) (hq : q ≤ 1000000) (h0 : 0 < r) (h2 : 2 * r < b) :
    Calls Tryz.prog 33 #[.string ⟨#[77, 82, 79, 85, 78, 68]⟩, .int .i64 a, .int .i64 b] w fun e w' => e = .returned (.agg #[.int .i64 1, .int .i64 ((low : Nat)), .int .i64 1, .string ⟨#[]⟩, .slice none 0 0]) ∧ Below w.heap.size w w' := by
  have hd := tdiv_nat a b q r (by rw [hab, hlow]) hr
  have hwq : wrap64 (q : Int) = q := IntWalk.wrap64_in _ ⟨by omega, by omega⟩
  have hwm : wrap64 ((q : Int) * (b : Int)) = low := by rw [← Int.natCast_mul, ← hlow]; exact IntWalk.wrap64_in _ ⟨by omega, by omega⟩
  have hb0 : (b : Int) ≠ 0 := by omega
  have hne : ¬ (low : Int) = (a : Int) := by omega
  have hla : low ≤ a := by omega
  have h3 : ¬ (b : Int) ≤ 2 * ((a : Int) - (low : Int)) := by omega
  have hws : wrap64 ((a : Int) - (low : Int)) = (a : Int) - (low : Int) := IntWalk.wrap64_in _ ⟨by omega, by omega⟩
  have hwt : wrap64 (2 * ((a : Int) - (low : Int))) = 2 * ((a : Int) - (low : Int)) := IntWalk.wrap64_in _ ⟨by omega, by omega⟩
  clear hab
  clear hlow
  have R1 := Bk.new w 29 #[.int .i64 0, .int .i64 0, .int .i64 0, .string ⟨#[]⟩, .slice none 0 0]
  have bz := (Below.refl _ w).alloc (Nat.le_refl _) (.cells #[.int .i64 0, .int .i64 0, .int .i64 0, .string ⟨#[]⟩, .slice none 0 0] 29)
  have s0 : w.heap.size < (w.alloc (.cells #[.int .i64 0, .int .i64 0, .int .i64 0, .string ⟨#[]⟩, .slice none 0 0] 29)).heap.size := by simp
  go_enter Tryz.func33, Tryz.ntmps33
  go_wp2_with fail
  refine (int_any _ _ (by omega) (by omega)).mono ?_
  rintro e w4 ⟨rfl, b4⟩
  have R4 := R1.later b4
  have r4 := fun i => R4.cell i
  have q4 := fun i => R4.frozen i
  go_wp2
  refine bodyPost_ret (v := (.agg #[.int .i64 1, .int .i64 ((low : Nat)), .int .i64 1, .string ⟨#[]⟩, .slice none 0 0])) (by simp [results, Tryz.results33, go_sem, r4]) rfl ⟨rfl, ?_⟩
  repeat refine Below.setCell ?_ (by simp) _
  exact bz.trans (b4.mono (by omega))

-- END msgen
theorem fit_two (a b : Nat) (ha : a ≤ 1000000) (hb : b ≤ 1000) : Fits [(a : Int), (b : Int)] := by
  intro n hn
  simp at hn
  rcases hn with rfl | rfl <;> omega
theorem fine_two (a b : Nat) (ha : a ≤ 1000000) (hb : b ≤ 1000) : ∀ n ∈ [(a : Int), (b : Int)], n.natAbs < 2 ^ 53 := by
  intro n hn
  simp at hn
  rcases hn with rfl | rfl <;> omega

/-- a number's whole part and rest -/
theorem split_num (a b : Nat) (ha : a ≤ 1000000) (hb1 : 1 ≤ b) : ∃ q r low, low = q * b ∧ a = low + r ∧ r < b ∧ q ≤ 1000000 := by
  have h1 : a / b ≤ a := Nat.div_le_self _ _
  refine ⟨a / b, a % b, a / b * b, rfl, ?_, Nat.mod_lt _ (by omega), by omega⟩
  rw [Nat.mul_comm]
  exact (Nat.div_add_mod a b).symm

/-- One function of the program and the reference's: the same number. -/
def Pair (fn : FuncId) (name : ByteArray) (a b : Nat) : Prop := ∃ c : Nat, c ≤ 2000000 ∧
  (∀ (B : Nat) (A : Option Addr) (cap : Nat) (w : World), Rd w B A (nvs [(a : Int), (b : Int)]) → B ≤ w.heap.size → Calls Tryz.prog fn #[.slice A 2 cap] w fun e w' => e = .returned (.agg #[.int .i64 1, .float .f64 (fi (c : Int)), .string ⟨#[]⟩, .slice none 0 0]) ∧ Below w.heap.size w w') ∧
  (∀ w : World, Calls Tryz.prog 33 #[.string name, .int .i64 a, .int .i64 b] w fun e w' => e = .returned (.agg #[.int .i64 1, .int .i64 ((c : Nat)), .int .i64 1, .string ⟨#[]⟩, .slice none 0 0]) ∧ Below w.heap.size w w')

theorem pair_ceil (a b : Nat) (ha : a ≤ 1000000) (hb1 : 1 ≤ b) (hb : b ≤ 1000) : Pair 32 ⟨#[67, 69, 73, 76, 73, 78, 71]⟩ a b := by
  obtain ⟨q, r, low, h1, h2, h3, h4⟩ := split_num a b ha hb1
  obtain ⟨y, z, s, hp⟩ := parts_any a b q r (by rw [h2, h1]) h3 ha hb
  obtain ⟨up, hup⟩ : ∃ up, up = if r = 0 then q else q + 1 := ⟨_, rfl⟩
  have hc : up * b = if r = 0 then low else low + b := by rw [hup]; split <;> rw [h1]; rw [Nat.add_mul, Nat.one_mul]
  have hle : up * b ≤ 2000000 := by rw [hc]; split <;> omega
  refine ⟨up * b, hle, fun B A cap w hr hB => impl_CEILING B A 2 cap [(a : Int), (b : Int)] ((up * b : Nat) : Int) w rfl (by omega) hr hB (fine_two a b ha hb) fun g L es w h => ceiling_method g L es a b q r y z s up w h ha hb h4 hup hle hp, fun w => ?_⟩
  rw [hc]
  by_cases h0 : r = 0
  · rw [if_pos h0]; exact rounded_ceil_same a b q r low w h1 h2 h3 ha hb h4 h0
  · rw [if_neg h0]; exact rounded_ceil_more a b q r low w h1 h2 h3 ha hb h4 (by omega)

theorem pair_floor (a b : Nat) (ha : a ≤ 1000000) (hb1 : 1 ≤ b) (hb : b ≤ 1000) : Pair 34 ⟨#[70, 76, 79, 79, 82]⟩ a b := by
  obtain ⟨q, r, low, h1, h2, h3, h4⟩ := split_num a b ha hb1
  obtain ⟨y, z, s, hp⟩ := parts_any a b q r (by rw [h2, h1]) h3 ha hb
  have hle : q * b ≤ 2000000 := by rw [← h1]; omega
  refine ⟨q * b, hle, fun B A cap w hr hB => impl_FLOOR B A 2 cap [(a : Int), (b : Int)] ((q * b : Nat) : Int) w rfl (by omega) hr hB (fine_two a b ha hb) fun g L es w h => floor_method g L es a b q r y z s q w h ha hb hb1 h4 rfl hle hp, fun w => ?_⟩
  rw [← h1]
  exact rounded_floor a b q r low w h1 h2 h3 ha hb h4

theorem pair_near (a b : Nat) (ha : a ≤ 1000000) (hb1 : 1 ≤ b) (hb : b ≤ 1000) : Pair 35 ⟨#[77, 82, 79, 85, 78, 68]⟩ a b := by
  obtain ⟨q, r, low, h1, h2, h3, h4⟩ := split_num a b ha hb1
  obtain ⟨y, z, s, hp⟩ := parts_any a b q r (by rw [h2, h1]) h3 ha hb
  obtain ⟨up, hup⟩ : ∃ up, up = if b ≤ 2 * r then q + 1 else q := ⟨_, rfl⟩
  have hc : up * b = if b ≤ 2 * r then low + b else low := by rw [hup]; split <;> rw [h1]; rw [Nat.add_mul, Nat.one_mul]
  have hle : up * b ≤ 2000000 := by rw [hc]; split <;> omega
  refine ⟨up * b, hle, fun B A cap w hr hB => impl_MROUND B A 2 cap [(a : Int), (b : Int)] ((up * b : Nat) : Int) w rfl (by omega) hr hB (fine_two a b ha hb) fun g L es w h => mround_method g L es a b q r y z s up w h ha hb hb1 h4 hup hle hp, fun w => ?_⟩
  rw [hc]
  by_cases h0 : r = 0
  · rw [if_neg (by omega)]; exact rounded_near_same a b q r low w h1 h2 h3 ha hb h4 h0
  · by_cases h5 : b ≤ 2 * r
    · rw [if_pos h5]; exact rounded_near_more a b q r low w h1 h2 h3 ha hb h4 (by omega) h5
    · rw [if_neg h5]; exact rounded_near_less a b q r low w h1 h2 h3 ha hb h4 (by omega) (by omega)

set_option maxRecDepth 100000 in
set_option maxHeartbeats 1600000 in
theorem fnMultiples_walk (n k : Int) (w : World) (hn : -9223372036854775808 ≤ n ∧ n ≤ 9223372036854775807) (hk : -9223372036854775808 ≤ k ∧ k ≤ 9223372036854775807) :
    Calls Tryz.prog 8 #[.int .i64 n, .int .i64 k] w fun e w' => e = .returned (.bool true) ∧ Below w.heap.size w w' := by
  obtain ⟨N, hN, hN2⟩ := small_nat n 1000000 (by omega)
  obtain ⟨M, hM, hM2⟩ := small_nat k 999 (by omega)
  obtain ⟨b, hb⟩ : ∃ b : Nat, (1 : Int) + (M : Int) = (b : Int) := ⟨M + 1, by omega⟩
  have hb1 : 1 ≤ b := by omega
  have hb2 : b ≤ 1000 := by omega
  obtain ⟨x1, hx1, f1, g1⟩ := pair_ceil N b (by omega) hb1 hb2
  obtain ⟨x2, hx2, f2, g2⟩ := pair_floor N b (by omega) hb1 hb2
  obtain ⟨x3, hx3, f3, g3⟩ := pair_near N b (by omega) hb1 hb2
  have F1 := Lib.hid f1
  have F2 := Lib.hid f2
  have F3 := Lib.hid f3
  have G1 := Lib.hid g1
  have G2 := Lib.hid g2
  have G3 := Lib.hid g3
  have HN := Lib.hid hN
  have HM := Lib.hid hM
  have H1 := Lib.hid hn
  have H2 := Lib.hid hk
  clear hN hM hn hk f1 f2 f3 g1 g2 g3
  go_enter Tryz.func8, Tryz.ntmps8
  go_wp2_with fail
  refine (combSmall_any n 1000000 _ (by omega) (by omega) H1.out).mono ?_
  rintro e w1 ⟨rfl, rfl⟩
  rw [HN.out]
  go_wp2_with fail
  refine (combSmall_any k 999 _ (by omega) (by omega) H2.out).mono ?_
  rintro e w1 ⟨rfl, rfl⟩
  rw [HM.out]
  have hwb : wrap64 ((1 : Int) + (M : Int)) = (b : Int) := by rw [hb]; exact IntWalk.wrap64_in _ ⟨by omega, by omega⟩
  go_wp2_with fail
  have b0 := (Below.refl _ w).alloc (Nat.le_refl _) (.cells #[.int .i64 N, .int .i64 b] 3)
  have r0 := Rd.of_bk (Bk.new w 3 #[.int .i64 N, .int .i64 b]) ([(N : Int), (b : Int)].map (.int .i64)) rfl
  have s0 := b0.size
  generalize w.alloc (.cells #[.int .i64 N, .int .i64 b] 3) = W at *
  refine (numArgs_any _ _ 2 2 [(N : Int), (b : Int)] _ rfl (by omega) r0 (Nat.le_refl _) (fit_two N b (by omega) hb2)).mono ?_
  rintro e w1 ⟨A1, c1, rfl, r1, b1⟩
  have bb := b0.trans (b1.mono s0)
  have s := bb.size
  have hs := Nat.le_refl w1.heap.size
  clear b0 b1 r0 s0
  go_wp2_with fail
  refine (F1.out _ A1 c1 _ r1 (Nat.le_refl _)).mono ?_
  rintro e w2 ⟨rfl, b2⟩
  go_wp2_with fail
  refine (G1.out _).mono ?_
  rintro e w3 ⟨rfl, b3⟩
  go_wp2_with fail
  refine (same_num _ _ _ (by omega) (by omega) (by omega) true (by simp)).mono ?_
  rintro e w4 ⟨rfl, b4⟩
  have bA := (b2.trans (b3.mono b2.size)).trans (b4.mono (Nat.le_trans b2.size b3.size))
  clear b2 b3 b4
  have rA := r1.below bA
  go_wp2_with fail
  refine (F2.out _ A1 c1 _ rA bA.size).mono ?_
  rintro e w5 ⟨rfl, b2⟩
  go_wp2_with fail
  refine (G2.out _).mono ?_
  rintro e w6 ⟨rfl, b3⟩
  go_wp2_with fail
  refine (same_num _ _ _ (by omega) (by omega) (by omega) true (by simp)).mono ?_
  rintro e w7 ⟨rfl, b4⟩
  have bB := bA.trans (((b2.trans (b3.mono b2.size)).trans (b4.mono (Nat.le_trans b2.size b3.size))).mono bA.size)
  clear b2 b3 b4
  have rB := r1.below bB
  go_wp2_with fail
  refine (F3.out _ A1 c1 _ rB bB.size).mono ?_
  rintro e w8 ⟨rfl, b2⟩
  go_wp2_with fail
  refine (G3.out _).mono ?_
  rintro e w9 ⟨rfl, b3⟩
  go_wp2_with fail
  refine (same_num _ _ _ (by omega) (by omega) (by omega) true (by simp)).mono ?_
  rintro e w10 ⟨rfl, b4⟩
  have bC := bB.trans (((b2.trans (b3.mono b2.size)).trans (b4.mono (Nat.le_trans b2.size b3.size))).mono bB.size)
  have be := bb.trans (bC.mono s)
  clear b2 b3 b4 bA bB bC rA rB r1 bb
  go_wp2
  go_ret
  exact ⟨rfl, be⟩
end Go.Proofs.YtojicbajcebjjaaGreatDoor
