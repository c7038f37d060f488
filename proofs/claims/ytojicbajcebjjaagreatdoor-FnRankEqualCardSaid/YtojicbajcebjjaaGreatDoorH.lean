/-
  COMBIN from the program's values to the program's values.
-/
import Derived.Test.YtojicbajcebjjaaGreatDoorG
namespace Go.Proofs.YtojicbajcebjjaaGreatDoor
open Go.RowKit
attribute [local go_sem] run_store_float

set_option maxRecDepth 100000 in
set_option maxHeartbeats 800000 in
theorem door_COMBIN (B : Nat) (A : Option Addr) (len c : Nat) (ns : List Int) (r : Int) (w : World) (hlen : ns.length = len) (hl : len ≤ 1000) (hr : Rd w B A (nvs ns)) (hB : B ≤ w.heap.size) (hs : ∀ n ∈ ns, n.natAbs < 2 ^ 53)
    (hM : ∀ (g L : Nat) (es : List Nat) (w : World), IsList w L es (ns.map fa) → Calls Tryz.prog 69 #[.pointer (some ⟨g, 0, none⟩), .pointer (some ⟨L, 0, none⟩)] w fun e w' => e = .returned (.agg #[.string ⟨#[]⟩, .float .f64 (fi r), .string ⟨#[]⟩, .slice none 0 0, .slice none 0 0, .bool false, .string ⟨#[]⟩, .int .u8 1, .pointer none, .pointer none]) ∧ Below w.heap.size w w') :
    Calls Tryz.prog 48 #[.slice A len c] w fun e w' => e = .returned (.agg #[.int .i64 1, .float .f64 (fi r), .string ⟨#[]⟩, .slice none 0 0]) ∧ Below w.heap.size w w' := by
  have HL := Lib.hid hlen
  have HM := Lib.hid hM
  have HS := Lib.hid hs
  clear hlen hM hs
  go_enter Tryz.func48, Tryz.ntmps48
  go_wp2_with fail
  have R1 := Bk.new w 59 #[.int .i64 0, .float .f64 0, .string ⟨#[]⟩, .slice none 0 0]
  have bz := (Below.refl _ w).alloc (Nat.le_refl _) (.cells #[.int .i64 0, .float .f64 0, .string ⟨#[]⟩, .slice none 0 0] 59)
  have s0 : w.heap.size < (w.alloc (.cells #[.int .i64 0, .float .f64 0, .string ⟨#[]⟩, .slice none 0 0] 59)).heap.size := by simp
  generalize w.alloc (.cells #[.int .i64 0, .float .f64 0, .string ⟨#[]⟩, .slice none 0 0] 59) = w0 at *
  refine (doorFuncs_any _).mono ?_
  rintro e w1 ⟨rfl, b1, _⟩
  have hr1 := (hr.below (bz.mono hB)).below (b1.mono (by omega))
  have s1 := b1.size
  go_wp2_with fail
  refine (innerList_nums B A len c ns _ HL.out hl hr1 (by omega) HS.out).mono ?_
  rintro e w2 ⟨L, es, rfl, hlist, hLL, b2⟩
  have s2 := b2.size
  go_wp2_with fail
  refine (HM.out _ L es _ hlist).mono ?_
  rintro e w3 ⟨rfl, b3⟩
  have s3 := b3.size
  go_wp2_with fail
  refine (doorArg_num r _).mono ?_
  rintro e w4 ⟨rfl, b4⟩
  have R4 := (((R1.later b1).later b2).later b3).later b4
  have r4 := fun i => R4.cell i
  have q4 := fun i => R4.frozen i
  have b := (((bz.trans (b1.mono (by omega))).trans (b2.mono (by omega))).trans (b3.mono (by omega))).trans (b4.mono (by omega))
  clear bz b1 b2 b3 b4 hlist hr1 hr
  go_wp2
  refine bodyPost_ret (v := (.agg #[.int .i64 1, .float .f64 (fi r), .string ⟨#[]⟩, .slice none 0 0])) (by simp [results, Tryz.results48, go_sem, r4]) rfl ⟨rfl, ?_⟩
  repeat refine Below.setCell ?_ (by simp) _
  exact b

set_option maxRecDepth 100000 in
set_option maxHeartbeats 800000 in
theorem impl_COMBIN (B : Nat) (A : Option Addr) (len c : Nat) (ns : List Int) (r : Int) (w : World) (hlen : ns.length = len) (hl : len ≤ 1000) (hr : Rd w B A (nvs ns)) (hB : B ≤ w.heap.size) (hs : ∀ n ∈ ns, n.natAbs < 2 ^ 53)
    (hM : ∀ (g L : Nat) (es : List Nat) (w : World), IsList w L es (ns.map fa) → Calls Tryz.prog 69 #[.pointer (some ⟨g, 0, none⟩), .pointer (some ⟨L, 0, none⟩)] w fun e w' => e = .returned (.agg #[.string ⟨#[]⟩, .float .f64 (fi r), .string ⟨#[]⟩, .slice none 0 0, .slice none 0 0, .bool false, .string ⟨#[]⟩, .int .u8 1, .pointer none, .pointer none]) ∧ Below w.heap.size w w') :
    Calls Tryz.prog 21 #[.slice A len c] w fun e w' => e = .returned (.agg #[.int .i64 1, .float .f64 (fi r), .string ⟨#[]⟩, .slice none 0 0]) ∧ Below w.heap.size w w' := by
  have HL := Lib.hid hlen
  have HM := Lib.hid hM
  have HS := Lib.hid hs
  clear hlen hM hs
  go_enter Tryz.func21, Tryz.ntmps21
  go_wp2_with fail
  have R1 := Bk.new w 36 #[.int .i64 0, .float .f64 0, .string ⟨#[]⟩, .slice none 0 0]
  have bz := (Below.refl _ w).alloc (Nat.le_refl _) (.cells #[.int .i64 0, .float .f64 0, .string ⟨#[]⟩, .slice none 0 0] 36)
  have s0 : w.heap.size < (w.alloc (.cells #[.int .i64 0, .float .f64 0, .string ⟨#[]⟩, .slice none 0 0] 36)).heap.size := by simp
  generalize w.alloc (.cells #[.int .i64 0, .float .f64 0, .string ⟨#[]⟩, .slice none 0 0] 36) = w0 at *
  have hr0 := hr.below (bz.mono hB)
  refine (in_nums B A len c ns _ HL.out hl hr0 (by omega)).mono ?_
  rintro e w1 ⟨A1, c1, rfl, hr1, b1⟩
  have s1 := b1.size
  go_wp2_with fail
  refine (door_COMBIN w1.heap.size A1 len c1 ns r _ HL.out hl hr1 (Nat.le_refl _) HS.out HM.out).mono ?_
  rintro e w2 ⟨rfl, b2⟩
  have s2 := b2.size
  go_wp2_with fail
  refine (out_num r _).mono ?_
  rintro e w4 ⟨rfl, b4⟩
  have R4 := ((R1.later b1).later b2).later b4
  have r4 := fun i => R4.cell i
  have q4 := fun i => R4.frozen i
  have b := ((bz.trans (b1.mono (by omega))).trans (b2.mono (by omega))).trans (b4.mono (by omega))
  clear bz b1 b2 b4 hr1 hr hr0
  go_wp2
  refine bodyPost_ret (v := (.agg #[.int .i64 1, .float .f64 (fi r), .string ⟨#[]⟩, .slice none 0 0])) (by simp [results, Tryz.results21, go_sem, r4]) rfl ⟨rfl, ?_⟩
  repeat refine Below.setCell ?_ (by simp) _
  exact b

end Go.Proofs.YtojicbajcebjjaaGreatDoor
