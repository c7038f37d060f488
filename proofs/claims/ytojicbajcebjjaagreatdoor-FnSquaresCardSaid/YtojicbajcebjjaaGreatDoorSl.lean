/-
  SUMX2MY2, SUMX2PY2, SUMXMY2 of two columns, from the program's values to the program's values.
-/
import Derived.Test.YtojicbajcebjjaaGreatDoorSi
import Derived.Test.YtojicbajcebjjaaGreatDoorSj
import Derived.Test.YtojicbajcebjjaaGreatDoorSk
namespace Go.Proofs.YtojicbajcebjjaaGreatDoor
open Go.RowKit
attribute [local go_sem] run_store_float

set_option maxRecDepth 100000 in
set_option maxHeartbeats 1600000 in
theorem method_minus (g L : Nat) (es : List Nat) (vs : List Value) (a b : List Int) (n : Nat) (w : World) (hl : FList w L es [.col a, .col b] vs) (ha : a.length = n) (hb : b.length = n) (hn : n ≤ 50)
    (fa' : ∀ z ∈ a, -1000 < z ∧ z < 1000 ∧ z ≠ 0) (fb' : ∀ z ∈ b, -1000 < z ∧ z < 1000 ∧ z ≠ 0) :
    Calls Tryz.prog 65 #[.pointer (some ⟨g, 0, none⟩), .pointer (some ⟨L, 0, none⟩)] w fun e w' => e = .returned (.agg #[.string ⟨#[]⟩, .float .f64 (fi (pairSum (fun x y => x * x - y * y) a b)), .string ⟨#[]⟩, .slice none 0 0, .slice none 0 0, .bool false, .string ⟨#[]⟩, .int .u8 1, .pointer none, .pointer none]) ∧ Below w.heap.size w w' := by
  generalize hR : pairSum (fun x y => x * x - y * y) a b = R
  go_enter Tryz.func65, Tryz.ntmps65
  go_wp2_with fail
  have R1 := Bk.new w 73 #[.string ⟨#[]⟩, .float .f64 0, .string ⟨#[]⟩, .slice none 0 0, .slice none 0 0, .bool false, .string ⟨#[]⟩, .int .u8 0, .pointer none, .pointer none]
  have bz := (Below.refl _ w).alloc (Nat.le_refl _) (.cells #[.string ⟨#[]⟩, .float .f64 0, .string ⟨#[]⟩, .slice none 0 0, .slice none 0 0, .bool false, .string ⟨#[]⟩, .int .u8 0, .pointer none, .pointer none] 73)
  have s0 : w.heap.size < (w.alloc (.cells #[.string ⟨#[]⟩, .float .f64 0, .string ⟨#[]⟩, .slice none 0 0, .slice none 0 0, .bool false, .string ⟨#[]⟩, .int .u8 0, .pointer none, .pointer none] 73)).heap.size := by simp
  have hl1 := hl.below bz
  generalize w.alloc (.cells #[.string ⟨#[]⟩, .float .f64 0, .string ⟨#[]⟩, .slice none 0 0, .slice none 0 0, .bool false, .string ⟨#[]⟩, .int .u8 0, .pointer none, .pointer none] 73) = W0 at *
  refine (sumx_minus g L es vs a b n _ hl1 ha hb hn fa' fb').mono ?_
  rintro e w9 ⟨rfl, b9⟩
  rw [hR]
  have R6 := R1.later b9
  have r6 := fun i => R6.cell i
  have q6 := fun i => R6.frozen i
  have bE := bz.trans (b9.mono (by omega))
  clear fa' fb'
  go_wp2
  refine bodyPost_ret (v := (.agg #[.string ⟨#[]⟩, .float .f64 (fi R), .string ⟨#[]⟩, .slice none 0 0, .slice none 0 0, .bool false, .string ⟨#[]⟩, .int .u8 1, .pointer none, .pointer none])) (by simp [results, Tryz.results65, go_sem, r6]) rfl ⟨rfl, ?_⟩
  repeat refine Below.setCell ?_ (by simp) _
  exact bE

set_option maxRecDepth 100000 in
set_option maxHeartbeats 1600000 in
theorem cdoor_minus (B : Nat) (A : Option Addr) (c : Nat) (cs : List (List Value)) (a b : List Int) (n : Nat) (w : World) (hr : Rd w B A cs.flatten) (hB : B ≤ w.heap.size) (hx : Args (AgI 59) w none [.col a, .col b] cs) (ha : a.length = n) (hb : b.length = n) (h1 : 1 ≤ n) (hn : n ≤ 50)
    (fa' : ∀ z ∈ a, -1000 < z ∧ z < 1000 ∧ z ≠ 0) (fb' : ∀ z ∈ b, -1000 < z ∧ z < 1000 ∧ z ≠ 0) :
    Calls Tryz.prog 44 #[.slice A 2 c] w fun e w' => e = .returned (.agg #[.int .i64 1, .float .f64 (fi (pairSum (fun x y => x * x - y * y) a b)), .string ⟨#[]⟩, .slice none 0 0]) ∧ Below w.heap.size w w' := by
  have HF : Hid (∀ x ∈ [Ag.col a, Ag.col b], x.fine) := Lib.hid (by
    intro x hx
    simp at hx
    rcases hx with rfl | rfl
    · exact ⟨by omega, by omega, fun z hz => by have := fa' z hz; omega⟩
    · exact ⟨by omega, by omega, fun z hz => by have := fb' z hz; omega⟩)
  have HM := Lib.hid (fun (L : Nat) (es : List Nat) (vs : List Value) (w : World) (h : FList w L es [.col a, .col b] vs) (g : Nat) => method_minus g L es vs a b n w h ha hb hn fa' fb')
  generalize pairSum (fun x y => x * x - y * y) a b = R at *
  clear ha hb fa' fb'
  go_enter Tryz.func44, Tryz.ntmps44
  go_wp2_with fail
  have R1 := Bk.new w 59 #[.int .i64 0, .float .f64 0, .string ⟨#[]⟩, .slice none 0 0]
  have bz := (Below.refl _ w).alloc (Nat.le_refl _) (.cells #[.int .i64 0, .float .f64 0, .string ⟨#[]⟩, .slice none 0 0] 59)
  have s0 : w.heap.size < (w.alloc (.cells #[.int .i64 0, .float .f64 0, .string ⟨#[]⟩, .slice none 0 0] 59)).heap.size := by simp
  have hr0 := hr.below (bz.mono hB)
  have hx0 := hx.below (near_I 59) bz
  generalize w.alloc (.cells #[.int .i64 0, .float .f64 0, .string ⟨#[]⟩, .slice none 0 0] 59) = w0 at *
  refine (doorFuncs_any _).mono ?_
  rintro e w1 ⟨rfl, b1, _⟩
  have hr1 := hr0.below (b1.mono (by omega))
  have hx1 := hx0.below (near_I 59) b1
  have s1 := b1.size
  go_wp2_with fail
  refine (innerList_args B A 2 c [.col a, .col b] cs _ rfl (by omega) hr1 (by omega) hx1 HF.out).mono ?_
  rintro e w2 ⟨L, es, vs, rfl, hlist, hLL, b2⟩
  have s2 := b2.size
  go_wp2_with fail
  refine (HM.out L es vs _ hlist _).mono ?_
  rintro e w3 ⟨rfl, b3⟩
  have s3 := b3.size
  go_wp2_with fail
  refine (doorArg_num R _).mono ?_
  rintro e w4 ⟨rfl, b4⟩
  have R4 := (((R1.later b1).later b2).later b3).later b4
  have r4 := fun i => R4.cell i
  have q4 := fun i => R4.frozen i
  have bE := (((bz.trans (b1.mono (by omega))).trans (b2.mono (by omega))).trans (b3.mono (by omega))).trans (b4.mono (by omega))
  clear bz b1 b2 b3 b4 hlist hr1 hr hx hr0 hx0 hx1
  go_wp2
  refine bodyPost_ret (v := (.agg #[.int .i64 1, .float .f64 (fi R), .string ⟨#[]⟩, .slice none 0 0])) (by simp [results, Tryz.results44, go_sem, r4]) rfl ⟨rfl, ?_⟩
  repeat refine Below.setCell ?_ (by simp) _
  exact bE

set_option maxRecDepth 100000 in
set_option maxHeartbeats 1600000 in
theorem cimpl_minus (B : Nat) (A : Option Addr) (c : Nat) (cs : List (List Value)) (a b : List Int) (n : Nat) (w : World) (hr : Rd w B A cs.flatten) (hB : B ≤ w.heap.size) (hx : Args (AgI 36) w none [.col a, .col b] cs) (ha : a.length = n) (hb : b.length = n) (h1 : 1 ≤ n) (hn : n ≤ 50)
    (fa' : ∀ z ∈ a, -1000 < z ∧ z < 1000 ∧ z ≠ 0) (fb' : ∀ z ∈ b, -1000 < z ∧ z < 1000 ∧ z ≠ 0) :
    Calls Tryz.prog 16 #[.slice A 2 c] w fun e w' => e = .returned (.agg #[.int .i64 1, .float .f64 (fi (pairSum (fun x y => x * x - y * y) a b)), .string ⟨#[]⟩, .slice none 0 0]) ∧ Below w.heap.size w w' := by
  have HF : Hid (∀ x ∈ [Ag.col a, Ag.col b], x.fits) := Lib.hid (by
    intro x hx
    simp at hx
    rcases hx with rfl | rfl
    · exact ⟨by omega, fun z hz => by have := fa' z hz; omega⟩
    · exact ⟨by omega, fun z hz => by have := fb' z hz; omega⟩)
  have HD := Lib.hid (fun (B : Nat) (A : Option Addr) (c : Nat) (cs : List (List Value)) (w : World) hr hB hx => cdoor_minus B A c cs a b n w hr hB hx ha hb h1 hn fa' fb')
  generalize pairSum (fun x y => x * x - y * y) a b = R at *
  clear ha hb fa' fb'
  go_enter Tryz.func16, Tryz.ntmps16
  go_wp2_with fail
  have R1 := Bk.new w 36 #[.int .i64 0, .float .f64 0, .string ⟨#[]⟩, .slice none 0 0]
  have bz := (Below.refl _ w).alloc (Nat.le_refl _) (.cells #[.int .i64 0, .float .f64 0, .string ⟨#[]⟩, .slice none 0 0] 36)
  have s0 : w.heap.size < (w.alloc (.cells #[.int .i64 0, .float .f64 0, .string ⟨#[]⟩, .slice none 0 0] 36)).heap.size := by simp
  have hr0 := hr.below (bz.mono hB)
  have hx0 := hx.below (near_I 36) bz
  generalize w.alloc (.cells #[.int .i64 0, .float .f64 0, .string ⟨#[]⟩, .slice none 0 0] 36) = w0 at *
  refine (in_args B A 2 c [.col a, .col b] cs _ rfl (by omega) hr0 (by omega) hx0 HF.out).mono ?_
  rintro e w1 ⟨A1, c1, cs1, rfl, hr1, hx1, b1⟩
  have s1 := b1.size
  go_wp2_with fail
  refine (HD.out w1.heap.size A1 c1 cs1 _ hr1 (Nat.le_refl _) hx1).mono ?_
  rintro e w2 ⟨rfl, b2⟩
  have s2 := b2.size
  go_wp2_with fail
  refine (out_num R _).mono ?_
  rintro e w4 ⟨rfl, b4⟩
  have R4 := ((R1.later b1).later b2).later b4
  have r4 := fun i => R4.cell i
  have q4 := fun i => R4.frozen i
  have bE := ((bz.trans (b1.mono (by omega))).trans (b2.mono (by omega))).trans (b4.mono (by omega))
  clear bz b1 b2 b4 hr1 hr hr0 hx hx0 hx1
  go_wp2
  refine bodyPost_ret (v := (.agg #[.int .i64 1, .float .f64 (fi R), .string ⟨#[]⟩, .slice none 0 0])) (by simp [results, Tryz.results16, go_sem, r4]) rfl ⟨rfl, ?_⟩
  repeat refine Below.setCell ?_ (by simp) _
  exact bE

set_option maxRecDepth 100000 in
set_option maxHeartbeats 1600000 in
theorem method_plus (g L : Nat) (es : List Nat) (vs : List Value) (a b : List Int) (n : Nat) (w : World) (hl : FList w L es [.col a, .col b] vs) (ha : a.length = n) (hb : b.length = n) (hn : n ≤ 50)
    (fa' : ∀ z ∈ a, -1000 < z ∧ z < 1000 ∧ z ≠ 0) (fb' : ∀ z ∈ b, -1000 < z ∧ z < 1000 ∧ z ≠ 0) :
    Calls Tryz.prog 67 #[.pointer (some ⟨g, 0, none⟩), .pointer (some ⟨L, 0, none⟩)] w fun e w' => e = .returned (.agg #[.string ⟨#[]⟩, .float .f64 (fi (pairSum (fun x y => x * x + y * y) a b)), .string ⟨#[]⟩, .slice none 0 0, .slice none 0 0, .bool false, .string ⟨#[]⟩, .int .u8 1, .pointer none, .pointer none]) ∧ Below w.heap.size w w' := by
  generalize hR : pairSum (fun x y => x * x + y * y) a b = R
  go_enter Tryz.func67, Tryz.ntmps67
  go_wp2_with fail
  have R1 := Bk.new w 73 #[.string ⟨#[]⟩, .float .f64 0, .string ⟨#[]⟩, .slice none 0 0, .slice none 0 0, .bool false, .string ⟨#[]⟩, .int .u8 0, .pointer none, .pointer none]
  have bz := (Below.refl _ w).alloc (Nat.le_refl _) (.cells #[.string ⟨#[]⟩, .float .f64 0, .string ⟨#[]⟩, .slice none 0 0, .slice none 0 0, .bool false, .string ⟨#[]⟩, .int .u8 0, .pointer none, .pointer none] 73)
  have s0 : w.heap.size < (w.alloc (.cells #[.string ⟨#[]⟩, .float .f64 0, .string ⟨#[]⟩, .slice none 0 0, .slice none 0 0, .bool false, .string ⟨#[]⟩, .int .u8 0, .pointer none, .pointer none] 73)).heap.size := by simp
  have hl1 := hl.below bz
  generalize w.alloc (.cells #[.string ⟨#[]⟩, .float .f64 0, .string ⟨#[]⟩, .slice none 0 0, .slice none 0 0, .bool false, .string ⟨#[]⟩, .int .u8 0, .pointer none, .pointer none] 73) = W0 at *
  refine (sumx_plus g L es vs a b n _ hl1 ha hb hn fa' fb').mono ?_
  rintro e w9 ⟨rfl, b9⟩
  rw [hR]
  have R6 := R1.later b9
  have r6 := fun i => R6.cell i
  have q6 := fun i => R6.frozen i
  have bE := bz.trans (b9.mono (by omega))
  clear fa' fb'
  go_wp2
  refine bodyPost_ret (v := (.agg #[.string ⟨#[]⟩, .float .f64 (fi R), .string ⟨#[]⟩, .slice none 0 0, .slice none 0 0, .bool false, .string ⟨#[]⟩, .int .u8 1, .pointer none, .pointer none])) (by simp [results, Tryz.results67, go_sem, r6]) rfl ⟨rfl, ?_⟩
  repeat refine Below.setCell ?_ (by simp) _
  exact bE

set_option maxRecDepth 100000 in
set_option maxHeartbeats 1600000 in
theorem cdoor_plus (B : Nat) (A : Option Addr) (c : Nat) (cs : List (List Value)) (a b : List Int) (n : Nat) (w : World) (hr : Rd w B A cs.flatten) (hB : B ≤ w.heap.size) (hx : Args (AgI 59) w none [.col a, .col b] cs) (ha : a.length = n) (hb : b.length = n) (h1 : 1 ≤ n) (hn : n ≤ 50)
    (fa' : ∀ z ∈ a, -1000 < z ∧ z < 1000 ∧ z ≠ 0) (fb' : ∀ z ∈ b, -1000 < z ∧ z < 1000 ∧ z ≠ 0) :
    Calls Tryz.prog 46 #[.slice A 2 c] w fun e w' => e = .returned (.agg #[.int .i64 1, .float .f64 (fi (pairSum (fun x y => x * x + y * y) a b)), .string ⟨#[]⟩, .slice none 0 0]) ∧ Below w.heap.size w w' := by
  have HF : Hid (∀ x ∈ [Ag.col a, Ag.col b], x.fine) := Lib.hid (by
    intro x hx
    simp at hx
    rcases hx with rfl | rfl
    · exact ⟨by omega, by omega, fun z hz => by have := fa' z hz; omega⟩
    · exact ⟨by omega, by omega, fun z hz => by have := fb' z hz; omega⟩)
  have HM := Lib.hid (fun (L : Nat) (es : List Nat) (vs : List Value) (w : World) (h : FList w L es [.col a, .col b] vs) (g : Nat) => method_plus g L es vs a b n w h ha hb hn fa' fb')
  generalize pairSum (fun x y => x * x + y * y) a b = R at *
  clear ha hb fa' fb'
  go_enter Tryz.func46, Tryz.ntmps46
  go_wp2_with fail
  have R1 := Bk.new w 59 #[.int .i64 0, .float .f64 0, .string ⟨#[]⟩, .slice none 0 0]
  have bz := (Below.refl _ w).alloc (Nat.le_refl _) (.cells #[.int .i64 0, .float .f64 0, .string ⟨#[]⟩, .slice none 0 0] 59)
  have s0 : w.heap.size < (w.alloc (.cells #[.int .i64 0, .float .f64 0, .string ⟨#[]⟩, .slice none 0 0] 59)).heap.size := by simp
  have hr0 := hr.below (bz.mono hB)
  have hx0 := hx.below (near_I 59) bz
  generalize w.alloc (.cells #[.int .i64 0, .float .f64 0, .string ⟨#[]⟩, .slice none 0 0] 59) = w0 at *
  refine (doorFuncs_any _).mono ?_
  rintro e w1 ⟨rfl, b1, _⟩
  have hr1 := hr0.below (b1.mono (by omega))
  have hx1 := hx0.below (near_I 59) b1
  have s1 := b1.size
  go_wp2_with fail
  refine (innerList_args B A 2 c [.col a, .col b] cs _ rfl (by omega) hr1 (by omega) hx1 HF.out).mono ?_
  rintro e w2 ⟨L, es, vs, rfl, hlist, hLL, b2⟩
  have s2 := b2.size
  go_wp2_with fail
  refine (HM.out L es vs _ hlist _).mono ?_
  rintro e w3 ⟨rfl, b3⟩
  have s3 := b3.size
  go_wp2_with fail
  refine (doorArg_num R _).mono ?_
  rintro e w4 ⟨rfl, b4⟩
  have R4 := (((R1.later b1).later b2).later b3).later b4
  have r4 := fun i => R4.cell i
  have q4 := fun i => R4.frozen i
  have bE := (((bz.trans (b1.mono (by omega))).trans (b2.mono (by omega))).trans (b3.mono (by omega))).trans (b4.mono (by omega))
  clear bz b1 b2 b3 b4 hlist hr1 hr hx hr0 hx0 hx1
  go_wp2
  refine bodyPost_ret (v := (.agg #[.int .i64 1, .float .f64 (fi R), .string ⟨#[]⟩, .slice none 0 0])) (by simp [results, Tryz.results46, go_sem, r4]) rfl ⟨rfl, ?_⟩
  repeat refine Below.setCell ?_ (by simp) _
  exact bE

set_option maxRecDepth 100000 in
set_option maxHeartbeats 1600000 in
theorem cimpl_plus (B : Nat) (A : Option Addr) (c : Nat) (cs : List (List Value)) (a b : List Int) (n : Nat) (w : World) (hr : Rd w B A cs.flatten) (hB : B ≤ w.heap.size) (hx : Args (AgI 36) w none [.col a, .col b] cs) (ha : a.length = n) (hb : b.length = n) (h1 : 1 ≤ n) (hn : n ≤ 50)
    (fa' : ∀ z ∈ a, -1000 < z ∧ z < 1000 ∧ z ≠ 0) (fb' : ∀ z ∈ b, -1000 < z ∧ z < 1000 ∧ z ≠ 0) :
    Calls Tryz.prog 18 #[.slice A 2 c] w fun e w' => e = .returned (.agg #[.int .i64 1, .float .f64 (fi (pairSum (fun x y => x * x + y * y) a b)), .string ⟨#[]⟩, .slice none 0 0]) ∧ Below w.heap.size w w' := by
  have HF : Hid (∀ x ∈ [Ag.col a, Ag.col b], x.fits) := Lib.hid (by
    intro x hx
    simp at hx
    rcases hx with rfl | rfl
    · exact ⟨by omega, fun z hz => by have := fa' z hz; omega⟩
    · exact ⟨by omega, fun z hz => by have := fb' z hz; omega⟩)
  have HD := Lib.hid (fun (B : Nat) (A : Option Addr) (c : Nat) (cs : List (List Value)) (w : World) hr hB hx => cdoor_plus B A c cs a b n w hr hB hx ha hb h1 hn fa' fb')
  generalize pairSum (fun x y => x * x + y * y) a b = R at *
  clear ha hb fa' fb'
  go_enter Tryz.func18, Tryz.ntmps18
  go_wp2_with fail
  have R1 := Bk.new w 36 #[.int .i64 0, .float .f64 0, .string ⟨#[]⟩, .slice none 0 0]
  have bz := (Below.refl _ w).alloc (Nat.le_refl _) (.cells #[.int .i64 0, .float .f64 0, .string ⟨#[]⟩, .slice none 0 0] 36)
  have s0 : w.heap.size < (w.alloc (.cells #[.int .i64 0, .float .f64 0, .string ⟨#[]⟩, .slice none 0 0] 36)).heap.size := by simp
  have hr0 := hr.below (bz.mono hB)
  have hx0 := hx.below (near_I 36) bz
  generalize w.alloc (.cells #[.int .i64 0, .float .f64 0, .string ⟨#[]⟩, .slice none 0 0] 36) = w0 at *
  refine (in_args B A 2 c [.col a, .col b] cs _ rfl (by omega) hr0 (by omega) hx0 HF.out).mono ?_
  rintro e w1 ⟨A1, c1, cs1, rfl, hr1, hx1, b1⟩
  have s1 := b1.size
  go_wp2_with fail
  refine (HD.out w1.heap.size A1 c1 cs1 _ hr1 (Nat.le_refl _) hx1).mono ?_
  rintro e w2 ⟨rfl, b2⟩
  have s2 := b2.size
  go_wp2_with fail
  refine (out_num R _).mono ?_
  rintro e w4 ⟨rfl, b4⟩
  have R4 := ((R1.later b1).later b2).later b4
  have r4 := fun i => R4.cell i
  have q4 := fun i => R4.frozen i
  have bE := ((bz.trans (b1.mono (by omega))).trans (b2.mono (by omega))).trans (b4.mono (by omega))
  clear bz b1 b2 b4 hr1 hr hr0 hx hx0 hx1
  go_wp2
  refine bodyPost_ret (v := (.agg #[.int .i64 1, .float .f64 (fi R), .string ⟨#[]⟩, .slice none 0 0])) (by simp [results, Tryz.results18, go_sem, r4]) rfl ⟨rfl, ?_⟩
  repeat refine Below.setCell ?_ (by simp) _
  exact bE

set_option maxRecDepth 100000 in
set_option maxHeartbeats 1600000 in
theorem method_diff (g L : Nat) (es : List Nat) (vs : List Value) (a b : List Int) (n : Nat) (w : World) (hl : FList w L es [.col a, .col b] vs) (ha : a.length = n) (hb : b.length = n) (hn : n ≤ 50)
    (fa' : ∀ z ∈ a, -1000 < z ∧ z < 1000 ∧ z ≠ 0) (fb' : ∀ z ∈ b, -1000 < z ∧ z < 1000 ∧ z ≠ 0) :
    Calls Tryz.prog 68 #[.pointer (some ⟨g, 0, none⟩), .pointer (some ⟨L, 0, none⟩)] w fun e w' => e = .returned (.agg #[.string ⟨#[]⟩, .float .f64 (fi (pairSum (fun x y => (x - y) * (x - y)) a b)), .string ⟨#[]⟩, .slice none 0 0, .slice none 0 0, .bool false, .string ⟨#[]⟩, .int .u8 1, .pointer none, .pointer none]) ∧ Below w.heap.size w w' := by
  generalize hR : pairSum (fun x y => (x - y) * (x - y)) a b = R
  go_enter Tryz.func68, Tryz.ntmps68
  go_wp2_with fail
  have R1 := Bk.new w 73 #[.string ⟨#[]⟩, .float .f64 0, .string ⟨#[]⟩, .slice none 0 0, .slice none 0 0, .bool false, .string ⟨#[]⟩, .int .u8 0, .pointer none, .pointer none]
  have bz := (Below.refl _ w).alloc (Nat.le_refl _) (.cells #[.string ⟨#[]⟩, .float .f64 0, .string ⟨#[]⟩, .slice none 0 0, .slice none 0 0, .bool false, .string ⟨#[]⟩, .int .u8 0, .pointer none, .pointer none] 73)
  have s0 : w.heap.size < (w.alloc (.cells #[.string ⟨#[]⟩, .float .f64 0, .string ⟨#[]⟩, .slice none 0 0, .slice none 0 0, .bool false, .string ⟨#[]⟩, .int .u8 0, .pointer none, .pointer none] 73)).heap.size := by simp
  have hl1 := hl.below bz
  generalize w.alloc (.cells #[.string ⟨#[]⟩, .float .f64 0, .string ⟨#[]⟩, .slice none 0 0, .slice none 0 0, .bool false, .string ⟨#[]⟩, .int .u8 0, .pointer none, .pointer none] 73) = W0 at *
  refine (sumx_diff g L es vs a b n _ hl1 ha hb hn fa' fb').mono ?_
  rintro e w9 ⟨rfl, b9⟩
  rw [hR]
  have R6 := R1.later b9
  have r6 := fun i => R6.cell i
  have q6 := fun i => R6.frozen i
  have bE := bz.trans (b9.mono (by omega))
  clear fa' fb'
  go_wp2
  refine bodyPost_ret (v := (.agg #[.string ⟨#[]⟩, .float .f64 (fi R), .string ⟨#[]⟩, .slice none 0 0, .slice none 0 0, .bool false, .string ⟨#[]⟩, .int .u8 1, .pointer none, .pointer none])) (by simp [results, Tryz.results68, go_sem, r6]) rfl ⟨rfl, ?_⟩
  repeat refine Below.setCell ?_ (by simp) _
  exact bE

set_option maxRecDepth 100000 in
set_option maxHeartbeats 1600000 in
theorem cdoor_diff (B : Nat) (A : Option Addr) (c : Nat) (cs : List (List Value)) (a b : List Int) (n : Nat) (w : World) (hr : Rd w B A cs.flatten) (hB : B ≤ w.heap.size) (hx : Args (AgI 59) w none [.col a, .col b] cs) (ha : a.length = n) (hb : b.length = n) (h1 : 1 ≤ n) (hn : n ≤ 50)
    (fa' : ∀ z ∈ a, -1000 < z ∧ z < 1000 ∧ z ≠ 0) (fb' : ∀ z ∈ b, -1000 < z ∧ z < 1000 ∧ z ≠ 0) :
    Calls Tryz.prog 47 #[.slice A 2 c] w fun e w' => e = .returned (.agg #[.int .i64 1, .float .f64 (fi (pairSum (fun x y => (x - y) * (x - y)) a b)), .string ⟨#[]⟩, .slice none 0 0]) ∧ Below w.heap.size w w' := by
  have HF : Hid (∀ x ∈ [Ag.col a, Ag.col b], x.fine) := Lib.hid (by
    intro x hx
    simp at hx
    rcases hx with rfl | rfl
    · exact ⟨by omega, by omega, fun z hz => by have := fa' z hz; omega⟩
    · exact ⟨by omega, by omega, fun z hz => by have := fb' z hz; omega⟩)
  have HM := Lib.hid (fun (L : Nat) (es : List Nat) (vs : List Value) (w : World) (h : FList w L es [.col a, .col b] vs) (g : Nat) => method_diff g L es vs a b n w h ha hb hn fa' fb')
  generalize pairSum (fun x y => (x - y) * (x - y)) a b = R at *
  clear ha hb fa' fb'
  go_enter Tryz.func47, Tryz.ntmps47
  go_wp2_with fail
  have R1 := Bk.new w 59 #[.int .i64 0, .float .f64 0, .string ⟨#[]⟩, .slice none 0 0]
  have bz := (Below.refl _ w).alloc (Nat.le_refl _) (.cells #[.int .i64 0, .float .f64 0, .string ⟨#[]⟩, .slice none 0 0] 59)
  have s0 : w.heap.size < (w.alloc (.cells #[.int .i64 0, .float .f64 0, .string ⟨#[]⟩, .slice none 0 0] 59)).heap.size := by simp
  have hr0 := hr.below (bz.mono hB)
  have hx0 := hx.below (near_I 59) bz
  generalize w.alloc (.cells #[.int .i64 0, .float .f64 0, .string ⟨#[]⟩, .slice none 0 0] 59) = w0 at *
  refine (doorFuncs_any _).mono ?_
  rintro e w1 ⟨rfl, b1, _⟩
  have hr1 := hr0.below (b1.mono (by omega))
  have hx1 := hx0.below (near_I 59) b1
  have s1 := b1.size
  go_wp2_with fail
  refine (innerList_args B A 2 c [.col a, .col b] cs _ rfl (by omega) hr1 (by omega) hx1 HF.out).mono ?_
  rintro e w2 ⟨L, es, vs, rfl, hlist, hLL, b2⟩
  have s2 := b2.size
  go_wp2_with fail
  refine (HM.out L es vs _ hlist _).mono ?_
  rintro e w3 ⟨rfl, b3⟩
  have s3 := b3.size
  go_wp2_with fail
  refine (doorArg_num R _).mono ?_
  rintro e w4 ⟨rfl, b4⟩
  have R4 := (((R1.later b1).later b2).later b3).later b4
  have r4 := fun i => R4.cell i
  have q4 := fun i => R4.frozen i
  have bE := (((bz.trans (b1.mono (by omega))).trans (b2.mono (by omega))).trans (b3.mono (by omega))).trans (b4.mono (by omega))
  clear bz b1 b2 b3 b4 hlist hr1 hr hx hr0 hx0 hx1
  go_wp2
  refine bodyPost_ret (v := (.agg #[.int .i64 1, .float .f64 (fi R), .string ⟨#[]⟩, .slice none 0 0])) (by simp [results, Tryz.results47, go_sem, r4]) rfl ⟨rfl, ?_⟩
  repeat refine Below.setCell ?_ (by simp) _
  exact bE

set_option maxRecDepth 100000 in
set_option maxHeartbeats 1600000 in
theorem cimpl_diff (B : Nat) (A : Option Addr) (c : Nat) (cs : List (List Value)) (a b : List Int) (n : Nat) (w : World) (hr : Rd w B A cs.flatten) (hB : B ≤ w.heap.size) (hx : Args (AgI 36) w none [.col a, .col b] cs) (ha : a.length = n) (hb : b.length = n) (h1 : 1 ≤ n) (hn : n ≤ 50)
    (fa' : ∀ z ∈ a, -1000 < z ∧ z < 1000 ∧ z ≠ 0) (fb' : ∀ z ∈ b, -1000 < z ∧ z < 1000 ∧ z ≠ 0) :
    Calls Tryz.prog 19 #[.slice A 2 c] w fun e w' => e = .returned (.agg #[.int .i64 1, .float .f64 (fi (pairSum (fun x y => (x - y) * (x - y)) a b)), .string ⟨#[]⟩, .slice none 0 0]) ∧ Below w.heap.size w w' := by
  have HF : Hid (∀ x ∈ [Ag.col a, Ag.col b], x.fits) := Lib.hid (by
    intro x hx
    simp at hx
    rcases hx with rfl | rfl
    · exact ⟨by omega, fun z hz => by have := fa' z hz; omega⟩
    · exact ⟨by omega, fun z hz => by have := fb' z hz; omega⟩)
  have HD := Lib.hid (fun (B : Nat) (A : Option Addr) (c : Nat) (cs : List (List Value)) (w : World) hr hB hx => cdoor_diff B A c cs a b n w hr hB hx ha hb h1 hn fa' fb')
  generalize pairSum (fun x y => (x - y) * (x - y)) a b = R at *
  clear ha hb fa' fb'
  go_enter Tryz.func19, Tryz.ntmps19
  go_wp2_with fail
  have R1 := Bk.new w 36 #[.int .i64 0, .float .f64 0, .string ⟨#[]⟩, .slice none 0 0]
  have bz := (Below.refl _ w).alloc (Nat.le_refl _) (.cells #[.int .i64 0, .float .f64 0, .string ⟨#[]⟩, .slice none 0 0] 36)
  have s0 : w.heap.size < (w.alloc (.cells #[.int .i64 0, .float .f64 0, .string ⟨#[]⟩, .slice none 0 0] 36)).heap.size := by simp
  have hr0 := hr.below (bz.mono hB)
  have hx0 := hx.below (near_I 36) bz
  generalize w.alloc (.cells #[.int .i64 0, .float .f64 0, .string ⟨#[]⟩, .slice none 0 0] 36) = w0 at *
  refine (in_args B A 2 c [.col a, .col b] cs _ rfl (by omega) hr0 (by omega) hx0 HF.out).mono ?_
  rintro e w1 ⟨A1, c1, cs1, rfl, hr1, hx1, b1⟩
  have s1 := b1.size
  go_wp2_with fail
  refine (HD.out w1.heap.size A1 c1 cs1 _ hr1 (Nat.le_refl _) hx1).mono ?_
  rintro e w2 ⟨rfl, b2⟩
  have s2 := b2.size
  go_wp2_with fail
  refine (out_num R _).mono ?_
  rintro e w4 ⟨rfl, b4⟩
  have R4 := ((R1.later b1).later b2).later b4
  have r4 := fun i => R4.cell i
  have q4 := fun i => R4.frozen i
  have bE := ((bz.trans (b1.mono (by omega))).trans (b2.mono (by omega))).trans (b4.mono (by omega))
  clear bz b1 b2 b4 hr1 hr hr0 hx hx0 hx1
  go_wp2
  refine bodyPost_ret (v := (.agg #[.int .i64 1, .float .f64 (fi R), .string ⟨#[]⟩, .slice none 0 0])) (by simp [results, Tryz.results19, go_sem, r4]) rfl ⟨rfl, ?_⟩
  repeat refine Below.setCell ?_ (by simp) _
  exact bE

end Go.Proofs.YtojicbajcebjjaaGreatDoor
