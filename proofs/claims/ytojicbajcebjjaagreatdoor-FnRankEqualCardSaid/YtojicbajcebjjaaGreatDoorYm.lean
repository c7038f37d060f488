/-
  RANK and RANK.EQ: methods, doors, the thin package.
-/
import Derived.Test.YtojicbajcebjjaaGreatDoorYl
namespace Go.Proofs.YtojicbajcebjjaaGreatDoor
open Go.RowKit
attribute [local go_sem] run_store_float

theorem rank_fits (x : Int) (l : List Int) (up : Bool) (n : Nat) (hn : l.length = n) (h1 : 1 ≤ n) (h60 : n ≤ 60) (hz : ∀ z ∈ l, -200 ≤ z ∧ z ≤ 200) (hx : x ∈ l) : ∀ y ∈ [Ag.num x, Ag.col l, Ag.num (if up then 1 else 0)], y.fits := by
  have hxz := hz x hx
  intro y hy
  simp only [List.mem_cons, List.not_mem_nil, or_false] at hy
  rcases hy with rfl | rfl | rfl
  · exact ⟨by omega, by omega⟩
  · exact ⟨by omega, fun z hz' => by have := hz z hz'; omega⟩
  · cases up <;> exact ⟨by decide, by decide⟩
theorem rank_fine (x : Int) (l : List Int) (up : Bool) (n : Nat) (hn : l.length = n) (h1 : 1 ≤ n) (h60 : n ≤ 60) (hz : ∀ z ∈ l, -200 ≤ z ∧ z ≤ 200) (hx : x ∈ l) : ∀ y ∈ [Ag.num x, Ag.col l, Ag.num (if up then 1 else 0)], y.fine := by
  have hxz := hz x hx
  intro y hy
  simp only [List.mem_cons, List.not_mem_nil, or_false] at hy
  rcases hy with rfl | rfl | rfl
  · show x.natAbs < 2 ^ 53
    omega
  · exact ⟨by omega, by omega, fun z hz' => by have := hz z hz'; omega⟩
  · show (if up then (1 : Int) else 0).natAbs < 2 ^ 53
    cases up <;> decide

set_option maxRecDepth 100000 in
set_option maxHeartbeats 1600000 in
theorem method_rank (g L : Nat) (es : List Nat) (vs : List Value) (x : Int) (l : List Int) (up : Bool) (n : Nat) (w : World) (hl : FList w L es [.num x, .col l, .num (if up then 1 else 0)] vs) (hn : l.length = n) (h1 : 1 ≤ n) (h60 : n ≤ 60)
    (hz : ∀ z ∈ l, -200 ≤ z ∧ z ≤ 200) (hx : x ∈ l) :
    Calls Tryz.prog 78 #[.pointer (some ⟨g, 0, none⟩), .pointer (some ⟨L, 0, none⟩)] w fun e w' => e = .returned (.agg #[.string ⟨#[]⟩, .float .f64 (fi (rk up l x + 1 : Nat)), .string ⟨#[]⟩, .slice none 0 0, .slice none 0 0, .bool false, .string ⟨#[]⟩, .int .u8 1, .pointer none, .pointer none]) ∧ Below w.heap.size w w' := by
  generalize hR : ((rk up l x + 1 : Nat) : Int) = R
  go_enter Tryz.func78, Tryz.ntmps78
  go_wp2_with fail
  have R1 := Bk.new w 73 #[.string ⟨#[]⟩, .float .f64 0, .string ⟨#[]⟩, .slice none 0 0, .slice none 0 0, .bool false, .string ⟨#[]⟩, .int .u8 0, .pointer none, .pointer none]
  have bz := (Below.refl _ w).alloc (Nat.le_refl _) (.cells #[.string ⟨#[]⟩, .float .f64 0, .string ⟨#[]⟩, .slice none 0 0, .slice none 0 0, .bool false, .string ⟨#[]⟩, .int .u8 0, .pointer none, .pointer none] 73)
  have s0 : w.heap.size < (w.alloc (.cells #[.string ⟨#[]⟩, .float .f64 0, .string ⟨#[]⟩, .slice none 0 0, .slice none 0 0, .bool false, .string ⟨#[]⟩, .int .u8 0, .pointer none, .pointer none] 73)).heap.size := by simp
  have hl1 := hl.below bz
  generalize w.alloc (.cells #[.string ⟨#[]⟩, .float .f64 0, .string ⟨#[]⟩, .slice none 0 0, .slice none 0 0, .bool false, .string ⟨#[]⟩, .int .u8 0, .pointer none, .pointer none] 73) = W0 at *
  refine (rank_any g L _ es vs x l up n _ hl1 hn h1 h60 hz hx).mono ?_
  rintro e w9 ⟨rfl, b9⟩
  rw [hR]
  have R6 := R1.later b9
  have r6 := fun i => R6.cell i
  have q6 := fun i => R6.frozen i
  have bE := bz.trans (b9.mono (by omega))
  clear hz hl hl1 hx
  go_wp2
  refine bodyPost_ret (v := (.agg #[.string ⟨#[]⟩, .float .f64 (fi R), .string ⟨#[]⟩, .slice none 0 0, .slice none 0 0, .bool false, .string ⟨#[]⟩, .int .u8 1, .pointer none, .pointer none])) (by simp [results, Tryz.results78, go_sem, r6]) rfl ⟨rfl, ?_⟩
  repeat refine Below.setCell ?_ (by simp) _
  exact bE

set_option maxRecDepth 100000 in
set_option maxHeartbeats 1600000 in
theorem cdoor_rank (B : Nat) (A : Option Addr) (c : Nat) (cs : List (List Value)) (x : Int) (l : List Int) (up : Bool) (n : Nat) (w : World) (hr : Rd w B A cs.flatten) (hB : B ≤ w.heap.size) (hxx : Args (AgI 59) w none [.num x, .col l, .num (if up then 1 else 0)] cs) (hn : l.length = n) (h1 : 1 ≤ n) (h60 : n ≤ 60)
    (hz : ∀ z ∈ l, -200 ≤ z ∧ z ≤ 200) (hx : x ∈ l) :
    Calls Tryz.prog 62 #[.slice A 3 c] w fun e w' => e = .returned (.agg #[.int .i64 1, .float .f64 (fi (rk up l x + 1 : Nat)), .string ⟨#[]⟩, .slice none 0 0]) ∧ Below w.heap.size w w' := by
  have HF : Hid (∀ y ∈ [Ag.num x, Ag.col l, Ag.num (if up then 1 else 0)], y.fine) := Lib.hid (rank_fine x l up n hn h1 h60 hz hx)
  have HM := Lib.hid (fun (L : Nat) (es : List Nat) (vs : List Value) (w : World) (h : FList w L es [.num x, .col l, .num (if up then 1 else 0)] vs) (g : Nat) => method_rank g L es vs x l up n w h hn h1 h60 hz hx)
  have hle := rk_le up l x
  rw [hn] at hle
  generalize hR : ((rk up l x + 1 : Nat) : Int) = R at *
  generalize (if up then (1 : Int) else 0) = o at *
  clear hn hz hx
  go_enter Tryz.func62, Tryz.ntmps62
  go_wp2_with fail
  have R1 := Bk.new w 59 #[.int .i64 0, .float .f64 0, .string ⟨#[]⟩, .slice none 0 0]
  have bz := (Below.refl _ w).alloc (Nat.le_refl _) (.cells #[.int .i64 0, .float .f64 0, .string ⟨#[]⟩, .slice none 0 0] 59)
  have s0 : w.heap.size < (w.alloc (.cells #[.int .i64 0, .float .f64 0, .string ⟨#[]⟩, .slice none 0 0] 59)).heap.size := by simp
  have hr0 := hr.below (bz.mono hB)
  have hx0 := hxx.below (near_I 59) bz
  generalize w.alloc (.cells #[.int .i64 0, .float .f64 0, .string ⟨#[]⟩, .slice none 0 0] 59) = w0 at *
  refine (doorFuncs_any _).mono ?_
  rintro e w1 ⟨rfl, b1, _⟩
  have hr1 := hr0.below (b1.mono (by omega))
  have hx1 := hx0.below (near_I 59) b1
  have s1 := b1.size
  go_wp2_with fail
  refine (innerList_args B A 3 c [.num x, .col l, .num o] cs _ rfl (by omega) hr1 (by omega) hx1 HF.out).mono ?_
  rintro e w2 ⟨L, es, vs, rfl, hlist, hLL, b2⟩
  have s2 := b2.size
  go_wp2_with fail
  refine (HM.out L es vs _ hlist _).mono ?_
  rintro e w3 ⟨rfl, b3⟩
  have s3 := b3.size
  go_wp2_with fail
  refine (doorArg_num R _).mono ?_
  rintro e w4 ⟨rfl, b4⟩
  have R4 := (((R1.later b1).later b2).later b3).later b4
  have r4 := fun i => R4.cell i
  have q4 := fun i => R4.frozen i
  have bE := (((bz.trans (b1.mono (by omega))).trans (b2.mono (by omega))).trans (b3.mono (by omega))).trans (b4.mono (by omega))
  clear bz b1 b2 b3 b4 hlist hr1 hr hxx hr0 hx0 hx1
  go_wp2
  refine bodyPost_ret (v := (.agg #[.int .i64 1, .float .f64 (fi R), .string ⟨#[]⟩, .slice none 0 0])) (by simp [results, Tryz.results62, go_sem, r4]) rfl ⟨rfl, ?_⟩
  repeat refine Below.setCell ?_ (by simp) _
  exact bE

set_option maxRecDepth 100000 in
set_option maxHeartbeats 1600000 in
theorem cimpl_rank (B : Nat) (A : Option Addr) (c : Nat) (cs : List (List Value)) (x : Int) (l : List Int) (up : Bool) (n : Nat) (w : World) (hr : Rd w B A cs.flatten) (hB : B ≤ w.heap.size) (hxx : Args (AgI 36) w none [.num x, .col l, .num (if up then 1 else 0)] cs) (hn : l.length = n) (h1 : 1 ≤ n) (h60 : n ≤ 60)
    (hz : ∀ z ∈ l, -200 ≤ z ∧ z ≤ 200) (hx : x ∈ l) :
    Calls Tryz.prog 40 #[.slice A 3 c] w fun e w' => e = .returned (.agg #[.int .i64 1, .float .f64 (fi (rk up l x + 1 : Nat)), .string ⟨#[]⟩, .slice none 0 0]) ∧ Below w.heap.size w w' := by
  have HF : Hid (∀ y ∈ [Ag.num x, Ag.col l, Ag.num (if up then 1 else 0)], y.fits) := Lib.hid (rank_fits x l up n hn h1 h60 hz hx)
  have HD := Lib.hid (fun (B : Nat) (A : Option Addr) (c : Nat) (cs : List (List Value)) (w : World) hr hB hxx => cdoor_rank B A c cs x l up n w hr hB hxx hn h1 h60 hz hx)
  generalize hR : ((rk up l x + 1 : Nat) : Int) = R at *
  generalize (if up then (1 : Int) else 0) = o at *
  clear hn hz hx
  go_enter Tryz.func40, Tryz.ntmps40
  go_wp2_with fail
  have R1 := Bk.new w 36 #[.int .i64 0, .float .f64 0, .string ⟨#[]⟩, .slice none 0 0]
  have bz := (Below.refl _ w).alloc (Nat.le_refl _) (.cells #[.int .i64 0, .float .f64 0, .string ⟨#[]⟩, .slice none 0 0] 36)
  have s0 : w.heap.size < (w.alloc (.cells #[.int .i64 0, .float .f64 0, .string ⟨#[]⟩, .slice none 0 0] 36)).heap.size := by simp
  have hr0 := hr.below (bz.mono hB)
  have hx0 := hxx.below (near_I 36) bz
  generalize w.alloc (.cells #[.int .i64 0, .float .f64 0, .string ⟨#[]⟩, .slice none 0 0] 36) = w0 at *
  refine (in_args B A 3 c [.num x, .col l, .num o] cs _ rfl (by omega) hr0 (by omega) hx0 HF.out).mono ?_
  rintro e w1 ⟨A1, c1, cs1, rfl, hr1, hx1, b1⟩
  have s1 := b1.size
  go_wp2_with fail
  refine (HD.out w1.heap.size A1 c1 cs1 _ hr1 (Nat.le_refl _) hx1).mono ?_
  rintro e w2 ⟨rfl, b2⟩
  have s2 := b2.size
  go_wp2_with fail
  refine (out_num R _).mono ?_
  rintro e w4 ⟨rfl, b4⟩
  have R4 := ((R1.later b1).later b2).later b4
  have r4 := fun i => R4.cell i
  have q4 := fun i => R4.frozen i
  have bE := ((bz.trans (b1.mono (by omega))).trans (b2.mono (by omega))).trans (b4.mono (by omega))
  clear bz b1 b2 b4 hr1 hr hr0 hxx hx0 hx1
  go_wp2
  refine bodyPost_ret (v := (.agg #[.int .i64 1, .float .f64 (fi R), .string ⟨#[]⟩, .slice none 0 0])) (by simp [results, Tryz.results40, go_sem, r4]) rfl ⟨rfl, ?_⟩
  repeat refine Below.setCell ?_ (by simp) _
  exact bE

set_option maxRecDepth 100000 in
set_option maxHeartbeats 1600000 in
theorem method_rankeq (g L : Nat) (es : List Nat) (vs : List Value) (x : Int) (l : List Int) (up : Bool) (n : Nat) (w : World) (hl : FList w L es [.num x, .col l, .num (if up then 1 else 0)] vs) (hn : l.length = n) (h1 : 1 ≤ n) (h60 : n ≤ 60)
    (hz : ∀ z ∈ l, -200 ≤ z ∧ z ≤ 200) (hx : x ∈ l) :
    Calls Tryz.prog 77 #[.pointer (some ⟨g, 0, none⟩), .pointer (some ⟨L, 0, none⟩)] w fun e w' => e = .returned (.agg #[.string ⟨#[]⟩, .float .f64 (fi (rk up l x + 1 : Nat)), .string ⟨#[]⟩, .slice none 0 0, .slice none 0 0, .bool false, .string ⟨#[]⟩, .int .u8 1, .pointer none, .pointer none]) ∧ Below w.heap.size w w' := by
  generalize hR : ((rk up l x + 1 : Nat) : Int) = R
  go_enter Tryz.func77, Tryz.ntmps77
  go_wp2_with fail
  have R1 := Bk.new w 73 #[.string ⟨#[]⟩, .float .f64 0, .string ⟨#[]⟩, .slice none 0 0, .slice none 0 0, .bool false, .string ⟨#[]⟩, .int .u8 0, .pointer none, .pointer none]
  have bz := (Below.refl _ w).alloc (Nat.le_refl _) (.cells #[.string ⟨#[]⟩, .float .f64 0, .string ⟨#[]⟩, .slice none 0 0, .slice none 0 0, .bool false, .string ⟨#[]⟩, .int .u8 0, .pointer none, .pointer none] 73)
  have s0 : w.heap.size < (w.alloc (.cells #[.string ⟨#[]⟩, .float .f64 0, .string ⟨#[]⟩, .slice none 0 0, .slice none 0 0, .bool false, .string ⟨#[]⟩, .int .u8 0, .pointer none, .pointer none] 73)).heap.size := by simp
  have hl1 := hl.below bz
  generalize w.alloc (.cells #[.string ⟨#[]⟩, .float .f64 0, .string ⟨#[]⟩, .slice none 0 0, .slice none 0 0, .bool false, .string ⟨#[]⟩, .int .u8 0, .pointer none, .pointer none] 73) = W0 at *
  refine (rank_any g L _ es vs x l up n _ hl1 hn h1 h60 hz hx).mono ?_
  rintro e w9 ⟨rfl, b9⟩
  rw [hR]
  have R6 := R1.later b9
  have r6 := fun i => R6.cell i
  have q6 := fun i => R6.frozen i
  have bE := bz.trans (b9.mono (by omega))
  clear hz hl hl1 hx
  go_wp2
  refine bodyPost_ret (v := (.agg #[.string ⟨#[]⟩, .float .f64 (fi R), .string ⟨#[]⟩, .slice none 0 0, .slice none 0 0, .bool false, .string ⟨#[]⟩, .int .u8 1, .pointer none, .pointer none])) (by simp [results, Tryz.results77, go_sem, r6]) rfl ⟨rfl, ?_⟩
  repeat refine Below.setCell ?_ (by simp) _
  exact bE

set_option maxRecDepth 100000 in
set_option maxHeartbeats 1600000 in
theorem cdoor_rankeq (B : Nat) (A : Option Addr) (c : Nat) (cs : List (List Value)) (x : Int) (l : List Int) (up : Bool) (n : Nat) (w : World) (hr : Rd w B A cs.flatten) (hB : B ≤ w.heap.size) (hxx : Args (AgI 59) w none [.num x, .col l, .num (if up then 1 else 0)] cs) (hn : l.length = n) (h1 : 1 ≤ n) (h60 : n ≤ 60)
    (hz : ∀ z ∈ l, -200 ≤ z ∧ z ≤ 200) (hx : x ∈ l) :
    Calls Tryz.prog 61 #[.slice A 3 c] w fun e w' => e = .returned (.agg #[.int .i64 1, .float .f64 (fi (rk up l x + 1 : Nat)), .string ⟨#[]⟩, .slice none 0 0]) ∧ Below w.heap.size w w' := by
  have HF : Hid (∀ y ∈ [Ag.num x, Ag.col l, Ag.num (if up then 1 else 0)], y.fine) := Lib.hid (rank_fine x l up n hn h1 h60 hz hx)
  have HM := Lib.hid (fun (L : Nat) (es : List Nat) (vs : List Value) (w : World) (h : FList w L es [.num x, .col l, .num (if up then 1 else 0)] vs) (g : Nat) => method_rankeq g L es vs x l up n w h hn h1 h60 hz hx)
  have hle := rk_le up l x
  rw [hn] at hle
  generalize hR : ((rk up l x + 1 : Nat) : Int) = R at *
  generalize (if up then (1 : Int) else 0) = o at *
  clear hn hz hx
  go_enter Tryz.func61, Tryz.ntmps61
  go_wp2_with fail
  have R1 := Bk.new w 59 #[.int .i64 0, .float .f64 0, .string ⟨#[]⟩, .slice none 0 0]
  have bz := (Below.refl _ w).alloc (Nat.le_refl _) (.cells #[.int .i64 0, .float .f64 0, .string ⟨#[]⟩, .slice none 0 0] 59)
  have s0 : w.heap.size < (w.alloc (.cells #[.int .i64 0, .float .f64 0, .string ⟨#[]⟩, .slice none 0 0] 59)).heap.size := by simp
  have hr0 := hr.below (bz.mono hB)
  have hx0 := hxx.below (near_I 59) bz
  generalize w.alloc (.cells #[.int .i64 0, .float .f64 0, .string ⟨#[]⟩, .slice none 0 0] 59) = w0 at *
  refine (doorFuncs_any _).mono ?_
  rintro e w1 ⟨rfl, b1, _⟩
  have hr1 := hr0.below (b1.mono (by omega))
  have hx1 := hx0.below (near_I 59) b1
  have s1 := b1.size
  go_wp2_with fail
  refine (innerList_args B A 3 c [.num x, .col l, .num o] cs _ rfl (by omega) hr1 (by omega) hx1 HF.out).mono ?_
  rintro e w2 ⟨L, es, vs, rfl, hlist, hLL, b2⟩
  have s2 := b2.size
  go_wp2_with fail
  refine (HM.out L es vs _ hlist _).mono ?_
  rintro e w3 ⟨rfl, b3⟩
  have s3 := b3.size
  go_wp2_with fail
  refine (doorArg_num R _).mono ?_
  rintro e w4 ⟨rfl, b4⟩
  have R4 := (((R1.later b1).later b2).later b3).later b4
  have r4 := fun i => R4.cell i
  have q4 := fun i => R4.frozen i
  have bE := (((bz.trans (b1.mono (by omega))).trans (b2.mono (by omega))).trans (b3.mono (by omega))).trans (b4.mono (by omega))
  clear bz b1 b2 b3 b4 hlist hr1 hr hxx hr0 hx0 hx1
  go_wp2
  refine bodyPost_ret (v := (.agg #[.int .i64 1, .float .f64 (fi R), .string ⟨#[]⟩, .slice none 0 0])) (by simp [results, Tryz.results61, go_sem, r4]) rfl ⟨rfl, ?_⟩
  repeat refine Below.setCell ?_ (by simp) _
  exact bE

set_option maxRecDepth 100000 in
set_option maxHeartbeats 1600000 in
theorem cimpl_rankeq (B : Nat) (A : Option Addr) (c : Nat) (cs : List (List Value)) (x : Int) (l : List Int) (up : Bool) (n : Nat) (w : World) (hr : Rd w B A cs.flatten) (hB : B ≤ w.heap.size) (hxx : Args (AgI 36) w none [.num x, .col l, .num (if up then 1 else 0)] cs) (hn : l.length = n) (h1 : 1 ≤ n) (h60 : n ≤ 60)
    (hz : ∀ z ∈ l, -200 ≤ z ∧ z ≤ 200) (hx : x ∈ l) :
    Calls Tryz.prog 39 #[.slice A 3 c] w fun e w' => e = .returned (.agg #[.int .i64 1, .float .f64 (fi (rk up l x + 1 : Nat)), .string ⟨#[]⟩, .slice none 0 0]) ∧ Below w.heap.size w w' := by
  have HF : Hid (∀ y ∈ [Ag.num x, Ag.col l, Ag.num (if up then 1 else 0)], y.fits) := Lib.hid (rank_fits x l up n hn h1 h60 hz hx)
  have HD := Lib.hid (fun (B : Nat) (A : Option Addr) (c : Nat) (cs : List (List Value)) (w : World) hr hB hxx => cdoor_rankeq B A c cs x l up n w hr hB hxx hn h1 h60 hz hx)
  generalize hR : ((rk up l x + 1 : Nat) : Int) = R at *
  generalize (if up then (1 : Int) else 0) = o at *
  clear hn hz hx
  go_enter Tryz.func39, Tryz.ntmps39
  go_wp2_with fail
  have R1 := Bk.new w 36 #[.int .i64 0, .float .f64 0, .string ⟨#[]⟩, .slice none 0 0]
  have bz := (Below.refl _ w).alloc (Nat.le_refl _) (.cells #[.int .i64 0, .float .f64 0, .string ⟨#[]⟩, .slice none 0 0] 36)
  have s0 : w.heap.size < (w.alloc (.cells #[.int .i64 0, .float .f64 0, .string ⟨#[]⟩, .slice none 0 0] 36)).heap.size := by simp
  have hr0 := hr.below (bz.mono hB)
  have hx0 := hxx.below (near_I 36) bz
  generalize w.alloc (.cells #[.int .i64 0, .float .f64 0, .string ⟨#[]⟩, .slice none 0 0] 36) = w0 at *
  refine (in_args B A 3 c [.num x, .col l, .num o] cs _ rfl (by omega) hr0 (by omega) hx0 HF.out).mono ?_
  rintro e w1 ⟨A1, c1, cs1, rfl, hr1, hx1, b1⟩
  have s1 := b1.size
  go_wp2_with fail
  refine (HD.out w1.heap.size A1 c1 cs1 _ hr1 (Nat.le_refl _) hx1).mono ?_
  rintro e w2 ⟨rfl, b2⟩
  have s2 := b2.size
  go_wp2_with fail
  refine (out_num R _).mono ?_
  rintro e w4 ⟨rfl, b4⟩
  have R4 := ((R1.later b1).later b2).later b4
  have r4 := fun i => R4.cell i
  have q4 := fun i => R4.frozen i
  have bE := ((bz.trans (b1.mono (by omega))).trans (b2.mono (by omega))).trans (b4.mono (by omega))
  clear bz b1 b2 b4 hr1 hr hr0 hxx hx0 hx1
  go_wp2
  refine bodyPost_ret (v := (.agg #[.int .i64 1, .float .f64 (fi R), .string ⟨#[]⟩, .slice none 0 0])) (by simp [results, Tryz.results39, go_sem, r4]) rfl ⟨rfl, ?_⟩
  repeat refine Below.setCell ?_ (by simp) _
  exact bE

end Go.Proofs.YtojicbajcebjjaaGreatDoor
