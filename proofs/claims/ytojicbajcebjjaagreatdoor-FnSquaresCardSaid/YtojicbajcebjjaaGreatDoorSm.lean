/-
  The reference's sums over two columns.
-/
import Derived.Test.YtojicbajcebjjaaGreatDoorSq
import Derived.BigQuiet
namespace Go.Proofs.YtojicbajcebjjaaGreatDoor
open Go.RowKit
attribute [local go_sem] run_store_float

set_option maxRecDepth 100000 in
set_option maxHeartbeats 3200000 in
theorem pairs_minus (B : Nat) (A0 A1 : Option Addr) (n c0 c1 : Nat) (a b : List Int) (w : World) (ha : a.length = n) (hb : b.length = n) (hn : n ≤ 50) (r0 : Rd w B A0 (cellI a)) (r1 : Rd w B A1 (cellI b)) (hB : B ≤ w.heap.size)
    (fa' : ∀ z ∈ a, -1000 < z ∧ z < 1000) (fb' : ∀ z ∈ b, -1000 < z ∧ z < 1000) :
    Calls Tryz.prog 17 #[.string ⟨#[83, 85, 77, 88, 50, 77, 89, 50]⟩, .slice A0 n c0, .slice A1 n c1] w fun e w' => e = .returned (.agg #[.int .i64 1, .int .i64 (pairSum (fun x y => x * x - y * y) a b), .int .i64 1, .string ⟨#[]⟩, .slice none 0 0]) ∧ Below w.heap.size w w' := by
  have HA := Lib.hid ha
  have HB := Lib.hid hb
  have HFA := Lib.hid fa'
  have HFB := Lib.hid fb'
  clear ha hb fa' fb'
  go_enter Tryz.func17, Tryz.ntmps17
  go_wp2_with fail
  have R1 := Bk.new w 29 #[.int .i64 0, .int .i64 0, .int .i64 0, .string ⟨#[]⟩, .slice none 0 0]
  have bz := (Below.refl _ w).alloc (Nat.le_refl _) (.cells #[.int .i64 0, .int .i64 0, .int .i64 0, .string ⟨#[]⟩, .slice none 0 0] 29)
  have s0 : w.heap.size < (w.alloc (.cells #[.int .i64 0, .int .i64 0, .int .i64 0, .string ⟨#[]⟩, .slice none 0 0] 29)).heap.size := by simp
  have q0 := r0.below (bz.mono hB)
  have q1 := r1.below (bz.mono hB)
  generalize w.alloc (.cells #[.int .i64 0, .int .i64 0, .int .i64 0, .string ⟨#[]⟩, .slice none 0 0] 29) = W0 at *
  clear r0 r1
  go_loopw [7, 8] (fun t i wr => ∃ k : Nat, k ≤ n ∧ i = .int .i64 k ∧ t = .int .i64 (pairSum (fun x y => x * x - y * y) (a.take k) (b.take k)) ∧ Below W0.heap.size W0 wr)
    (fun _ i _ => n - (intOf i).toNat)
  case atStart => exact ⟨0, Nat.zero_le _, rfl, rfl, Below.refl _ _⟩
  case round =>
    obtain ⟨k, hk, rfl, rfl, hbel⟩ := hrel
    have hsz := hbel.size
    by_cases hlt : k < n
    · obtain ⟨x, hx⟩ : ∃ x, a[k]? = some x := ⟨_, List.getElem?_eq_getElem (by rw [HA.out]; exact hlt)⟩
      obtain ⟨y, hy⟩ : ∃ y, b[k]? = some y := ⟨_, List.getElem?_eq_getElem (by rw [HB.out]; exact hlt)⟩
      obtain ⟨bx, ox, rfl, hbx, hcx⟩ := q0.at_ (k := k) (by rw [cellI_len, HA.out]; exact hlt)
      obtain ⟨by', oy, rfl, hby, hcy⟩ := q1.at_ (k := k) (by rw [cellI_len, HB.out]; exact hlt)
      have gx : wr.cell? ⟨bx, ox + k, none⟩ = some (.int .i64 x) := (hbel.cell (p := ⟨bx, ox + k, none⟩) (show bx < _ by omega)).trans (hcx k _ (cellI_get hx))
      have gy : wr.cell? ⟨by', oy + k, none⟩ = some (.int .i64 y) := (hbel.cell (p := ⟨by', oy + k, none⟩) (show by' < _ by omega)).trans (hcy k _ (cellI_get hy))
      obtain ⟨x1, x2⟩ := HFA.out x (List.mem_of_getElem? hx)
      obtain ⟨y1', y2⟩ := HFB.out y (List.mem_of_getElem? hy)
      have hS := Lib.hid (pairSum_succ (fun x y => x * x - y * y) a b k x y hx hy)
      have hbd1 := pairSum_bd (fun x y => x * x - y * y) 4000000 opBd a b HFA.out HFB.out k
      generalize pairSum (fun x y => x * x - y * y) (a.take k) (b.take k) = S at *
      have hk50 : (k : Int) ≤ 50 := by omega
      have hki : (0 : Int) ≤ (k : Int) := by omega
      have hkn : (k : Int) < (n : Int) := by omega
      obtain ⟨u1, u2⟩ := sq_bd x x1 x2
      obtain ⟨v1, v2⟩ := sq_bd y y1' y2
      obtain ⟨t1, t2, _⟩ := sqd_bd (x - y) (by omega) (by omega)
      have i1 : IntKind.i64.wrap (x * x) = x * x := IntWalk.i64_in _ (by omega)
      have i2 : IntKind.i64.wrap (y * y) = y * y := IntWalk.i64_in _ (by omega)
      have i3 : IntKind.i64.wrap (x - y) = x - y := IntWalk.i64_in _ (by omega)
      have i4 : IntKind.i64.wrap ((x - y) * (x - y)) = (x - y) * (x - y) := IntWalk.i64_in _ (by omega)
      have j1 : wrap64 (x * x) = x * x := IntWalk.wrap64_in _ ⟨by omega, by omega⟩
      have j2 : wrap64 (y * y) = y * y := IntWalk.wrap64_in _ ⟨by omega, by omega⟩
      have i5 : IntKind.i64.wrap (x * x - y * y) = x * x - y * y := IntWalk.i64_in _ (by omega)
      have j5 : wrap64 (x * x - y * y) = x * x - y * y := IntWalk.wrap64_in _ ⟨by omega, by omega⟩
      have j6 : wrap64 (S + (x * x - y * y)) = S + (x * x - y * y) := IntWalk.wrap64_in _ ⟨by omega, by omega⟩
      clear hcx hcy hx hy
      go_wp2_with fail
      go_big_quiet (fail)
      go_wp2
      go_roundw
      case rel => exact ⟨k + 1, by omega, by go_num, by rw [hS.out], below_drewN hbel _⟩
      case measure => simp [intOf]; omega
    · obtain rfl : k = n := by omega
      have hbd1 := pairSum_bd (fun x y => x * x - y * y) 4000000 opBd a b HFA.out HFB.out k
      have et : pairSum (fun x y => x * x - y * y) (a.take k) (b.take k) = pairSum (fun x y => x * x - y * y) a b := by
        rw [List.take_of_length_le (Nat.le_of_eq HA.out), List.take_of_length_le (Nat.le_of_eq HB.out)]
      rw [et] at hbd1 ⊢
      have R5 := R1.below hbel s0
      have hk50 : (k : Int) ≤ 50 := by omega
      generalize hSe : pairSum (fun x y => x * x - y * y) a b = S at *
      go_wp2_with fail
      refine (int_any S _ (by omega) (by omega)).mono ?_
      rintro e w9 ⟨rfl, b9⟩
      have R6 := R5.later b9
      have r6 := fun i => R6.cell i
      have q6 := fun i => R6.frozen i
      have bE := (bz.trans (hbel.mono (by omega))).trans (b9.mono (by omega))
      go_wp2
      refine bodyPost_ret (v := (.agg #[.int .i64 1, .int .i64 (S), .int .i64 1, .string ⟨#[]⟩, .slice none 0 0])) (by simp [results, Tryz.results17, go_sem, r6]) rfl ⟨by rw [hSe], ?_⟩
      repeat refine Below.setCell ?_ (by simp) _
      exact bE

set_option maxRecDepth 100000 in
set_option maxHeartbeats 3200000 in
theorem pairs_plus (B : Nat) (A0 A1 : Option Addr) (n c0 c1 : Nat) (a b : List Int) (w : World) (ha : a.length = n) (hb : b.length = n) (hn : n ≤ 50) (r0 : Rd w B A0 (cellI a)) (r1 : Rd w B A1 (cellI b)) (hB : B ≤ w.heap.size)
    (fa' : ∀ z ∈ a, -1000 < z ∧ z < 1000) (fb' : ∀ z ∈ b, -1000 < z ∧ z < 1000) :
    Calls Tryz.prog 17 #[.string ⟨#[83, 85, 77, 88, 50, 80, 89, 50]⟩, .slice A0 n c0, .slice A1 n c1] w fun e w' => e = .returned (.agg #[.int .i64 1, .int .i64 (pairSum (fun x y => x * x + y * y) a b), .int .i64 1, .string ⟨#[]⟩, .slice none 0 0]) ∧ Below w.heap.size w w' := by
  have HA := Lib.hid ha
  have HB := Lib.hid hb
  have HFA := Lib.hid fa'
  have HFB := Lib.hid fb'
  clear ha hb fa' fb'
  go_enter Tryz.func17, Tryz.ntmps17
  go_wp2_with fail
  have R1 := Bk.new w 29 #[.int .i64 0, .int .i64 0, .int .i64 0, .string ⟨#[]⟩, .slice none 0 0]
  have bz := (Below.refl _ w).alloc (Nat.le_refl _) (.cells #[.int .i64 0, .int .i64 0, .int .i64 0, .string ⟨#[]⟩, .slice none 0 0] 29)
  have s0 : w.heap.size < (w.alloc (.cells #[.int .i64 0, .int .i64 0, .int .i64 0, .string ⟨#[]⟩, .slice none 0 0] 29)).heap.size := by simp
  have q0 := r0.below (bz.mono hB)
  have q1 := r1.below (bz.mono hB)
  generalize w.alloc (.cells #[.int .i64 0, .int .i64 0, .int .i64 0, .string ⟨#[]⟩, .slice none 0 0] 29) = W0 at *
  clear r0 r1
  go_loopw [7, 8] (fun t i wr => ∃ k : Nat, k ≤ n ∧ i = .int .i64 k ∧ t = .int .i64 (pairSum (fun x y => x * x + y * y) (a.take k) (b.take k)) ∧ Below W0.heap.size W0 wr)
    (fun _ i _ => n - (intOf i).toNat)
  case atStart => exact ⟨0, Nat.zero_le _, rfl, rfl, Below.refl _ _⟩
  case round =>
    obtain ⟨k, hk, rfl, rfl, hbel⟩ := hrel
    have hsz := hbel.size
    by_cases hlt : k < n
    · obtain ⟨x, hx⟩ : ∃ x, a[k]? = some x := ⟨_, List.getElem?_eq_getElem (by rw [HA.out]; exact hlt)⟩
      obtain ⟨y, hy⟩ : ∃ y, b[k]? = some y := ⟨_, List.getElem?_eq_getElem (by rw [HB.out]; exact hlt)⟩
      obtain ⟨bx, ox, rfl, hbx, hcx⟩ := q0.at_ (k := k) (by rw [cellI_len, HA.out]; exact hlt)
      obtain ⟨by', oy, rfl, hby, hcy⟩ := q1.at_ (k := k) (by rw [cellI_len, HB.out]; exact hlt)
      have gx : wr.cell? ⟨bx, ox + k, none⟩ = some (.int .i64 x) := (hbel.cell (p := ⟨bx, ox + k, none⟩) (show bx < _ by omega)).trans (hcx k _ (cellI_get hx))
      have gy : wr.cell? ⟨by', oy + k, none⟩ = some (.int .i64 y) := (hbel.cell (p := ⟨by', oy + k, none⟩) (show by' < _ by omega)).trans (hcy k _ (cellI_get hy))
      obtain ⟨x1, x2⟩ := HFA.out x (List.mem_of_getElem? hx)
      obtain ⟨y1', y2⟩ := HFB.out y (List.mem_of_getElem? hy)
      have hS := Lib.hid (pairSum_succ (fun x y => x * x + y * y) a b k x y hx hy)
      have hbd1 := pairSum_bd (fun x y => x * x + y * y) 4000000 opBdP a b HFA.out HFB.out k
      generalize pairSum (fun x y => x * x + y * y) (a.take k) (b.take k) = S at *
      have hk50 : (k : Int) ≤ 50 := by omega
      have hki : (0 : Int) ≤ (k : Int) := by omega
      have hkn : (k : Int) < (n : Int) := by omega
      obtain ⟨u1, u2⟩ := sq_bd x x1 x2
      obtain ⟨v1, v2⟩ := sq_bd y y1' y2
      obtain ⟨t1, t2, _⟩ := sqd_bd (x - y) (by omega) (by omega)
      have i1 : IntKind.i64.wrap (x * x) = x * x := IntWalk.i64_in _ (by omega)
      have i2 : IntKind.i64.wrap (y * y) = y * y := IntWalk.i64_in _ (by omega)
      have i3 : IntKind.i64.wrap (x - y) = x - y := IntWalk.i64_in _ (by omega)
      have i4 : IntKind.i64.wrap ((x - y) * (x - y)) = (x - y) * (x - y) := IntWalk.i64_in _ (by omega)
      have j1 : wrap64 (x * x) = x * x := IntWalk.wrap64_in _ ⟨by omega, by omega⟩
      have j2 : wrap64 (y * y) = y * y := IntWalk.wrap64_in _ ⟨by omega, by omega⟩
      have i5 : IntKind.i64.wrap (x * x + y * y) = x * x + y * y := IntWalk.i64_in _ (by omega)
      have j5 : wrap64 (x * x + y * y) = x * x + y * y := IntWalk.wrap64_in _ ⟨by omega, by omega⟩
      have j6 : wrap64 (S + (x * x + y * y)) = S + (x * x + y * y) := IntWalk.wrap64_in _ ⟨by omega, by omega⟩
      clear hcx hcy hx hy
      go_wp2_with fail
      go_big_quiet (fail)
      go_wp2
      go_roundw
      case rel => exact ⟨k + 1, by omega, by go_num, by rw [hS.out], below_drewN hbel _⟩
      case measure => simp [intOf]; omega
    · obtain rfl : k = n := by omega
      have hbd1 := pairSum_bd (fun x y => x * x + y * y) 4000000 opBdP a b HFA.out HFB.out k
      have et : pairSum (fun x y => x * x + y * y) (a.take k) (b.take k) = pairSum (fun x y => x * x + y * y) a b := by
        rw [List.take_of_length_le (Nat.le_of_eq HA.out), List.take_of_length_le (Nat.le_of_eq HB.out)]
      rw [et] at hbd1 ⊢
      have R5 := R1.below hbel s0
      have hk50 : (k : Int) ≤ 50 := by omega
      generalize hSe : pairSum (fun x y => x * x + y * y) a b = S at *
      go_wp2_with fail
      refine (int_any S _ (by omega) (by omega)).mono ?_
      rintro e w9 ⟨rfl, b9⟩
      have R6 := R5.later b9
      have r6 := fun i => R6.cell i
      have q6 := fun i => R6.frozen i
      have bE := (bz.trans (hbel.mono (by omega))).trans (b9.mono (by omega))
      go_wp2
      refine bodyPost_ret (v := (.agg #[.int .i64 1, .int .i64 (S), .int .i64 1, .string ⟨#[]⟩, .slice none 0 0])) (by simp [results, Tryz.results17, go_sem, r6]) rfl ⟨by rw [hSe], ?_⟩
      repeat refine Below.setCell ?_ (by simp) _
      exact bE

set_option maxRecDepth 100000 in
set_option maxHeartbeats 3200000 in
theorem pairs_diff (B : Nat) (A0 A1 : Option Addr) (n c0 c1 : Nat) (a b : List Int) (w : World) (ha : a.length = n) (hb : b.length = n) (hn : n ≤ 50) (r0 : Rd w B A0 (cellI a)) (r1 : Rd w B A1 (cellI b)) (hB : B ≤ w.heap.size)
    (fa' : ∀ z ∈ a, -1000 < z ∧ z < 1000) (fb' : ∀ z ∈ b, -1000 < z ∧ z < 1000) :
    Calls Tryz.prog 17 #[.string ⟨#[83, 85, 77, 88, 77, 89, 50]⟩, .slice A0 n c0, .slice A1 n c1] w fun e w' => e = .returned (.agg #[.int .i64 1, .int .i64 (pairSum (fun x y => (x - y) * (x - y)) a b), .int .i64 1, .string ⟨#[]⟩, .slice none 0 0]) ∧ Below w.heap.size w w' := by
  have HA := Lib.hid ha
  have HB := Lib.hid hb
  have HFA := Lib.hid fa'
  have HFB := Lib.hid fb'
  clear ha hb fa' fb'
  go_enter Tryz.func17, Tryz.ntmps17
  go_wp2_with fail
  have R1 := Bk.new w 29 #[.int .i64 0, .int .i64 0, .int .i64 0, .string ⟨#[]⟩, .slice none 0 0]
  have bz := (Below.refl _ w).alloc (Nat.le_refl _) (.cells #[.int .i64 0, .int .i64 0, .int .i64 0, .string ⟨#[]⟩, .slice none 0 0] 29)
  have s0 : w.heap.size < (w.alloc (.cells #[.int .i64 0, .int .i64 0, .int .i64 0, .string ⟨#[]⟩, .slice none 0 0] 29)).heap.size := by simp
  have q0 := r0.below (bz.mono hB)
  have q1 := r1.below (bz.mono hB)
  generalize w.alloc (.cells #[.int .i64 0, .int .i64 0, .int .i64 0, .string ⟨#[]⟩, .slice none 0 0] 29) = W0 at *
  clear r0 r1
  go_loopw [7, 8] (fun t i wr => ∃ k : Nat, k ≤ n ∧ i = .int .i64 k ∧ t = .int .i64 (pairSum (fun x y => (x - y) * (x - y)) (a.take k) (b.take k)) ∧ Below W0.heap.size W0 wr)
    (fun _ i _ => n - (intOf i).toNat)
  case atStart => exact ⟨0, Nat.zero_le _, rfl, rfl, Below.refl _ _⟩
  case round =>
    obtain ⟨k, hk, rfl, rfl, hbel⟩ := hrel
    have hsz := hbel.size
    by_cases hlt : k < n
    · obtain ⟨x, hx⟩ : ∃ x, a[k]? = some x := ⟨_, List.getElem?_eq_getElem (by rw [HA.out]; exact hlt)⟩
      obtain ⟨y, hy⟩ : ∃ y, b[k]? = some y := ⟨_, List.getElem?_eq_getElem (by rw [HB.out]; exact hlt)⟩
      obtain ⟨bx, ox, rfl, hbx, hcx⟩ := q0.at_ (k := k) (by rw [cellI_len, HA.out]; exact hlt)
      obtain ⟨by', oy, rfl, hby, hcy⟩ := q1.at_ (k := k) (by rw [cellI_len, HB.out]; exact hlt)
      have gx : wr.cell? ⟨bx, ox + k, none⟩ = some (.int .i64 x) := (hbel.cell (p := ⟨bx, ox + k, none⟩) (show bx < _ by omega)).trans (hcx k _ (cellI_get hx))
      have gy : wr.cell? ⟨by', oy + k, none⟩ = some (.int .i64 y) := (hbel.cell (p := ⟨by', oy + k, none⟩) (show by' < _ by omega)).trans (hcy k _ (cellI_get hy))
      obtain ⟨x1, x2⟩ := HFA.out x (List.mem_of_getElem? hx)
      obtain ⟨y1', y2⟩ := HFB.out y (List.mem_of_getElem? hy)
      have hS := Lib.hid (pairSum_succ (fun x y => (x - y) * (x - y)) a b k x y hx hy)
      have hbd1 := pairSum_bd (fun x y => (x - y) * (x - y)) 4000000 opBdD a b HFA.out HFB.out k
      generalize pairSum (fun x y => (x - y) * (x - y)) (a.take k) (b.take k) = S at *
      have hk50 : (k : Int) ≤ 50 := by omega
      have hki : (0 : Int) ≤ (k : Int) := by omega
      have hkn : (k : Int) < (n : Int) := by omega
      obtain ⟨u1, u2⟩ := sq_bd x x1 x2
      obtain ⟨v1, v2⟩ := sq_bd y y1' y2
      obtain ⟨t1, t2, _⟩ := sqd_bd (x - y) (by omega) (by omega)
      have i1 : IntKind.i64.wrap (x * x) = x * x := IntWalk.i64_in _ (by omega)
      have i2 : IntKind.i64.wrap (y * y) = y * y := IntWalk.i64_in _ (by omega)
      have i3 : IntKind.i64.wrap (x - y) = x - y := IntWalk.i64_in _ (by omega)
      have i4 : IntKind.i64.wrap ((x - y) * (x - y)) = (x - y) * (x - y) := IntWalk.i64_in _ (by omega)
      have j1 : wrap64 (x * x) = x * x := IntWalk.wrap64_in _ ⟨by omega, by omega⟩
      have j2 : wrap64 (y * y) = y * y := IntWalk.wrap64_in _ ⟨by omega, by omega⟩
      have i6 : IntKind.i64.wrap (S + (x - y) * (x - y)) = S + (x - y) * (x - y) := IntWalk.i64_in _ (by omega)
      clear hcx hcy hx hy
      go_wp2_with fail
      go_big_quiet (fail)
      go_wp2_with fail
      go_big_quiet (fail)
      go_wp2
      go_roundw
      case rel => exact ⟨k + 1, by omega, by go_num, by rw [hS.out], below_drewN hbel _⟩
      case measure => simp [intOf]; omega
    · obtain rfl : k = n := by omega
      have hbd1 := pairSum_bd (fun x y => (x - y) * (x - y)) 4000000 opBdD a b HFA.out HFB.out k
      have et : pairSum (fun x y => (x - y) * (x - y)) (a.take k) (b.take k) = pairSum (fun x y => (x - y) * (x - y)) a b := by
        rw [List.take_of_length_le (Nat.le_of_eq HA.out), List.take_of_length_le (Nat.le_of_eq HB.out)]
      rw [et] at hbd1 ⊢
      have R5 := R1.below hbel s0
      have hk50 : (k : Int) ≤ 50 := by omega
      generalize hSe : pairSum (fun x y => (x - y) * (x - y)) a b = S at *
      go_wp2_with fail
      refine (int_any S _ (by omega) (by omega)).mono ?_
      rintro e w9 ⟨rfl, b9⟩
      have R6 := R5.later b9
      have r6 := fun i => R6.cell i
      have q6 := fun i => R6.frozen i
      have bE := (bz.trans (hbel.mono (by omega))).trans (b9.mono (by omega))
      go_wp2
      refine bodyPost_ret (v := (.agg #[.int .i64 1, .int .i64 (S), .int .i64 1, .string ⟨#[]⟩, .slice none 0 0])) (by simp [results, Tryz.results17, go_sem, r6]) rfl ⟨by rw [hSe], ?_⟩
      repeat refine Below.setCell ?_ (by simp) _
      exact bE

end Go.Proofs.YtojicbajcebjjaaGreatDoor
