/-
  Roman digits: the plain law; the reference's walk.
-/
import Derived.Test.YtojicbajcebjjaaGreatDoorJ
namespace Go.Proofs.YtojicbajcebjjaaGreatDoor
open Go.RowKit
attribute [local go_sem] run_store_float

def rtab : List (Nat × List UInt8) := [(1000, [77]), (900, [67, 77]), (500, [68]), (400, [67, 68]), (100, [67]), (90, [88, 67]), (50, [76]), (40, [88, 76]), (10, [88]), (9, [73, 88]), (5, [86]), (4, [73, 86]), (1, [73])]
def rep : Nat → List UInt8 → List UInt8
  | 0, _ => []
  | k + 1, s => s ++ rep k s
def romanL : List (Nat × List UInt8) → Nat → List UInt8
  | [], _ => []
  | (v, s) :: t, m => rep (m / v) s ++ romanL t (m % v)
def rv (i : Nat) : Nat := (rtab.getD i (1, [])).1
def rs (i : Nat) : List UInt8 := (rtab.getD i (1, [])).2
/-- What is written for m from the i-th value on. -/
def romR (i m : Nat) : List UInt8 := romanL (rtab.drop i) m

theorem rtab_drop (i : Nat) (h : i < 13) : rtab.drop i = (rv i, rs i) :: rtab.drop (i + 1) := by
  match i, h with
  | 0, _ => rfl
  | 1, _ => rfl
  | 2, _ => rfl
  | 3, _ => rfl
  | 4, _ => rfl
  | 5, _ => rfl
  | 6, _ => rfl
  | 7, _ => rfl
  | 8, _ => rfl
  | 9, _ => rfl
  | 10, _ => rfl
  | 11, _ => rfl
  | 12, _ => rfl
theorem rv_bd (i : Nat) (h : i < 13) : 1 ≤ rv i ∧ rv i ≤ 1000 := by
  have : (List.range 13).all (fun i => decide (1 ≤ rv i ∧ rv i ≤ 1000)) = true := by decide
  exact of_decide_eq_true (List.all_eq_true.1 this i (by simp; omega))
theorem rs_bd (i : Nat) (h : i < 13) : (rs i).length ≤ 2 := by
  have : (List.range 13).all (fun i => decide ((rs i).length ≤ 2)) = true := by decide
  exact of_decide_eq_true (List.all_eq_true.1 this i (by simp; omega))
theorem romR_more (i m : Nat) (h : i < 13) (hm : rv i ≤ m) : romR i m = rs i ++ romR i (m - rv i) := by
  unfold romR
  rw [rtab_drop i h]
  simp only [romanL]
  rw [Nat.div_eq_sub_div (rv_bd i h).1 hm, rep, Nat.mod_eq_sub_mod hm, List.append_assoc]
theorem romR_less (i m : Nat) (h : i < 13) (hm : m < rv i) : romR i m = romR (i + 1) m := by
  unfold romR
  rw [rtab_drop i h]
  simp only [romanL]
  rw [Nat.div_eq_of_lt hm, Nat.mod_eq_of_lt hm]
  rfl
theorem romR_end (m : Nat) : romR 13 m = [] := rfl
theorem rom_tbl : (List.range 4000).all (fun n => decide ((romR 0 n).length ≤ 20)) = true := by decide +kernel
theorem rom_le (n : Nat) (h : n ≤ 3999) : (romR 0 n).length ≤ 20 := of_decide_eq_true (List.all_eq_true.1 rom_tbl n (by simp; omega))

def rvCells : Array Value := #[.int .i64 1000, .int .i64 900, .int .i64 500, .int .i64 400, .int .i64 100, .int .i64 90, .int .i64 50, .int .i64 40, .int .i64 10, .int .i64 9, .int .i64 5, .int .i64 4, .int .i64 1]
def rsCells : Array Value := #[.string ⟨#[77]⟩, .string ⟨#[67, 77]⟩, .string ⟨#[68]⟩, .string ⟨#[67, 68]⟩, .string ⟨#[67]⟩, .string ⟨#[88, 67]⟩, .string ⟨#[76]⟩, .string ⟨#[88, 76]⟩, .string ⟨#[88]⟩, .string ⟨#[73, 88]⟩, .string ⟨#[86]⟩, .string ⟨#[73, 86]⟩, .string ⟨#[73]⟩]
theorem rv_cell (i : Nat) (h : i < 13) : rvCells[i]? = some (.int .i64 (rv i)) ∧ rsCells[i]? = some (.string ⟨(rs i).toArray⟩) := by
  match i, h with
  | 0, _ => exact ⟨rfl, rfl⟩
  | 1, _ => exact ⟨rfl, rfl⟩
  | 2, _ => exact ⟨rfl, rfl⟩
  | 3, _ => exact ⟨rfl, rfl⟩
  | 4, _ => exact ⟨rfl, rfl⟩
  | 5, _ => exact ⟨rfl, rfl⟩
  | 6, _ => exact ⟨rfl, rfl⟩
  | 7, _ => exact ⟨rfl, rfl⟩
  | 8, _ => exact ⟨rfl, rfl⟩
  | 9, _ => exact ⟨rfl, rfl⟩
  | 10, _ => exact ⟨rfl, rfl⟩
  | 11, _ => exact ⟨rfl, rfl⟩
  | 12, _ => exact ⟨rfl, rfl⟩

set_option maxRecDepth 100000 in
set_option maxHeartbeats 1600000 in
theorem numeral_any (n : Nat) (w : World) (hn : n ≤ 3999) :
    Calls Tryz.prog 31 #[.int .i64 n] w fun e w' => e = .returned (.string ⟨(romR 0 n).toArray⟩) ∧ Below w.heap.size w w' := by
  obtain ⟨T, hT⟩ : ∃ T, romR 0 n = T := ⟨_, rfl⟩
  have hTl : T.length ≤ 20 := by rw [← hT]; exact rom_le n hn
  rw [hT]
  have HT := Lib.hid hT
  clear hT
  go_enter Tryz.func31, Tryz.ntmps31
  go_wp2_with fail
  have V := (Bk.new w 3 rvCells).alloc (.cells rsCells 9)
  have S : Bk ((w.alloc (.cells rvCells 3)).alloc (.cells rsCells 9)) (w.heap.size + 1) 9 rsCells := by have := Bk.new (w.alloc (.cells rvCells 3)) 9 rsCells; simpa using this
  have bW := ((Below.refl _ w).alloc (Nat.le_refl _) (.cells rvCells 3)).alloc (by simp) (.cells rsCells 9)
  have v1 := fun i => V.cell i
  have s1 := fun i => S.cell i
  have cells := rv_cell
  unfold rvCells rsCells at *
  generalize (World.alloc _ _) = W at *
  go_loop [0, 5, 6] (fun x a j => ∃ (i m : Nat) (acc : List UInt8), i ≤ 13 ∧ m ≤ 3999 ∧ x = .int .i64 m ∧ a = .string ⟨acc.toArray⟩ ∧ j = .int .i64 i ∧ acc ++ romR i m = T) (fun _ _ j => 13 - (intOf j).toNat)
  case atStart => exact ⟨0, n, [], by omega, hn, rfl, rfl, rfl, HT.out⟩
  case round =>
    obtain ⟨i, m, acc, hi, hm, rfl, rfl, rfl, hacc⟩ := hrel
    by_cases hlt : i < 13
    · obtain ⟨cv, cs⟩ := cells i hlt
      have v2 := (v1 i).trans cv
      have s2 := (s1 i).trans cs
      have HA := Lib.hid hacc
      obtain ⟨p1, p2⟩ := rv_bd i hlt
      have p3 := rs_bd i hlt
      clear hacc cells V S v1 s1 cv cs
      go_wp2_with fail
      go_loop [0, 5] (fun x a => ∃ (m : Nat) (acc : List UInt8), m ≤ 3999 ∧ x = .int .i64 m ∧ a = .string ⟨acc.toArray⟩ ∧ acc ++ romR i m = T) (fun x _ => (intOf x).toNat)
      case atStart => exact ⟨m, acc, hm, rfl, rfl, HA.out⟩
      case round =>
        clear HA hm
        obtain ⟨m, acc, hm, rfl, rfl, hacc⟩ := hrel
        by_cases hge : rv i ≤ m
        · have hlen : acc.length ≤ 20 := by rw [← hacc, List.length_append] at hTl; omega
          have hadd : ∀ w : World, (Op.stringOp .add ⟨acc.toArray⟩ ⟨(rs i).toArray⟩).run Tryz.prog w = .ok (.string ⟨(acc ++ rs i).toArray⟩) w := fun w => run_string_add_lists w acc (rs i) (by omega) (by omega)
          have HA := Lib.hid hacc
          clear hacc
          go_wp2
          go_round
          case rel => exact ⟨m - rv i, acc ++ rs i, by omega, by go_num, rfl, by rw [List.append_assoc, ← romR_more i m hlt hge]; exact HA.out⟩
          case measure => simp [intOf]; omega
        · have HA := Lib.hid hacc
          clear hacc
          go_wp2
          go_round
          case rel => exact ⟨i + 1, m, acc, by omega, hm, rfl, rfl, by go_num, by rw [← romR_less i m hlt (by omega)]; exact HA.out⟩
          case measure => simp [intOf]; omega
    · obtain rfl : i = 13 := by omega
      rw [romR_end, List.append_nil] at hacc
      subst hacc
      go_wp2
      go_ret
      exact ⟨rfl, bW⟩
end Go.Proofs.YtojicbajcebjjaaGreatDoor
