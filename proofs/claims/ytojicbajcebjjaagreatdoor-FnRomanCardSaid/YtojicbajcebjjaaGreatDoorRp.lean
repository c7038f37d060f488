/-
  Strings as values of the program and of the reference; ROMAN, its doors, the law FnRoman.
-/
import Derived.Test.YtojicbajcebjjaaGreatDoorRo
import Derived.Test.YtojicbajcebjjaaGreatDoorM
import Derived.Test.YtojicbajcebjjaaGreatDoorBf
namespace Go.Proofs.YtojicbajcebjjaaGreatDoor
open Go.RowKit
attribute [local go_sem] run_store_float

set_option maxHeartbeats 400000 in
theorem newStr (s : ByteArray) (w : World) :
    Calls Tryz.prog 96 #[.string s] w fun e w' => e = .returned (.agg #[.string ⟨#[]⟩, .float .f64 0, .string (s), .slice none 0 0, .slice none 0 0, .bool false, .string ⟨#[]⟩, .int .u8 2, .pointer none, .pointer none]) ∧ Below w.heap.size w w' := by
  go_enter Tryz.func96, Tryz.ntmps96
  go_wp2
  exact bodyPost_ret (v := (.agg #[.string ⟨#[]⟩, .float .f64 0, .string (s), .slice none 0 0, .slice none 0 0, .bool false, .string ⟨#[]⟩, .int .u8 2, .pointer none, .pointer none])) (by simp [results, Tryz.results96, go_sem]) rfl ⟨rfl, (Below.refl _ _).alloc (Nat.le_refl _) _⟩

set_option maxHeartbeats 400000 in
theorem doorArg_str (s : ByteArray) (w : World) :
    Calls Tryz.prog 63 #[(.agg #[.string ⟨#[]⟩, .float .f64 0, .string (s), .slice none 0 0, .slice none 0 0, .bool false, .string ⟨#[]⟩, .int .u8 2, .pointer none, .pointer none])] w fun e w' => e = .returned (.agg #[.int .i64 2, .float .f64 0, .string (s), .slice none 0 0]) ∧ Below w.heap.size w w' := by
  go_enter Tryz.func63, Tryz.ntmps63
  go_wp2
  exact bodyPost_ret (v := (.agg #[.int .i64 2, .float .f64 0, .string (s), .slice none 0 0])) (by simp [results, Tryz.results63, go_sem]) rfl ⟨rfl, ((Below.refl _ _).alloc (Nat.le_refl _) _).alloc (by simp) _⟩

set_option maxHeartbeats 400000 in
theorem out_str (s : ByteArray) (w : World) :
    Calls Tryz.prog 43 #[(.agg #[.int .i64 2, .float .f64 0, .string (s), .slice none 0 0])] w fun e w' => e = .returned (.agg #[.int .i64 2, .float .f64 0, .string (s), .slice none 0 0]) ∧ Below w.heap.size w w' := by
  go_enter Tryz.func43, Tryz.ntmps43
  go_wp2_with fail
  refine wp_loop_once ?_
  go_wp2
  exact bodyPost_ret (v := (.agg #[.int .i64 2, .float .f64 0, .string (s), .slice none 0 0])) (by simp [results, Tryz.results43, go_sem]) rfl ⟨rfl, (((Below.refl _ _).alloc (Nat.le_refl _) _).alloc (by simp) _).alloc (by simp; omega) _⟩

set_option maxHeartbeats 400000 in
theorem str_any (s : ByteArray) (w : World) :
    Calls Tryz.prog 30 #[.string s] w fun e w' => e = .returned (.agg #[.int .i64 2, .int .i64 0, .int .i64 0, .string (s), .slice none 0 0]) ∧ Below w.heap.size w w' := by
  go_enter Tryz.func30, Tryz.ntmps30
  go_wp2
  exact bodyPost_ret (v := (.agg #[.int .i64 2, .int .i64 0, .int .i64 0, .string (s), .slice none 0 0])) (by simp [results, Tryz.results30, go_sem]) rfl ⟨rfl, (Below.refl _ _).alloc (Nat.le_refl _) _⟩

set_option maxHeartbeats 400000 in
theorem of_str (s : ByteArray) (w : World) :
    Calls Tryz.prog 41 #[(.agg #[.int .i64 2, .int .i64 0, .int .i64 0, .string (s), .slice none 0 0])] w fun e w' => e = .returned (.agg #[.int .i64 2, .float .f64 0, .string (s), .slice none 0 0]) ∧ Below w.heap.size w w' := by
  go_enter Tryz.func41, Tryz.ntmps41
  go_wp2
  exact bodyPost_ret (v := (.agg #[.int .i64 2, .float .f64 0, .string (s), .slice none 0 0])) (by simp [results, Tryz.results41, go_sem]) rfl ⟨rfl, (((Below.refl _ _).alloc (Nat.le_refl _) _).alloc (by simp) _).alloc (by simp; omega) _⟩

set_option maxHeartbeats 800000 in
theorem same_str (s : ByteArray) (w : World) :
    Calls Tryz.prog 15 #[(.agg #[.int .i64 2, .float .f64 0, .string (s), .slice none 0 0]), (.agg #[.int .i64 2, .int .i64 0, .int .i64 0, .string (s), .slice none 0 0])] w fun e w' => e = .returned (.bool true) ∧ Below w.heap.size w w' := by
  have ho : FloatKind.f64.format.order 0 0 = some .eq := by decide
  go_enter Tryz.func15, Tryz.ntmps15
  go_wp2_with fail
  refine (of_str s _).mono ?_
  rintro e w1 ⟨rfl, hb1⟩
  obtain ⟨hc, hf⟩ := below_cells hb1
  have hz : w.heap.size + 1 < w1.heap.size := by have := hb1.size; simp at this; omega
  have hz0 : w.heap.size < w1.heap.size := by omega
  go_wp2
  refine wp_loop_once ?_
  go_wp2
  go_ret
  exact ⟨rfl, ((((Below.refl _ _).alloc (Nat.le_refl _) _).alloc (by simp) _).trans (hb1.mono (by simp; omega))).alloc (by omega) _⟩
end Go.Proofs.YtojicbajcebjjaaGreatDoor
