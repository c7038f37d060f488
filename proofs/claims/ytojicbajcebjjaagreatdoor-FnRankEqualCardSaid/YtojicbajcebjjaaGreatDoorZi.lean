/-
  slices.Sort and sort.Float64s of small whole numbers.
-/
import Derived.Test.YtojicbajcebjjaaGreatDoorZg
import Derived.Test.YtojicbajcebjjaaGreatDoorZh
import Derived.Sort.WalkA14
import Derived.Sort.AssemblyPlain
namespace Go.Proofs.YtojicbajcebjjaaGreatDoor
open Go.RowKit Go.Sort
attribute [local go_sem] run_store_float
def pdqWalk_K : Prop := ∀ (blk off cap a b limit : Nat) (d : Array FK) (w : World), Holds encK w blk off d → blk < w.heap.size → a ≤ b → b ≤ d.size → d.size < 4611686018427387904 → limit < 4611686018427387904 → Below ltK a b d →
  Calls Tryz.prog 146 #[.slice (some ⟨blk, off, none⟩) d.size cap, .int .i64 a, .int .i64 b, .int .i64 limit] w fun e w' =>
    e = .returned (.tuple #[]) ∧ ∃ n os, w' = grow (putRow encK (Sort.ahead w n) blk off (Sort.pdq ltK d a b limit true true)) os

set_option maxRecDepth 100000 in
theorem Sort_K (hpdq : pdqWalk_K) (blk off cap : Nat) (d : Array FK) (w : World) (hH : Holds encK w blk off d) (hblk : blk < w.heap.size) (hsz : d.size < 4611686018427387904) :
    Calls Tryz.prog 135 #[.slice (some ⟨blk, off, none⟩) d.size cap] w fun e w' => e = .returned (.tuple #[]) ∧ ∃ n os, w' = grow (putRow encK (Sort.ahead w n) blk off (Sort.sort ltK d)) os := by
  have HH : Hid (Holds encK w blk off d) := hH
  clear hH
  have hLen : ∀ w, Calls Tryz.prog 136 #[.int .u64 (d.size : Int)] w fun e w' => e = .returned (.int .i64 (bitsLen d.size : Nat)) ∧ w' = w := fun w => by
    have h := bits_Len (d.size : Int) w (by omega) (by omega)
    rwa [Int.toNat_natCast, bitLen_eq _ (by omega)] at h
  have hk : bitsLen d.size ≤ 62 := (bitsLen_le_iff d.size 62).2 (by omega)
  go_enter Tryz.func135, Tryz.ntmps135
  go_wp2_with (first
    | (go_at_call 136; refine (hLen _).mono ?_; rintro e w' ⟨rfl, rfl⟩)
    | (go_at_call 146; refine (hpdq blk off cap 0 d.size (bitsLen d.size) d _ (by exact HH.out) (by exact hblk) (Nat.zero_le _) (Nat.le_refl _) hsz (by omega) (Or.inl rfl)).mono ?_; rintro e w' ⟨rfl, n, os, rfl⟩))
  go_end0
  exact ⟨rfl, n, os, rfl⟩

theorem Ints (hpdq : pdqWalk_K) (blk off cap : Nat) (d : Array FK) (w : World) (hH : Holds encK w blk off d) (hblk : blk < w.heap.size) (hsz : d.size < 4611686018427387904) :
    Calls Tryz.prog 120 #[.slice (some ⟨blk, off, none⟩) d.size cap] w fun e w' => e = .returned (.tuple #[]) ∧ ∃ n os, w' = grow (putRow encK (Sort.ahead w n) blk off (Sort.sort ltK d)) os := by
  have HH : Hid (Holds encK w blk off d) := hH
  clear hH
  go_enter Tryz.func120, Tryz.ntmps120
  go_wp2_with (first | (go_at_call 135; refine (Sort_K hpdq blk off cap d _ (by exact HH.out) (by exact hblk) hsz).mono ?_; rintro e w' ⟨rfl, n, os, rfl⟩))
  go_end0
  exact ⟨rfl, n, os, rfl⟩

theorem calleesK : CalleesK where
  ins := insertionSort_K
  brk := breakPatterns_K
  piv := choosePivot_K
  par := partialInsertionSort_K
  peq := partitionEqualOrdered_K
  prt := partitionOrdered_K
theorem plainK : PlainK where
  swo := swoK
  ins := insertionSort_holds
  par := partialInsertionSort_holds
  prt := partition_holds _
  peq := partitionEqual_holds _
  pdq := pdq_sorts _
theorem pdqWalkK : pdqWalk_K := fun blk off cap a b limit d w hH hb hab hbd hsz hl hB =>
  pdqsort_K calleesK plainK (b - a + 1) blk off cap a b limit d w (by omega) hH hb hab hbd hsz hl hB

/-- sort.Float64s: a permutation, ascending. -/
theorem float64s_K (blk off cap : Nat) (d : Array FK) (w : World) (hH : Holds encK w blk off d) (hblk : blk < w.heap.size) (hsz : d.size < 4611686018427387904) :
    Calls Tryz.prog 120 #[.slice (some ⟨blk, off, none⟩) d.size cap] w fun e w' => e = .returned (.tuple #[]) ∧ ∃ d' n os, PermIn 0 d.size d d' ∧ SortedIn ltK 0 d.size d' ∧ w' = grow (putRow encK (Sort.ahead w n) blk off d') os :=
  (Ints pdqWalkK blk off cap d w hH hblk hsz).mono fun _ _ ⟨he, n, os, hw⟩ => ⟨he, _, n, os, (sort_sorts ltK swoK d).1, (sort_sorts ltK swoK d).2, hw⟩


end Go.Proofs.YtojicbajcebjjaaGreatDoor
