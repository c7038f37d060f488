/-
  math/bits.Len at this program: written by the shelf's program (its plain mode).
-/
import Derived.Shelf.Small.Bits
import Derived.Test.YtojicbajcebjjaaGreatDoorProg
namespace Go.Proofs.YtojicbajcebjjaaGreatDoor
open Go.Shelf
def lays125_ren : Go.Shelf.Ren := ⟨fun | 125 => 136 | 128 => 147 | 129 => 148 | n => n, fun | 46 => 133 | 3 => 3 | 51 => 166 | 53 => 131 | 4 => 4 | 5 => 5 | 9 => 9 | n => n, fun | n => n⟩
theorem lays125 : Go.Proofs.Lays.n125 Tryz.prog lays125_ren := {
  mixed := by kernel_rfl
  f125 := Tryz.func136.trans (congrArg some (by kernel_rfl))
  f128 := Tryz.func147.trans (congrArg some (by kernel_rfl))
  f129 := Tryz.func148.trans (congrArg some (by kernel_rfl))
  t3 := Tryz.underlying3
  a3 := Tryz.isAgg3
  z3 := Tryz.sizeOf3
  v3 := Tryz.zeroValue3
  t4 := Tryz.underlying4
  a4 := Tryz.isAgg4
  z4 := Tryz.sizeOf4
  v4 := Tryz.zeroValue4
  t5 := Tryz.underlying5
  a5 := Tryz.isAgg5
  z5 := Tryz.sizeOf5
  v5 := Tryz.zeroValue5
  t9 := Tryz.underlying9
  a9 := Tryz.isAgg9
  z9 := Tryz.sizeOf9
  v9 := Tryz.zeroValue9
  t46 := Tryz.underlying133
  a46 := Tryz.isAgg133
  z46 := Tryz.sizeOf133
  v46 := Tryz.zeroValue133
  t51 := Tryz.underlying166
  a51 := Tryz.isAgg166
  z51 := Tryz.sizeOf166
  v51 := Tryz.zeroValue166
  t53 := Tryz.underlying131
  a53 := Tryz.isAgg131
  z53 := Tryz.sizeOf131
  v53 := Tryz.zeroValue131 }
theorem bits_Len (x : Int) (w : World) (h0 : 0 ≤ x) (h1 : x ≤ 18446744073709551615) :
    Calls Tryz.prog 136 #[.int .u64 x] w fun e w' => e = .returned (.int .i64 (Lib.bitLen x.toNat)) ∧ w' = w := Any.bits_Len lays125 x w h0 h1

end Go.Proofs.YtojicbajcebjjaaGreatDoor
