/-
  bytes.Buffer's WriteString and String at this program: written by the shelf's program (its plain mode), these two alone.
-/
import Derived.Shelf.LaysM
import Derived.Shelf.Bytes.String
import Derived.Shelf.Bytes.BufferK
import Derived.Test.YtojicbajcebjjaaGreatDoorProg
namespace Go.Proofs.YtojicbajcebjjaaGreatDoor
open Go.Shelf
def laysM178_ren : Go.Shelf.Ren := ⟨fun | 178 => 95 | 251 => 115 | 252 => 116 | 181 => 132 | 184 => 133 | 290 => 134 | 324 => 145 | n => n, fun | 130 => 127 | 9 => 9 | 3 => 3 | 75 => 97 | 0 => 0 | 93 => 107 | 91 => 105 | 131 => 45 | 4 => 4 | 37 => 103 | 20 => 20 | 80 => 100 | 5 => 5 | n => n, fun | 14 => 2 | n => n⟩
theorem laysM178 : Go.Proofs.LaysM.n178 Tryz.prog laysM178_ren := {
  mixed := by kernel_rfl
  f178 := Tryz.func95.trans (congrArg some (by kernel_rfl))
  f181 := Tryz.func132.trans (congrArg some (by kernel_rfl))
  f184 := Tryz.func133.trans (congrArg some (by kernel_rfl))
  f251 := Tryz.func115.trans (congrArg some (by kernel_rfl))
  f252 := Tryz.func116.trans (congrArg some (by kernel_rfl))
  f290 := Tryz.func134.trans (congrArg some (by kernel_rfl))
  f324 := Tryz.func145.trans (congrArg some (by kernel_rfl))
  t0 := Tryz.underlying0
  a0 := Tryz.isAgg0
  z0 := Tryz.sizeOf0
  v0 := Tryz.zeroValue0
  t3 := Tryz.underlying3
  a3 := Tryz.isAgg3
  z3 := Tryz.sizeOf3
  v3 := Tryz.zeroValue3
  t4 := Tryz.underlying4
  a4 := Tryz.isAgg4
  z4 := Tryz.sizeOf4
  v4 := Tryz.zeroValue4
  t9 := Tryz.underlying9
  a9 := Tryz.isAgg9
  z9 := Tryz.sizeOf9
  v9 := Tryz.zeroValue9
  t20 := Tryz.underlying20
  a20 := Tryz.isAgg20
  z20 := Tryz.sizeOf20
  v20 := Tryz.zeroValue20
  t37 := Tryz.underlying103
  a37 := Tryz.isAgg103
  z37 := Tryz.sizeOf103
  v37 := Tryz.zeroValue103
  t75 := Tryz.underlying97
  a75 := Tryz.isAgg97
  z75 := Tryz.sizeOf97
  v75 := Tryz.zeroValue97
  t91 := Tryz.underlying105
  a91 := Tryz.isAgg105
  z91 := Tryz.sizeOf105
  v91 := Tryz.zeroValue105
  t93 := Tryz.underlying107
  a93 := Tryz.isAgg107
  z93 := Tryz.sizeOf107
  v93 := Tryz.zeroValue107
  t130 := Tryz.underlying127
  a130 := Tryz.isAgg127
  z130 := Tryz.sizeOf127
  v130 := Tryz.zeroValue127
  t131 := Tryz.underlying45
  a131 := Tryz.isAgg45
  z131 := Tryz.sizeOf45
  v131 := Tryz.zeroValue45
  g14 := by kernel_rfl
  t5 := Tryz.underlying5
  a5 := Tryz.isAgg5
  z5 := Tryz.sizeOf5
  v5 := Tryz.zeroValue5
  t80 := Tryz.underlying100
  a80 := Tryz.isAgg100
  z80 := Tryz.sizeOf100
  v80 := Tryz.zeroValue100
  i0 := by kernel_rfl
  i3 := by kernel_rfl
  i4 := by kernel_rfl
  i5 := by kernel_rfl
  i9 := by kernel_rfl
  i20 := by kernel_rfl
  i37 := by kernel_rfl
  i75 := by kernel_rfl
  i80 := by kernel_rfl
  i91 := by kernel_rfl
  i93 := by kernel_rfl
  i130 := by kernel_rfl
  i131 := by kernel_rfl
  m14 := by kernel_rfl }
open Go.RowKit in
theorem Buffer_WriteString_k (B b : Nat) (bs : List Value) (s : ByteArray) (w : World) (h : Lib.IsBuffer 107 5 B b bs w) (hBw : B ≤ w.heap.size) (h1 : ∀ v ∈ bs, v.oneCell' = true) (hlim : bs.length + s.size ≤ 140737488355328) :
    Calls Tryz.prog 95 #[.pointer (some ⟨b, 0, none⟩), .string s] w fun e w' => e = .returned (.tuple #[.int .i64 s.size, .nilIface]) ∧ Lib.IsBuffer 107 5 B b (bs ++ Lib.byteCells s.data.toList) w' ∧ Below B w w' ∧ Lib.OthersKept 5 (some b) w w' := Any.Buffer_WriteString_k laysM178 B b bs s w h hBw h1 hlim
def laysM182_ren : Go.Shelf.Ren := ⟨fun | 182 => 97 | n => n, fun | 130 => 127 | 9 => 9 | 4 => 4 | 0 => 0 | 93 => 107 | 37 => 103 | 3 => 3 | 91 => 105 | 5 => 5 | n => n, fun | n => n⟩
theorem laysM182 : Go.Proofs.LaysM.n182 Tryz.prog laysM182_ren := {
  mixed := by kernel_rfl
  f182 := Tryz.func97.trans (congrArg some (by kernel_rfl))
  t0 := Tryz.underlying0
  a0 := Tryz.isAgg0
  z0 := Tryz.sizeOf0
  v0 := Tryz.zeroValue0
  t3 := Tryz.underlying3
  a3 := Tryz.isAgg3
  z3 := Tryz.sizeOf3
  v3 := Tryz.zeroValue3
  t4 := Tryz.underlying4
  a4 := Tryz.isAgg4
  z4 := Tryz.sizeOf4
  v4 := Tryz.zeroValue4
  t9 := Tryz.underlying9
  a9 := Tryz.isAgg9
  z9 := Tryz.sizeOf9
  v9 := Tryz.zeroValue9
  t37 := Tryz.underlying103
  a37 := Tryz.isAgg103
  z37 := Tryz.sizeOf103
  v37 := Tryz.zeroValue103
  t93 := Tryz.underlying107
  a93 := Tryz.isAgg107
  z93 := Tryz.sizeOf107
  v93 := Tryz.zeroValue107
  t130 := Tryz.underlying127
  a130 := Tryz.isAgg127
  z130 := Tryz.sizeOf127
  v130 := Tryz.zeroValue127
  t5 := Tryz.underlying5
  a5 := Tryz.isAgg5
  z5 := Tryz.sizeOf5
  v5 := Tryz.zeroValue5
  t91 := Tryz.underlying105
  a91 := Tryz.isAgg105
  z91 := Tryz.sizeOf105
  v91 := Tryz.zeroValue105
  i0 := by kernel_rfl
  i3 := by kernel_rfl
  i4 := by kernel_rfl
  i5 := by kernel_rfl
  i9 := by kernel_rfl
  i37 := by kernel_rfl
  i91 := by kernel_rfl
  i93 := by kernel_rfl
  i130 := by kernel_rfl }
open Go.RowKit in
theorem Buffer_String (B b : Nat) (l : List UInt8) (w : World) (h : Lib.IsBuffer 107 5 B b (Lib.byteCells l) w) :
    Calls Tryz.prog 97 #[.pointer (some ⟨b, 0, none⟩)] w fun e w' => e = .returned (.string ⟨l.toArray⟩) ∧ ∃ n, w' = w.drewN n := Any.Buffer_String laysM182 B b l w h
end Go.Proofs.YtojicbajcebjjaaGreatDoor
