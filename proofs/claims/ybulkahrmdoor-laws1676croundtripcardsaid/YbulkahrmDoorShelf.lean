/- The shelf's contracts for encoding/binary at this dump, as the kit's tool wrote them for it in plain words. -/
import Derived.Shelf.Bin.AppendUvarint
import Derived.Shelf.Bin.Uvarint
import Derived.Shelf.Bin.UvarintEmpty
import Derived.Test.YbulkahrmDoorProg
namespace Go.Proofs.YbulkahrmDoor
open Go.Shelf
def Ybad.laysBin47_ren : Go.Shelf.Ren := ⟨fun | 47 => 5 | n => n, fun | 22 => 23 | 33 => 22 | 4 => 4 | 5 => 5 | 45 => 42 | n => n, fun | n => n⟩
theorem Ybad.laysBin47 : Go.Proofs.LaysBin.n47 Ybad.prog Ybad.laysBin47_ren := {
  mixed := by kernel_rfl
  f47 := Ybad.func5.trans (congrArg some (by kernel_rfl))
  t4 := Ybad.underlying4
  a4 := Ybad.isAgg4
  z4 := Ybad.sizeOf4
  v4 := Ybad.zeroValue4
  i4 := by kernel_rfl
  t5 := Ybad.underlying5
  a5 := Ybad.isAgg5
  z5 := Ybad.sizeOf5
  v5 := Ybad.zeroValue5
  i5 := by kernel_rfl
  t22 := Ybad.underlying23
  a22 := Ybad.isAgg23
  z22 := Ybad.sizeOf23
  v22 := Ybad.zeroValue23
  i22 := by kernel_rfl
  t33 := Ybad.underlying22
  a33 := Ybad.isAgg22
  z33 := Ybad.sizeOf22
  v33 := Ybad.zeroValue22
  i33 := by kernel_rfl
  t45 := Ybad.underlying42
  a45 := Ybad.isAgg42
  z45 := Ybad.sizeOf42
  v45 := Ybad.zeroValue42
  i45 := by kernel_rfl }
open Go.RowKit in
theorem Ybad.binary_AppendUvarint (B n x : Nat) (hx : x < 18446744073709551616) (sv : Value) (xs : List Value) (w : World) (hown : w.ownsRow B 5 1 sv n xs) (hBw : B ≤ w.heap.size) (hlim : n + 10 ≤ 140737488355328) :
    Calls Ybad.prog 5 #[sv, .int .u64 x] w fun e w' => ∃ v', e = .returned v' ∧ w'.ownsRow B 5 1 v' (n + (Lib.uvarint x).length) (xs ++ Lib.byteCells (Lib.uvarint x)) ∧ Below B w w' := Any.binary_AppendUvarint Ybad.laysBin47 B n x hx sv xs w hown hBw hlim
def Ybad.laysBin45_ren : Go.Shelf.Ren := ⟨fun | 45 => 12 | n => n, fun | 22 => 23 | 33 => 22 | 3 => 3 | 45 => 42 | 0 => 0 | 5 => 5 | 4 => 4 | n => n, fun | n => n⟩
theorem Ybad.laysBin45 : Go.Proofs.LaysBin.n45 Ybad.prog Ybad.laysBin45_ren := {
  mixed := by kernel_rfl
  f45 := Ybad.func12.trans (congrArg some (by kernel_rfl))
  t0 := Ybad.underlying0
  a0 := Ybad.isAgg0
  z0 := Ybad.sizeOf0
  v0 := Ybad.zeroValue0
  i0 := by kernel_rfl
  t3 := Ybad.underlying3
  a3 := Ybad.isAgg3
  z3 := Ybad.sizeOf3
  v3 := Ybad.zeroValue3
  i3 := by kernel_rfl
  t4 := Ybad.underlying4
  a4 := Ybad.isAgg4
  z4 := Ybad.sizeOf4
  v4 := Ybad.zeroValue4
  i4 := by kernel_rfl
  t5 := Ybad.underlying5
  a5 := Ybad.isAgg5
  z5 := Ybad.sizeOf5
  v5 := Ybad.zeroValue5
  i5 := by kernel_rfl
  t22 := Ybad.underlying23
  a22 := Ybad.isAgg23
  z22 := Ybad.sizeOf23
  v22 := Ybad.zeroValue23
  i22 := by kernel_rfl
  t33 := Ybad.underlying22
  a33 := Ybad.isAgg22
  z33 := Ybad.sizeOf22
  v33 := Ybad.zeroValue22
  i33 := by kernel_rfl
  t45 := Ybad.underlying42
  a45 := Ybad.isAgg42
  z45 := Ybad.sizeOf42
  v45 := Ybad.zeroValue42
  i45 := by kernel_rfl }
open Go.RowKit in
theorem Ybad.binary_Uvarint (g o n c : Nat) (l : List UInt8) (w : World) (hl : l.length = n) (hcell : ∀ j (hj : j < l.length), w.cell? ⟨g, o + j, none⟩ = some (.int .u8 (l[j]).toNat)) :
    Calls Ybad.prog 12 #[.slice (some ⟨g, o, none⟩) n c] w fun e w' => e = .returned (.tuple #[.int .u64 (Lib.uvarintDec l).1, .int .i64 (Lib.uvarintDec l).2]) ∧ w' = w := Any.binary_Uvarint Ybad.laysBin45 g o n c l w hl hcell
open Go.RowKit in
theorem Ybad.binary_Uvarint_empty (ao : Option Addr) (c : Nat) (w : World) :
    Calls Ybad.prog 12 #[.slice ao 0 c] w fun e w' => e = .returned (.tuple #[.int .u64 (Lib.uvarintDec []).1, .int .i64 (Lib.uvarintDec []).2]) ∧ w' = w := Any.binary_Uvarint_empty Ybad.laysBin45 ao c w
end Go.Proofs.YbulkahrmDoor
