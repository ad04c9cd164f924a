/- The shelf's contracts for encoding/binary at this dump, as the kit's tool wrote them for it in plain words. -/
import Derived.Shelf.Bin.AppendUvarint
import Derived.Shelf.Bin.Uvarint
import Derived.Shelf.Bin.UvarintEmpty
import Derived.Test.YbulkahrmFmtProg
namespace Go.Proofs.YbulkahrmFmt
open Go.Shelf
def Ybaf.laysBin47_ren : Go.Shelf.Ren := ⟨fun | 47 => 7 | n => n, fun | 22 => 23 | 33 => 29 | 4 => 4 | 5 => 5 | 45 => 38 | n => n, fun | n => n⟩
theorem Ybaf.laysBin47 : Go.Proofs.LaysBin.n47 Ybaf.prog Ybaf.laysBin47_ren := {
  mixed := by kernel_rfl
  f47 := Ybaf.func7.trans (congrArg some (by kernel_rfl))
  t4 := Ybaf.underlying4
  a4 := Ybaf.isAgg4
  z4 := Ybaf.sizeOf4
  v4 := Ybaf.zeroValue4
  i4 := by kernel_rfl
  t5 := Ybaf.underlying5
  a5 := Ybaf.isAgg5
  z5 := Ybaf.sizeOf5
  v5 := Ybaf.zeroValue5
  i5 := by kernel_rfl
  t22 := Ybaf.underlying23
  a22 := Ybaf.isAgg23
  z22 := Ybaf.sizeOf23
  v22 := Ybaf.zeroValue23
  i22 := by kernel_rfl
  t33 := Ybaf.underlying29
  a33 := Ybaf.isAgg29
  z33 := Ybaf.sizeOf29
  v33 := Ybaf.zeroValue29
  i33 := by kernel_rfl
  t45 := Ybaf.underlying38
  a45 := Ybaf.isAgg38
  z45 := Ybaf.sizeOf38
  v45 := Ybaf.zeroValue38
  i45 := by kernel_rfl }
open Go.RowKit in
theorem Ybaf.binary_AppendUvarint (B n x : Nat) (hx : x < 18446744073709551616) (sv : Value) (xs : List Value) (w : World) (hown : w.ownsRow B 5 1 sv n xs) (hBw : B ≤ w.heap.size) (hlim : n + 10 ≤ 140737488355328) :
    Calls Ybaf.prog 7 #[sv, .int .u64 x] w fun e w' => ∃ v', e = .returned v' ∧ w'.ownsRow B 5 1 v' (n + (Lib.uvarint x).length) (xs ++ Lib.byteCells (Lib.uvarint x)) ∧ Below B w w' := Any.binary_AppendUvarint Ybaf.laysBin47 B n x hx sv xs w hown hBw hlim
def Ybaf.laysBin45_ren : Go.Shelf.Ren := ⟨fun | 45 => 12 | n => n, fun | 22 => 23 | 33 => 29 | 3 => 3 | 45 => 38 | 0 => 0 | 5 => 5 | 4 => 4 | n => n, fun | n => n⟩
theorem Ybaf.laysBin45 : Go.Proofs.LaysBin.n45 Ybaf.prog Ybaf.laysBin45_ren := {
  mixed := by kernel_rfl
  f45 := Ybaf.func12.trans (congrArg some (by kernel_rfl))
  t0 := Ybaf.underlying0
  a0 := Ybaf.isAgg0
  z0 := Ybaf.sizeOf0
  v0 := Ybaf.zeroValue0
  i0 := by kernel_rfl
  t3 := Ybaf.underlying3
  a3 := Ybaf.isAgg3
  z3 := Ybaf.sizeOf3
  v3 := Ybaf.zeroValue3
  i3 := by kernel_rfl
  t4 := Ybaf.underlying4
  a4 := Ybaf.isAgg4
  z4 := Ybaf.sizeOf4
  v4 := Ybaf.zeroValue4
  i4 := by kernel_rfl
  t5 := Ybaf.underlying5
  a5 := Ybaf.isAgg5
  z5 := Ybaf.sizeOf5
  v5 := Ybaf.zeroValue5
  i5 := by kernel_rfl
  t22 := Ybaf.underlying23
  a22 := Ybaf.isAgg23
  z22 := Ybaf.sizeOf23
  v22 := Ybaf.zeroValue23
  i22 := by kernel_rfl
  t33 := Ybaf.underlying29
  a33 := Ybaf.isAgg29
  z33 := Ybaf.sizeOf29
  v33 := Ybaf.zeroValue29
  i33 := by kernel_rfl
  t45 := Ybaf.underlying38
  a45 := Ybaf.isAgg38
  z45 := Ybaf.sizeOf38
  v45 := Ybaf.zeroValue38
  i45 := by kernel_rfl }
open Go.RowKit in
theorem Ybaf.binary_Uvarint (g o n c : Nat) (l : List UInt8) (w : World) (hl : l.length = n) (hcell : ∀ j (hj : j < l.length), w.cell? ⟨g, o + j, none⟩ = some (.int .u8 (l[j]).toNat)) :
    Calls Ybaf.prog 12 #[.slice (some ⟨g, o, none⟩) n c] w fun e w' => e = .returned (.tuple #[.int .u64 (Lib.uvarintDec l).1, .int .i64 (Lib.uvarintDec l).2]) ∧ w' = w := Any.binary_Uvarint Ybaf.laysBin45 g o n c l w hl hcell
open Go.RowKit in
theorem Ybaf.binary_Uvarint_empty (ao : Option Addr) (c : Nat) (w : World) :
    Calls Ybaf.prog 12 #[.slice ao 0 c] w fun e w' => e = .returned (.tuple #[.int .u64 (Lib.uvarintDec []).1, .int .i64 (Lib.uvarintDec []).2]) ∧ w' = w := Any.binary_Uvarint_empty Ybaf.laysBin45 ao c w
end Go.Proofs.YbulkahrmFmt
