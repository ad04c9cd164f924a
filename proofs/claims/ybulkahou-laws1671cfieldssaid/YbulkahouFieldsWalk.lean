import Derived.Test.YbulkahouRows
import Derived.WalkKit
import Derived.Below
import Derived.WalkLawsBesides
import Derived.LaidEql
import Derived.WalkSpells
import Derived.Lib.SliceRun
namespace Go.Proofs.Ybulkahou
open Go.RowKit

theorem Yba.info5 : (Yba.prog.info? 5).map (fun i => (i.zero, i.size, i.bytes)) = some (some (.int .u8 0), 1, 1) := by kernel_rfl

set_option maxHeartbeats 400000 in
/-- newLogText: a new block with the fields as handed in and the starting values. -/
theorem newLog_any (pp : Option Addr) (s : ByteArray) (rt : TypeId) (ra : Addr) (first : Int) (strict : Bool) (w : World) :
    Calls Yba.prog 10 #[.pointer pp, .string s, .iface rt (.pointer (some ra)), .int .i64 first, .bool strict] w fun e w' =>
      ∃ w1 : World, w.grownBy w1 none ∧ w.heap.size < w1.heap.size ∧ e = .returned (.pointer (some ⟨w1.heap.size, 0, none⟩)) ∧
        w' = w1.alloc (.cells #[.pointer pp, .string s, .iface rt (.pointer (some ra)), .bool strict, .int .i64 0, .int .i64 0, .int .i64 0, .slice (some ⟨w.heap.size, 0, none⟩) 0 65536, .int .i64 0, .bool false, .int .i64 0, .int .i64 0, .int .i64 (-1), .int .i64 0, .int .i64 0, .int .i64 first, .int .i64 0, .int .i64 (-1), .pointer none, .int .i64 (-1)] 52) := by
  obtain ⟨i0, hi, hz0, hz1, hz2⟩ := info_parts Yba.info5
  go_enter Yba.func10, Yba.ntmps10
  go_wp2_with (at_make; refine wpList_make_own _ rfl _ _ 31 rfl w.heap.size 5 i0 (.int .u8 0) 1 Yba.underlying31 hi hz0 hz1 .i64 .i64 65536 65536 rfl rfl rfl (by rw [hz2]; decide) (by unfold maxLen; decide) (Nat.le_refl _) ?_; intro w1 hown hg)
  go_ret
  exact ⟨w1, hg, (hown.lt w.heap.size rfl).2, rfl, rfl⟩

set_option maxRecDepth 100000 in
/-- More than 2^20 bytes of data: nothing is tried. -/
theorem fields_long (s : ByteArray) (first : Int) (strict : Bool) (a : Option Addr) (n c : Nat) (hn : (1048576 : Int) < (n : Int)) (w : World) :
    Calls Yba.prog 5 #[.string s, .int .i64 first, .bool strict, .slice a n c] w fun e w' => e = .returned (.bool true) ∧ Below w.heap.size w w' := by
  go_enter Yba.func5, Yba.ntmps5
  go_wp2
  go_ret
  exact ⟨rfl, Below.refl _ _⟩

theorem Yba.info39c : (Yba.prog.info? 39).map (fun i => i.comparable) = some true := by kernel_rfl
theorem Yba.info41s : (Yba.prog.info? 41).isSome = true := by kernel_rfl

/-- 'r != r' at one and the same pointer in an io.Reader. -/
theorem neq_reader (a : Addr) (w : World) : (binOp .neq 43 (.iface 39 (.pointer (some a))) (.iface 39 (.pointer (some a)))).run Yba.prog w = .ok (.bool false) w := by
  obtain ⟨i, hi, hc⟩ := Option.map_eq_some_iff.1 Yba.info39c
  obtain ⟨j, hj⟩ := Option.isSome_iff_exists.1 Yba.info41s
  simp only [binOp]
  simp [Op.equal, Op.maxDepth, run_equalIn_iface_ptr_same w 9998 a Yba.underlying43 Yba.underlying39 hi hc hj]

theorem Yba.info38s : (Yba.prog.info? 38).isSome = true := by kernel_rfl

/-- 'p != p' at one and the same pointer. -/
theorem neq_pattern (a : Addr) (w : World) : (binOp .neq 32 (.pointer (some a)) (.pointer (some a))).run Yba.prog w = .ok (.bool false) w := by
  obtain ⟨j, hj⟩ := Option.isSome_iff_exists.1 Yba.info38s
  have h : ∀ d : Nat, (Op.equalIn (d + 1) 32 (.pointer (some a)) (.pointer (some a))).run Yba.prog w = .ok true w := fun d => by
    simp [Op.equalIn, run_underlying Yba.underlying32, sizeOf, typeInfo, hj, run_sameAddr_same]
  simp only [binOp]
  simp [Op.equal, Op.maxDepth, h 9999]

set_option maxRecDepth 100000 in
set_option maxHeartbeats 1000000 in
theorem fields_short (s : ByteArray) (first : Int) (strict : Bool) (a : Option Addr) (n c : Nat) (hn : (n : Int) ≤ 1048576) (w : World) :
    Calls Yba.prog 5 #[.string s, .int .i64 first, .bool strict, .slice a n c] w fun e w' => e = .returned (.bool true) ∧ Below w.heap.size w w' := by
  have hne := neq_reader
  have hnp := neq_pattern
  have hnl := fun (w : World) (a : Option Addr) (n c : Nat) => Lib.run_eql_slice_nil (P := Yba.prog) w 31 5 a n c 0 0 Yba.underlying31
  go_enter Yba.func5, Yba.ntmps5
  go_wp2_with fail
  refine (newLog_any _ _ _ _ _ _ _).mono ?_
  rintro e w' ⟨w1, hg, hsz, rfl, rfl⟩
  have hrd : w1.cell? ⟨w.heap.size + 1, 1, none⟩ = some (.int .i64 0) := hg.cell (by simp) (by simp)
  have hb : Below w.heap.size w w1 := (((Below.refl _ w).alloc (Nat.le_refl _) _).alloc (by simp) _).grown hg (by simp; omega) (by simp)
  have hz : w.heap.size + 1 < w1.heap.size := by simp at hsz; omega
  clear hg hsz
  have HB : Hid (Below w.heap.size w w1) := hb
  clear hb
  go_wp2
  go_ret
  exact ⟨rfl, HB.out.alloc (by omega) _⟩
end Go.Proofs.Ybulkahou
