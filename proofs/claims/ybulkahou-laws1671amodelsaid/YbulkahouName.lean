import Derived.Test.YbulkahouRows
import Derived.Test.YbulkahouPlain
import Derived.WalkKit
import Derived.Below
import Derived.WalkLawsBesides
import Derived.Laws.IdiomStrings
import Derived.Lib.Strings
import Derived.Lib.Slices
import Derived.Lib.Walk
import Derived.Lib.Bytealg
namespace Go.Proofs.Ybulkahou
open Go.RowKit

theorem name_convert (k : Nat) (hk : k < 676) (w : World) :
    (convert 31 9 (.slice (some ⟨w.heap.size, 0, none⟩) 2 2)).run Yba.prog (w.alloc (.cells #[.int .u8 (97 + (k : Int) / 26), .int .u8 (97 + (k : Int) % 26)] 5)) = .ok (.string (nm k)) (w.alloc (.cells #[.int .u8 (97 + (k : Int) / 26), .int .u8 (97 + (k : Int) % 26)] 5)) := by
  have h := run_convert_bytes_back (P := Yba.prog) (w.alloc (.cells #[.int .u8 (97 + (k : Int) / 26), .int .u8 (97 + (k : Int) % 26)] 5)) 31 9 5 ⟨w.heap.size, 0, none⟩ 2 [(97 + k / 26).toUInt8, (97 + k % 26).toUInt8] Yba.underlying31 Yba.underlying5 Yba.underlying9 (by
    intro j hj
    match j, hj with
    | 0, _ => simp [Addr.add]; omega
    | 1, _ => simp [Addr.add]; omega)
  exact h

set_option maxRecDepth 100000 in
set_option maxHeartbeats 400000 in
theorem name_any (k : Nat) (hk : (k : Int) ≤ 675) (w : World) :
    Calls Yba.prog 11 #[.int .i64 k] w fun e w' => e = .returned (.string (nm k)) ∧ ∃ o, w' = w.alloc o := by
  have hcv := name_convert k (by omega) w
  go_enter Yba.func11, Yba.ntmps11
  go_wp2
  go_ret
  exact ⟨rfl, _, rfl⟩

set_option maxHeartbeats 1000000 in
set_option maxRecDepth 100000 in
theorem compareString_any (a b : ByteArray) (w : World) :
    Calls Yba.prog 17 #[.string a, .string b] w fun e w' => e = .returned (.int .i64 (Lib.compareBytes a.data.toList b.data.toList)) ∧ w' = w := by
  go_enter Yba.func17, Yba.ntmps17
  go_wp2
  rw [run_callFunc_extern Yba.func18 (by kernel_rfl) (by kernel_rfl) (by kernel_rfl) (e := Extern.BytealgCompare.compare) (by kernel_rfl), Lib.run_compareString]
  simp only [Result.andThen]
  rw [Oper.upon_value]
  go_wp2
  go_ret
  exact ⟨rfl, rfl⟩

set_option maxHeartbeats 1000000 in
theorem strCompare_any (a b : ByteArray) (w : World) :
    Calls Yba.prog 16 #[.string a, .string b] w fun e w' => e = .returned (.int .i64 (Lib.compareBytes a.data.toList b.data.toList)) ∧ w' = w := by
  go_enter Yba.func16, Yba.ntmps16
  go_wp2_with (go_at_call 17; refine (compareString_any _ _ _).mono ?_; rintro e w' ⟨rfl, rfl⟩)
  go_ret
  exact ⟨rfl, rfl⟩

/-- Two names compared, as a number: given a name so that the walk does not part on it. -/
def cmpN (i j : Nat) : Int := if i < j then -1 else if j < i then 1 else 0

set_option maxHeartbeats 1000000 in
/-- The closure in 'index': the entry's name against the name sought. -/
theorem closure_any (i j : Nat) (v : Int) (hi : i < 676) (hj : j < 676) (w : World) :
    Calls Yba.prog 15 #[.agg #[.string (nm i), .int .u64 v], .string (nm j)] w fun e w' => e = .returned (.int .i64 (cmpN i j)) ∧ ∃ o, w' = w.alloc o := by
  go_enter Yba.func15, Yba.ntmps15
  go_wp2_with (go_at_call 16; refine (strCompare_any _ _ _).mono ?_; rintro e w' ⟨rfl, rfl⟩)
  go_ret
  exact ⟨by rw [nm_cmp i j hi hj]; rfl, _, rfl⟩
end Go.Proofs.Ybulkahou
