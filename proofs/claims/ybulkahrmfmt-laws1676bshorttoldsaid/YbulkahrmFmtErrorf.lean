import Derived.Test.YbulkahrmFmtNote
import Derived.Stop.CallBack
import Derived.Stop.IfaceNil
import Derived.Stop.LaidErr
import GoSem.ClaimData
namespace Go.Proofs.YbulkahrmFmt
open Go.RowKit
open Go.Extern.Stop Go.Stop Go.Extern
set_option linter.unusedVariables false

/-! ### The closed facts for a walk over fmt's stopped front, after the kit's own print for other dumps -/
theorem call14 (args : Array Value) (w : World) : (callFunc 14 args).run Ybaf.prog w = ((FmtStop.errorf #[9, 43] #[26] args).run Ybaf.prog w).andThen fun v w' => .ok (.value v) w' :=
  run_callFunc_extern Ybaf.func14 (by kernel_rfl) (by kernel_rfl) (by kernel_rfl) (by kernel_rfl) args w
theorem fguard (name : String) (w : World) : (FmtStop.guard name).run Ybaf.prog w = .ok () w := by kernel_rfl
theorem fmt0 : FmtStop.printed? ⟨#[110, 111, 116, 32, 37, 100, 32, 110, 117, 109, 98, 101, 114, 115, 58, 32, 37, 119]⟩ 2 = some [(0, 100, false), (1, 119, false)] := by kernel_rfl
theorem fmt0r (w : World) : (FmtDoors.printed ⟨#[110, 111, 116, 32, 37, 100, 32, 110, 117, 109, 98, 101, 114, 115, 58, 32, 37, 119]⟩ 2).run Ybaf.prog w = .ok [(0, 100, false), (1, 119, false)] w := by kernel_rfl
def shape3 : List UInt8 := [5, 3, 0, 0, 0, 0, 0, 0, 0, 105, 110, 116]
theorem op3_100w (name : String) (x : Int) (w : World) : (FmtStop.operand name true 100 false (.iface 3 (.int .i64 x))).run Ybaf.prog w = .ok (shape3, Go.Extern.Stop.digits 8 (x % 2 ^ 64).toNat) w := by kernel_rfl
theorem ptr46 (w : World) : (FmtStop.ptrTo "errors.errorString").run Ybaf.prog w = .ok 46 w := by kernel_rfl
theorem elem46 (w : World) : (elemOf 46).run Ybaf.prog w = .ok 48 w := by kernel_rfl
theorem isError46 (w : World) : (FmtDoors.textMethod 46 "Error").run Ybaf.prog w = .ok true w := by kernel_rfl
theorem ptr45 (w : World) : (FmtStop.ptrTo "fmt.wrapError").run Ybaf.prog w = .ok 45 w := by kernel_rfl
theorem elem45 (w : World) : (elemOf 45).run Ybaf.prog w = .ok 67 w := by kernel_rfl
theorem isError45 (w : World) : (FmtDoors.textMethod 45 "Error").run Ybaf.prog w = .ok true w := by kernel_rfl
/-- The sentinel as an operand: it reads as some shape and its text, out of memory. -/
theorem opPlain46 : ∃ sh : List UInt8, ∀ (name : String) (a : Addr) (s : ByteArray) (w : World), w.cell? a = some (.string s) →
    (FmtStop.operand name true 119 false (.iface 46 (.pointer (some a)))).run Ybaf.prog w = .ok (sh, s.data.toList) w := by
  refine ⟨14 :: FmtStop.pack ((Ybaf.prog.typeName? 3 46).getD default).toUTF8.data.toList, fun name a s w hc => ?_⟩
  have h1 : (typeStr 46).run Ybaf.prog w = .ok ((Ybaf.prog.typeName? 3 46).getD default) w := by kernel_rfl
  have d2 : Ybaf.t46.desc = .pointer 48 := rfl
  have d3 : Ybaf.t48.desc = .named "errors.errorString" 47 := rfl
  simp [FmtStop.operand, h1, d2, d3, run_load, hc]

attribute [local go_sem] call14 fguard fmt0 fmt0r op3_100w ptr46 elem46 isError46 ptr45 elem45 isError45

set_option maxRecDepth 100000 in
set_option maxHeartbeats 1000000 in
/-- fmt.Errorf of a number and of the sentinel: a new error, in new memory. -/
theorem errorf_any (F : Interp) (n : Int) (a : Addr) (s : ByteArray) (vb : Nat) (w : World) (hF : F.answers w.tape) (h0 : w.cell? ⟨vb, 0, none⟩ = some (.iface 3 (.int .i64 n))) (h1 : w.cell? ⟨vb, 1, none⟩ = some (.iface 46 (.pointer (some a)))) (hs : w.cell? a = some (.string s)) :
    Calls Ybaf.prog 11 #[.string ⟨#[110, 111, 116, 32, 37, 100, 32, 110, 117, 109, 98, 101, 114, 115, 58, 32, 37, 119]⟩, .slice (some ⟨vb, 0, none⟩) 2 2] w fun e w' =>
      ∃ p x, e = .returned (.iface 45 (.pointer (some p))) ∧ w' = (w.alloc x).drew := by
  obtain ⟨sh, hop0⟩ := opPlain46
  have hF' := answers_open hF
  have hop := hop0 "fmt.errorf" a s w hs
  clear hop0 hF
  go_enter Ybaf.func11, Ybaf.ntmps11
  go_wp2
  go_ret
  exact ⟨_, _, rfl, rfl⟩
end Go.Proofs.YbulkahrmFmt
