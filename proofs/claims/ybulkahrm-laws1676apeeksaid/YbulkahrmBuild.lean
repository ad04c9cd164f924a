import Derived.Test.YbulkahrmRows
import Derived.Test.YbulkahrmPlain
import Derived.WalkKit
import Derived.Below
import Derived.WalkLawsBesides
import Derived.WalkSpells
import Derived.OwnWalk
import Derived.Deep.AppendLies
namespace Go.Proofs.Ybulkahrm
open Go.RowKit
set_option linter.unusedVariables false

theorem hide {p : Prop} (h : p) : Hid p := h
theorem unhide {p : Prop} (h : Hid p) : p := h
theorem Yba.info31 : (Yba.prog.info? 31).map (fun i => (i.zero, i.size, i.bytes)) = some (some (.agg #[.int .u8 0, .string ⟨#[]⟩, .int .i64 0]), 3, 32) := by kernel_rfl

/-- The drawn tokens that came in. -/
structure RowT (w : World) (a : Option Addr) (n b o : Nat) (ts : List Tk) : Prop where
  len : ts.length = n
  at' : 0 < n → a = some ⟨b, o, none⟩
  lt : 0 < n → b < w.heap.size
  cell : ∀ i (hi : i < ts.length), w.cell? ⟨b, o + i * 3, none⟩ = some (.int .u8 ts[i].k) ∧ w.cell? ⟨b, o + i * 3 + 1, none⟩ = some (.string ts[i].s) ∧ w.cell? ⟨b, o + i * 3 + 2, none⟩ = some (.int .i64 ts[i].l)
  wf : ∀ t ∈ ts, 0 ≤ t.k ∧ t.k ≤ 255

theorem heap_new2 (w : World) (o1 o2 : Obj) : ((w.alloc o1).alloc o2).heap[w.heap.size + 1]? = some o2 := by
  have := heap_alloc_new (w.alloc o1) o2
  simpa using this

set_option maxRecDepth 100000 in
set_option maxHeartbeats 1000000 in
theorem build_any (a : Option Addr) (n c b o : Nat) (ts : List Tk) (el : Int) (w : World) (R : RowT w a n b o ts) (hn : n ≤ 1024) :
    Calls Yba.prog 5 #[.slice a n c, .int .i64 el] w fun e w' => ∃ g cap, e = .returned (.slice (some ⟨g, 0, none⟩) (n + 1) cap) ∧ w'.ownsRow w.heap.size 31 3 (.slice (some ⟨g, 0, none⟩) (n + 1) cap) (n + 1) (cellsT (built ts el)) ∧ Below w.heap.size w w' := by
  obtain ⟨i0, hi, hz0, hz1, hz2⟩ := info_parts Yba.info31
  go_enter Yba.func5, Yba.ntmps5
  go_wp2_with (at_make; refine wpList_make_own _ rfl _ _ 24 rfl w.heap.size 31 i0 (.agg #[.int .u8 0, .string ⟨#[]⟩, .int .i64 0]) 3 Yba.underlying24 hi hz0 hz1 .i64 .i64 ((n : Int) + 1) (n + 1) rfl rfl (by omega) (by rw [hz2]; omega) (by unfold maxLen; omega) (Nat.le_refl _) ?_; intro w1 hown hg)
  have hb1 : Below w.heap.size w w1 := (Below.refl _ w).grown hg (Nat.le_refl _) (by simp)
  clear hg
  go_loopw [5, 14] (fun v i wr => ∃ k : Nat, k ≤ n ∧ i = .int .i64 k ∧ wr.ownsRow w.heap.size 31 3 v k (cellsT (made ts k)) ∧ Below w.heap.size w wr) (fun _ i _ => n - (intOf i).toNat)
  case atStart => exact ⟨0, Nat.zero_le _, rfl, by rw [made_zero]; exact hown, hb1⟩
  case round =>
    obtain ⟨k, hk, rfl, hown', hb'⟩ := hrel
    clear hown hb1
    have hlenT := R.len
    by_cases hlt : k < n
    · have e1 := R.at' (by omega)
      have hbw := R.lt (by omega)
      have hsz := hb'.size
      have hkt : k < ts.length := by omega
      have hM := hide (made_succ ts k hkt)
      have c0 : wr.cell? ⟨b, o + k * 3, none⟩ = some (.int .u8 ts[k].k) := (hb'.cell (by exact hbw)).trans (R.cell k hkt).1
      have c1 : wr.cell? ⟨b, o + k * 3 + 1, none⟩ = some (.string ts[k].s) := (hb'.cell (by exact hbw)).trans (R.cell k hkt).2.1
      have c2 : wr.cell? ⟨b, o + k * 3 + 2, none⟩ = some (.int .i64 ts[k].l) := (hb'.cell (by exact hbw)).trans (R.cell k hkt).2.2
      have hw := R.wf _ (List.getElem_mem hkt)
      generalize ts[k].k = tk at c0 hM hw
      generalize ts[k].s = tx at c1 hM
      generalize ts[k].l = tl at c2 hM
      obtain ⟨hw0, hw1⟩ := hw
      subst e1
      clear R
      have HB := hide hb'
      clear hb'
      go_wp2_with (at_builtin; refine wpList_append_lies _ rfl _ _ 24 rfl w.heap.size 31 i0 (.agg #[.int .u8 0, .string ⟨#[]⟩, .int .i64 0]) 3 32 Yba.underlying24 hi hz0 hz1 hz2 rfl (by omega) u5 k (cellsT (made ts k)) rfl ((hown'.alloc _).alloc _) ⟨wr.heap.size + 1, 0, none⟩ 1 1 [.int .u8 (tk % 7), .string tx, .int .i64 tl] rfl rfl (World.news_of_block (cs := #[.int .u8 (tk % 7), .string tx, .int .i64 tl]) (t := 31) (fr := (0, 0)) (heap_new2 wr _ _)) (by simp [Value.oneCell']) (by omega) (by unfold maxLen; omega) (by omega) (by simp; omega) (wr.heap.size + 2) (by simp) ?_; intro g cap w2 hown2 hgrow hat hlt2)
      have hb2 : Below w.heap.size w w2 := (((unhide HB).alloc hsz _).alloc (by simp; omega) _).trans ⟨hgrow.os, hgrow.tape, hgrow.output, hgrow.size, fun i hi' => hgrow.block i (by simp; omega) (fun e => by have := (hown'.lt i e.symm).1; omega)⟩
      have HO := hide hown2
      have HB2 := hide hb2
      clear hown2 hb2 hgrow hat hown'
      go_wp2
      go_roundw
      case rel => exact ⟨k + 1, by omega, by go_num, by rw [unhide hM, cellsT_snoc]; exact unhide HO, unhide HB2⟩
      case measure => simp [intOf]; omega
    · obtain rfl : k = n := by omega
      have hM : built ts el = made ts k ++ [⟨0, ⟨#[]⟩, el⟩] := by rw [built, hlenT]
      have HM := hide hM
      have HB := hide hb'
      have hsz := hb'.size
      clear R hM hb' hlenT
      go_wp2_with (at_builtin; refine wpList_append_lies _ rfl _ _ 24 rfl w.heap.size 31 i0 (.agg #[.int .u8 0, .string ⟨#[]⟩, .int .i64 0]) 3 32 Yba.underlying24 hi hz0 hz1 hz2 rfl (by omega) u5 k (cellsT (made ts k)) rfl (hown'.alloc _) ⟨wr.heap.size, 0, none⟩ 1 1 [.int .u8 0, .string ⟨#[]⟩, .int .i64 el] rfl rfl (World.news_of_block (cs := #[.int .u8 0, .string ⟨#[]⟩, .int .i64 el]) (t := 31) (fr := (0, 0)) (heap_alloc_new wr _)) (by simp [Value.oneCell']) (by omega) (by unfold maxLen; omega) (by omega) (by simp; omega) (wr.heap.size + 1) (by simp) ?_; intro g cap w2 hown2 hgrow hat hlt2)
      have hb2 : Below w.heap.size w w2 := ((unhide HB).alloc hsz _).trans ⟨hgrow.os, hgrow.tape, hgrow.output, hgrow.size, fun i hi' => hgrow.block i (by simp; omega) (fun e => by have := (hown'.lt i e.symm).1; omega)⟩
      have HO := hide hown2
      have HB2 := hide hb2
      clear hown2 hb2 hgrow hat hown'
      go_wp2
      go_ret
      exact ⟨g, cap, rfl, by rw [unhide HM, cellsT_snoc]; exact unhide HO, unhide HB2⟩
end Go.Proofs.Ybulkahrm
