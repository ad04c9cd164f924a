import Derived.Test.YbulkahrmBuild
import Derived.StillTactics
import Derived.Laws.Pointers
import Derived.Deep.RegionHeld3
import Derived.Deep.DrawnRows
import Derived.Deep.QuietTactic
import Derived.BigQuiet
namespace Go.Proofs.Ybulkahrm
open Go.RowKit
set_option linter.unusedVariables false

/-- A row of tokens lies in memory from block g, offset o on. -/
def Toks (w : World) (g o : Nat) (ts : List Tk) : Prop :=
  ∀ i (hi : i < ts.length), w.cell? ⟨g, o + i * 3, none⟩ = some (.int .u8 ts[i].k) ∧ w.cell? ⟨g, o + i * 3 + 1, none⟩ = some (.string ts[i].s) ∧ w.cell? ⟨g, o + i * 3 + 2, none⟩ = some (.int .i64 ts[i].l)
theorem Toks.below {B : Nat} {w w' : World} {g o : Nat} {ts : List Tk} (h : Toks w g o ts) (hb : Below B w w') (hg : g < B) : Toks w' g o ts :=
  fun i hi => ⟨(hb.cell (by exact hg)).trans (h i hi).1, (hb.cell (by exact hg)).trans (h i hi).2.1, (hb.cell (by exact hg)).trans (h i hi).2.2⟩

/-- The parser's block. -/
def Pars (w : World) (pb g o n cap : Nat) (p : Nat) : Prop := w.heap[pb]? = some (.cells #[.slice (some ⟨g, o, none⟩) n cap, .int .i64 p] 28 (0, 0))
theorem Pars.c0 {w : World} {pb g o n cap p : Nat} (h : Pars w pb g o n cap p) : w.cell? ⟨pb, 0, none⟩ = some (.slice (some ⟨g, o, none⟩) n cap) := by unfold Pars at h; simp [World.cell?, h]
theorem Pars.c1 {w : World} {pb g o n cap p : Nat} (h : Pars w pb g o n cap p) : w.cell? ⟨pb, 1, none⟩ = some (.int .i64 p) := by unfold Pars at h; simp [World.cell?, h]
theorem Pars.f1 {w : World} {pb g o n cap p : Nat} (h : Pars w pb g o n cap p) : w.frozen? ⟨pb, 1, none⟩ = false := by unfold Pars at h; simp [World.frozen?, h]
theorem Pars.lt {w : World} {pb g o n cap p : Nat} (h : Pars w pb g o n cap p) : pb < w.heap.size := lt_of_block h
theorem Pars.below {B : Nat} {w w' : World} {pb g o n cap p : Nat} (h : Pars w pb g o n cap p) (hb : Below B w w') (hB : pb < B) : Pars w' pb g o n cap p := by
  unfold Pars; rw [hb.block pb hB]; exact h
theorem Pars.set {w : World} {pb g o n cap p : Nat} (h : Pars w pb g o n cap p) (q : Nat) : Pars (w.setCell ⟨pb, 1, none⟩ (.int .i64 q)) pb g o n cap q := by
  have hlt := lt_of_block h
  have h' : w.heap[pb] = .cells #[.slice (some ⟨g, o, none⟩) n cap, .int .i64 p] 28 (0, 0) := by
    have h2 := h
    unfold Pars at h2
    simpa [Array.getElem?_eq_getElem hlt] using h2
  show (w.heap.modify pb _)[pb]? = _
  rw [Array.getElem?_eq_getElem (by simpa using hlt), Array.getElem_modify_self, h']
  rfl

theorem grown_two (w : World) (x y : Obj) (row : Option Nat) : w.grownBy ((w.alloc x).alloc y).drew row :=
  ⟨rfl, rfl, rfl, by show w.heap.size ≤ ((w.alloc x).alloc y).heap.size; simp; omega, fun k hk hne => by
    show ((w.alloc x).alloc y).heap[k]? = _
    rw [Below.heap_alloc _ _ _ (by simp; omega), Below.heap_alloc _ _ _ hk]⟩
theorem grown_set (w : World) (pb q : Nat) (v : Value) (x y : Obj) : w.grownBy (((w.setCell ⟨pb, q, none⟩ v).alloc x).alloc y).drew (some pb) :=
  ⟨rfl, rfl, rfl, by show w.heap.size ≤ (((w.setCell ⟨pb, q, none⟩ v).alloc x).alloc y).heap.size; simp [World.setCell]; omega, fun k hk hne => by
    have hs : (w.setCell ⟨pb, q, none⟩ v).heap.size = w.heap.size := by simp [World.setCell]
    show (((w.setCell ⟨pb, q, none⟩ v).alloc x).alloc y).heap[k]? = _
    rw [Below.heap_alloc _ _ _ (by simp [hs]; omega), Below.heap_alloc _ _ _ (by omega), Below.heap_setCell _ _ _ _ (by simpa using hne)]⟩

set_option maxRecDepth 100000 in
set_option maxHeartbeats 1000000 in
theorem next_eof (pb g o n cap p : Nat) (s : ByteArray) (l : Int) (hp : p < n) (hn : n ≤ 2000) (w : World) (hP : Pars w pb g o n cap p) (hg : g < pb)
    (t0 : w.cell? ⟨g, o + p * 3, none⟩ = some (.int .u8 0)) (t1 : w.cell? ⟨g, o + p * 3 + 1, none⟩ = some (.string s)) (t2 : w.cell? ⟨g, o + p * 3 + 2, none⟩ = some (.int .i64 l)) :
    Calls Yba.prog 6 #[.pointer (some ⟨pb, 0, none⟩)] w fun e w' => e = .returned (.agg #[.int .u8 0, .string s, .int .i64 l]) ∧ Pars w' pb g o n cap p ∧ w.grownBy w' (some pb) := by
  have c0 := hP.c0
  have c1 := hP.c1
  have f1 := hP.f1
  have hlt := hP.lt
  have hgl : g < w.heap.size := by omega
  have Bp0 : (0 : Int) ≤ (p : Int) := Int.natCast_nonneg _
  have Bp1 : (p : Int) < (n : Int) := by omega
  have HP := hide hP
  clear hP
  go_enter Yba.func6, Yba.ntmps6
  go_wp2_with fail
  go_region_held3 (fun w' => w'.cell? ⟨pb, 0, none⟩ = some (.slice (some ⟨g, o, none⟩) n cap) ∧ w'.cell? ⟨pb, 1, none⟩ = some (.int .i64 p) ∧ w'.cell? ⟨g, o + p * 3, none⟩ = some (.int .u8 0) ∧ w'.cell? ⟨g, o + p * 3 + 1, none⟩ = some (.string s) ∧ w'.cell? ⟨g, o + p * 3 + 2, none⟩ = some (.int .i64 l)) (go_keep) (fail)
  go_wp2
  refine bodyPost_ret (v := .agg #[.int .u8 0, .string s, .int .i64 l]) (by simp [results, Yba.results6, go_sem]) rfl ⟨rfl, ?_, ?_⟩
  · exact (unhide HP).below (by exact (((Below.refl _ w).alloc (Nat.le_refl _) _).alloc (by simp) _).drew) hlt
  · exact grown_two _ _ _ _

set_option maxRecDepth 100000 in
set_option maxHeartbeats 1000000 in
theorem next_more (pb g o n cap p : Nat) (k : Int) (s : ByteArray) (l : Int) (hk : (k != 0) = true) (hp : p < n) (hn : n ≤ 2000) (w : World) (hP : Pars w pb g o n cap p) (hg : g < pb)
    (t0 : w.cell? ⟨g, o + p * 3, none⟩ = some (.int .u8 k)) (t1 : w.cell? ⟨g, o + p * 3 + 1, none⟩ = some (.string s)) (t2 : w.cell? ⟨g, o + p * 3 + 2, none⟩ = some (.int .i64 l)) :
    Calls Yba.prog 6 #[.pointer (some ⟨pb, 0, none⟩)] w fun e w' => e = .returned (.agg #[.int .u8 k, .string s, .int .i64 l]) ∧ Pars w' pb g o n cap (p + 1) ∧ w.grownBy w' (some pb) := by
  have c0 := hP.c0
  have c1 := hP.c1
  have f1 := hP.f1
  have hlt := hP.lt
  have hgl : g < w.heap.size := by omega
  have Bp0 : (0 : Int) ≤ (p : Int) := Int.natCast_nonneg _
  have Bp1 : (p : Int) < (n : Int) := by omega
  have HP := hide hP
  clear hP
  go_enter Yba.func6, Yba.ntmps6
  go_wp2_with fail
  go_region_held3 (fun w' => w'.cell? ⟨pb, 0, none⟩ = some (.slice (some ⟨g, o, none⟩) n cap) ∧ w'.cell? ⟨pb, 1, none⟩ = some (.int .i64 p) ∧ w'.cell? ⟨g, o + p * 3, none⟩ = some (.int .u8 k) ∧ w'.cell? ⟨g, o + p * 3 + 1, none⟩ = some (.string s) ∧ w'.cell? ⟨g, o + p * 3 + 2, none⟩ = some (.int .i64 l)) (go_keep) (fail)
  go_wp2
  refine bodyPost_ret (v := .agg #[.int .u8 k, .string s, .int .i64 l]) (by simp [results, Yba.results6, go_sem]) rfl ⟨rfl, ?_, ?_⟩
  · rw [show ((p : Int) + 1) = ((p + 1 : Nat) : Int) from by omega]
    exact ((unhide HP).set (p + 1)).below (by exact (((Below.refl _ _).alloc (Nat.le_refl _) _).alloc (by simp) _).drew) (by simp [World.setCell]; exact hlt)
  · exact grown_set _ _ _ _ _ _

set_option maxRecDepth 100000 in
set_option maxHeartbeats 1000000 in
theorem peek_any (pb g o n cap p : Nat) (k : Int) (s : ByteArray) (l : Int) (hp : p < n) (hn : n ≤ 2000) (w : World) (hP : Pars w pb g o n cap p) (hg : g < pb)
    (t0 : w.cell? ⟨g, o + p * 3, none⟩ = some (.int .u8 k)) (t1 : w.cell? ⟨g, o + p * 3 + 1, none⟩ = some (.string s)) (t2 : w.cell? ⟨g, o + p * 3 + 2, none⟩ = some (.int .i64 l)) :
    Calls Yba.prog 7 #[.pointer (some ⟨pb, 0, none⟩)] w fun e w' => e = .returned (.agg #[.int .u8 k, .string s, .int .i64 l]) ∧ Below w.heap.size w w' := by
  have c0 := hP.c0
  have c1 := hP.c1
  have hlt := hP.lt
  have hgl : g < w.heap.size := by omega
  have Bp0 : (0 : Int) ≤ (p : Int) := Int.natCast_nonneg _
  have Bp1 : (p : Int) < (n : Int) := by omega
  clear hP
  go_enter Yba.func7, Yba.ntmps7
  go_wp2_with fail
  go_region_held3 (fun w' => w'.cell? ⟨pb, 0, none⟩ = some (.slice (some ⟨g, o, none⟩) n cap) ∧ w'.cell? ⟨pb, 1, none⟩ = some (.int .i64 p) ∧ w'.cell? ⟨g, o + p * 3, none⟩ = some (.int .u8 k) ∧ w'.cell? ⟨g, o + p * 3 + 1, none⟩ = some (.string s) ∧ w'.cell? ⟨g, o + p * 3 + 2, none⟩ = some (.int .i64 l)) (go_keep) (fail)
  go_wp2
  refine bodyPost_ret (v := .agg #[.int .u8 k, .string s, .int .i64 l]) (by simp [results, Yba.results7, go_sem]) rfl ⟨rfl, ?_⟩
  exact ((Below.refl _ w).alloc (Nat.le_refl _) _).drew
end Go.Proofs.Ybulkahrm
