import Derived.Test.YbulkahrmFmtReader
import Derived.Laws.OwnMore
import Derived.Deep.AppendLies
import Derived.Deep.QuietTactic
import Derived.BigQuiet
namespace Go.Proofs.YbulkahrmFmt
open Go.RowKit
set_option linter.unusedVariables false

theorem Ybaf.info5 : (Ybaf.prog.info? 5).map (fun i => (i.zero, i.size, i.bytes)) = some (some (.int .u8 0), 1, 1) := by kernel_rfl
theorem Ybaf.info29 : (Ybaf.prog.info? 29).map (fun i => (i.zero, i.size, i.bytes)) = some (some (.int .u64 0), 1, 8) := by kernel_rfl

/-- The numbers' varints, one behind the other. -/
def encB (xs : List Nat) : List UInt8 := xs.flatMap Lib.uvarint
theorem encB_nil : encB [] = [] := rfl
theorem encB_snoc (xs : List Nat) (k : Nat) (hk : k < xs.length) : encB (xs.take (k + 1)) = encB (xs.take k) ++ Lib.uvarint xs[k] := by
  unfold encB; rw [List.take_succ_eq_append_getElem hk, List.flatMap_append]; simp
theorem encB_drop (xs : List Nat) (k : Nat) (hk : k < xs.length) : encB (xs.drop k) = Lib.uvarint xs[k] ++ encB (xs.drop (k + 1)) := by
  unfold encB; rw [List.drop_eq_getElem_cons hk, List.flatMap_cons]
theorem encB_len (xs : List Nat) (h : ∀ x ∈ xs, x < 18446744073709551616) : (encB xs).length ≤ 10 * xs.length := by
  induction xs with
  | nil => simp [encB]
  | cons x xs ih =>
    have h1 := Lib.uvarint_length64 (h x (by simp))
    have h2 := ih (fun y hy => h y (by simp [hy]))
    simp only [encB, List.flatMap_cons, List.length_append, List.length_cons] at h2 ⊢
    omega

/-- A row of uint64 that came in. -/
structure RowN (w : World) (a : Option Addr) (n b o : Nat) (xs : List Nat) : Prop where
  len : xs.length = n
  at' : 0 < n → a = some ⟨b, o, none⟩
  lt : 0 < n → b < w.heap.size
  cell : ∀ i (hi : i < xs.length), w.cell? ⟨b, o + i, none⟩ = some (.int .u64 xs[i])
  wf : ∀ x ∈ xs, x < 18446744073709551616

theorem RowN.below {B : Nat} {w w' : World} {a : Option Addr} {n b o : Nat} {xs : List Nat} (h : RowN w a n b o xs) (hb : Below B w w') (hB : w.heap.size ≤ B) : RowN w' a n b o xs :=
  ⟨h.len, h.at', fun h0 => Nat.lt_of_lt_of_le (h.lt h0) hb.size, fun i hi => (hb.cell (by have := h.lt (by have := h.len; omega); show b < B; omega)).trans (h.cell i hi), h.wf⟩

set_option maxRecDepth 100000 in
set_option maxHeartbeats 1000000 in
theorem encode_any (a : Option Addr) (n c b o : Nat) (xs : List Nat) (w : World) (R : RowN w a n b o xs) (hn : n ≤ 1024) :
    Calls Ybaf.prog 5 #[.slice a n c] w fun e w' => ∃ v, e = .returned v ∧ w'.ownsRow w.heap.size 5 1 v (encB xs).length (Lib.byteCells (encB xs)) ∧ Below w.heap.size w w' := by
  go_enter Ybaf.func5, Ybaf.ntmps5
  go_wp2
  go_loopw [3, 4] (fun v i wr => ∃ k : Nat, k ≤ n ∧ i = .int .i64 k ∧ wr.ownsRow w.heap.size 5 1 v (encB (xs.take k)).length (Lib.byteCells (encB (xs.take k))) ∧ Below w.heap.size w wr) (fun _ i _ => n - (intOf i).toNat)
  case atStart => exact ⟨0, Nat.zero_le _, rfl, World.ownsRow_nil _ _ _ _, Below.refl _ _⟩
  case round =>
    obtain ⟨k, hk, rfl, hown, hb⟩ := hrel
    have hlen := R.len
    by_cases hlt : k < n
    · have hkx : k < xs.length := by omega
      have e1 := R.at' (by omega)
      have hx := R.wf _ (List.getElem_mem hkx)
      have c0 : wr.cell? ⟨b, o + k, none⟩ = some (.int .u64 xs[k]) := (hb.cell (by exact R.lt (by omega))).trans (R.cell k hkx)
      have hl := encB_len (xs.take k) (fun x hx => R.wf x (List.mem_of_mem_take hx))
      have hl2 : (xs.take k).length ≤ k := List.length_take_le _ _
      have E := hide (encB_snoc xs k hkx)
      have C := hide (Ybaf.binary_AppendUvarint w.heap.size (encB (xs.take k)).length xs[k] hx u3 (Lib.byteCells (encB (xs.take k))) wr hown hb.size (by omega))
      have HB := hide hb
      subst e1
      clear R hown hb
      generalize xs[k] = x at *
      go_wp2_with fail
      refine (unhide C).mono ?_
      rintro e w1 ⟨v1, rfl, hown1, hb1⟩
      have HO := hide hown1
      have HB1 := hide hb1
      clear hown1 hb1 C
      go_wp2
      go_roundw
      case rel => exact ⟨k + 1, by omega, by go_num, by rw [unhide E, List.length_append, show Lib.byteCells (encB (xs.take k) ++ Lib.uvarint x) = Lib.byteCells (encB (xs.take k)) ++ Lib.byteCells (Lib.uvarint x) by simp [Lib.byteCells]]; exact unhide HO, (unhide HB).trans (unhide HB1)⟩
      case measure => simp [intOf]; omega
    · have e : xs.take k = xs := List.take_of_length_le (by omega)
      rw [e] at hown
      have HO := hide hown
      have HB := hide hb
      clear R hown hb e
      go_wp2
      go_ret
      exact ⟨_, rfl, unhide HO, unhide HB⟩
end Go.Proofs.YbulkahrmFmt
