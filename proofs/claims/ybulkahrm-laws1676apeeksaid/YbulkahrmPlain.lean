import Derived.Laws.AppendOwn
namespace Go.Proofs.Ybulkahrm
set_option linter.unusedVariables false

/-- A token: its kind, its text, its line. -/
structure Tk where
  k : Int
  s : ByteArray
  l : Int

def cellsT (ts : List Tk) : List Value := ts.flatMap (fun t => [.int .u8 t.k, .string t.s, .int .i64 t.l])
theorem cellsT_snoc (ts : List Tk) (t : Tk) : cellsT (ts ++ [t]) = cellsT ts ++ [.int .u8 t.k, .string t.s, .int .i64 t.l] := by simp [cellsT]

theorem cellsT_at (A : List Tk) (i : Nat) (hi : i < A.length) : (cellsT A)[i * 3]? = some (.int .u8 A[i].k) ∧ (cellsT A)[i * 3 + 1]? = some (.string A[i].s) ∧ (cellsT A)[i * 3 + 2]? = some (.int .i64 A[i].l) := by
  induction A generalizing i with
  | nil => simp at hi
  | cons p A ih =>
    cases i with
    | zero => exact ⟨rfl, rfl, rfl⟩
    | succ i =>
      have := ih i (by simpa using hi)
      have e : (i + 1) * 3 = i * 3 + 3 := by omega
      rw [e]
      simpa [cellsT] using this

/-- The tokens that are made of the drawn ones: the first k of them. -/
def made (ts : List Tk) (k : Nat) : List Tk := (ts.take k).map (fun t => ⟨t.k % 7, t.s, t.l⟩)
theorem made_zero (ts : List Tk) : made ts 0 = [] := by simp [made]
theorem made_len (ts : List Tk) (k : Nat) (h : k ≤ ts.length) : (made ts k).length = k := by simp [made]; omega
theorem made_succ (ts : List Tk) (k : Nat) (h : k < ts.length) : made ts (k + 1) = made ts k ++ [⟨ts[k].k % 7, ts[k].s, ts[k].l⟩] := by
  unfold made; rw [List.take_succ_eq_append_getElem h, List.map_append]; rfl
def built (ts : List Tk) (el : Int) : List Tk := made ts ts.length ++ [⟨0, ⟨#[]⟩, el⟩]
theorem built_len (ts : List Tk) (el : Int) : (built ts el).length = ts.length + 1 := by simp [built, made_len]
theorem built_last (ts : List Tk) (el : Int) (h : ts.length < (built ts el).length) : (built ts el)[ts.length].k = 0 := by
  simp [built, made_len]
end Go.Proofs.Ybulkahrm
