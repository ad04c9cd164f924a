import Derived.Test.YbulkahouPlain
namespace Go.Proofs.Ybulkahou
set_option linter.unusedVariables false

/-- What holds at the head of Compare's loop. -/
structure Inv (A B : List (Nat × Int)) (i j : Nat) (lb gb : Bool) : Prop where
  less : lsB A B = (lb || lsB (A.drop i) (B.drop j))
  greater : lsB B A = (gb || lsB (B.drop j) (A.drop i))

theorem Inv.zero (A B : List (Nat × Int)) : Inv A B 0 0 false false := ⟨rfl, rfl⟩

theorem Inv.both {A B : List (Nat × Int)} {i j : Nat} {lb gb : Bool} (h : Inv A B i j lb gb) (hA : Good A) (hB : Good B) (hi : i < A.length) (hj : j < B.length) (he : A[i].1 = B[j].1) :
    Inv A B (i + 1) (j + 1) (lb || decide (A[i].2 < B[j].2)) (gb || decide (B[j].2 < A[i].2)) := by
  have dA : A.drop i = A[i] :: A.drop (i + 1) := List.drop_eq_getElem_cons hi
  have dB : B.drop j = B[j] :: B.drop (j + 1) := List.drop_eq_getElem_cons hj
  have GA := hA.drop i
  have GB := hB.drop j
  have I1 := h.less
  have I2 := h.greater
  rw [dA, dB] at I1 I2
  rw [dA] at GA
  rw [dB] at GB
  generalize A[i] = p at *
  generalize B[j] = q at *
  obtain ⟨k, x⟩ := p
  obtain ⟨k', y⟩ := q
  simp only at he
  subst he
  rw [lsB_both GA GB] at I1
  rw [lsB_both GB GA] at I2
  exact ⟨by rw [I1, Bool.or_assoc], by rw [I2, Bool.or_assoc]⟩

theorem Inv.up {A B : List (Nat × Int)} {i j : Nat} {lb gb : Bool} (h : Inv A B i j lb gb) (hA : Good A) (hB : Good B) (hi : i < A.length) (hj : j < B.length) (he : A[i].1 < B[j].1) :
    Inv A B (i + 1 + cnt (A.drop (i + 1)) B[j].1) j lb true := by
  have dA : A.drop i = A[i] :: A.drop (i + 1) := List.drop_eq_getElem_cons hi
  have dB : B.drop j = B[j] :: B.drop (j + 1) := List.drop_eq_getElem_cons hj
  have GA := hA.drop i
  have GB := hB.drop j
  have I1 := h.less
  have I2 := h.greater
  have ed : A.drop (i + 1 + cnt (A.drop (i + 1)) B[j].1) = (A.drop i).drop (1 + cnt (A.drop (i + 1)) B[j].1) := by rw [List.drop_drop, Nat.add_assoc]
  have hc : 1 + cnt (A.drop (i + 1)) B[j].1 ≤ cnt (A.drop i) B[j].1 := by rw [dA, cnt_cons, if_pos he]; omega
  have hp := lsB_pass (m := 1 + cnt (A.drop (i + 1)) B[j].1) (k := B[j].1) (y := B[j].2) (B := B.drop (j + 1)) GA (by rw [← dB]; exact GB) hc
  have hab := lsB_above (j := A[i].1) (x := A[i].2) (k := B[j].1) (y := B[j].2) (A := A.drop (i + 1)) (B := B.drop (j + 1)) (by rw [← dA]; exact GA) (by rw [← dB]; exact GB) he
  refine ⟨?_, ?_⟩
  · rw [ed, I1]
    have : lsB ((A.drop i).drop (1 + cnt (A.drop (i + 1)) B[j].1)) (B.drop j) = lsB (A.drop i) (B.drop j) := by rw [dB]; exact hp
    rw [this]
  · rw [I2]
    have : lsB (B.drop j) (A.drop i) = true := by rw [dA, dB]; exact hab
    rw [this, Bool.or_true, Bool.true_or]

theorem Inv.swap {A B : List (Nat × Int)} {i j : Nat} {lb gb : Bool} (h : Inv A B i j lb gb) : Inv B A j i gb lb := ⟨h.greater, h.less⟩

theorem Inv.down {A B : List (Nat × Int)} {i j : Nat} {lb gb : Bool} (h : Inv A B i j lb gb) (hA : Good A) (hB : Good B) (hi : i < A.length) (hj : j < B.length) (he : B[j].1 < A[i].1) :
    Inv A B i (j + 1 + cnt (B.drop (j + 1)) A[i].1) true gb := (h.swap.up hB hA hj hi he).swap

theorem Inv.done {A B : List (Nat × Int)} {i j : Nat} {lb gb : Bool} (h : Inv A B i j lb gb) (hA : Good A) (hB : Good B) (hi : i ≤ A.length) (hj : j ≤ B.length) (he : ¬ (i < A.length ∧ j < B.length) ∨ (lb = true ∧ gb = true)) :
    lsB A B = (lb || decide (j < B.length)) ∧ lsB B A = (gb || decide (i < A.length)) := by
  have I1 := h.less
  have I2 := h.greater
  rcases he with he | ⟨rfl, rfl⟩
  · by_cases hi' : i < A.length
    · have hjl : B.drop j = [] := List.drop_eq_nil_of_le (by omega)
      rw [hjl, lsB_nil_right] at I1
      rw [hjl, lsB_nil_left (hA.drop i)] at I2
      refine ⟨?_, ?_⟩
      · rw [I1, decide_eq_false (show ¬ j < B.length by omega)]
      · rw [I2]; congr 2; simp; omega
    · have hil : A.drop i = [] := List.drop_eq_nil_of_le (by omega)
      rw [hil, lsB_nil_left (hB.drop j)] at I1
      rw [hil, lsB_nil_right] at I2
      refine ⟨?_, ?_⟩
      · rw [I1]; congr 2; simp; omega
      · rw [I2, decide_eq_false hi']
  · simp only [Bool.true_or] at I1 I2 ⊢
    exact ⟨I1, I2⟩
end Go.Proofs.Ybulkahou
