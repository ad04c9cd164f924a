import Derived.Lib.Varint
import Derived.Lib.VarintDec
namespace Go.Proofs.YbulkahrmFmt
open Go
set_option linter.unusedVariables false

theorem u8_nat (a : Nat) (h : a < 256) : a.toUInt8.toNat = a := by simp [Nat.toUInt8]; omega

theorem pow7 (i : Nat) : 2 ^ (7 * (i + 1)) = 128 * 2 ^ (7 * i) := by
  rw [show 7 * (i + 1) = 7 * i + 7 by omega, Nat.pow_add, Nat.mul_comm]

/-- What is written is what is read. -/
theorem dec_enc (r : List UInt8) : ∀ (f x i acc : Nat), x ≤ f → i ≤ 9 → x * 2 ^ (7 * i) < 18446744073709551616 →
    Lib.uvarintFrom i acc (Lib.uvarint x ++ r) = (acc + x * 2 ^ (7 * i), (i : Int) + ((Lib.uvarint x).length : Int)) := by
  intro f
  induction f with
  | zero =>
    intro x i acc hx hi hb
    obtain rfl : x = 0 := by omega
    rw [Lib.uvarint_small (by omega)]
    simp only [List.cons_append, List.nil_append, Lib.uvarintFrom]
    rw [if_neg (by omega), if_pos (by decide), if_neg (by rintro ⟨_, h⟩; revert h; decide), u8_nat 0 (by omega)]
    simp
  | succ f ih =>
    intro x i acc hx hi hb
    by_cases h128 : x < 128
    · rw [Lib.uvarint_small h128]
      simp only [List.cons_append, List.nil_append, Lib.uvarintFrom]
      rw [u8_nat x (by omega), if_neg (by omega), if_pos h128, if_neg (by
        rintro ⟨rfl, h⟩
        have e : (2 : Nat) ^ (7 * 9) = 9223372036854775808 := by decide
        rw [e] at hb
        omega)]
      simp
    · rw [Lib.uvarint_big (by omega)]
      simp only [List.cons_append, Lib.uvarintFrom]
      have hi8 : i + 1 ≤ 9 := by
        rcases Nat.lt_or_ge i 9 with h | h
        · omega
        · obtain rfl : i = 9 := by omega
          have e : (2 : Nat) ^ (7 * 9) = 9223372036854775808 := by decide
          rw [e] at hb
          omega
      have hm : x / 128 * 2 ^ (7 * (i + 1)) + x % 128 * 2 ^ (7 * i) = x * 2 ^ (7 * i) := by
        rw [pow7, ← Nat.mul_assoc, ← Nat.add_mul]
        congr 1
        omega
      rw [u8_nat (x % 128 + 128) (by omega), if_neg (by omega), if_neg (by omega), show (x % 128 + 128) % 128 = x % 128 by omega]
      rw [ih (x / 128) (i + 1) _ (by omega) hi8 (by omega)]
      have e1 : acc + x % 128 * 2 ^ (7 * i) + x / 128 * 2 ^ (7 * (i + 1)) = acc + x * 2 ^ (7 * i) := by omega
      rw [e1]
      simp only [List.length_cons, Prod.mk.injEq, true_and]
      omega

theorem dec_enc0 (x : Nat) (r : List UInt8) (hx : x < 18446744073709551616) : Lib.uvarintDec (Lib.uvarint x ++ r) = (x, ((Lib.uvarint x).length : Int)) := by
  have := dec_enc r x x 0 0 (Nat.le_refl _) (by omega) (by simpa using hx)
  simpa [Lib.uvarintDec] using this

/-- The last byte lacks: nothing is read. -/
theorem dec_short : ∀ (f x i acc : Nat), x ≤ f → i ≤ 9 → x * 2 ^ (7 * i) < 18446744073709551616 → Lib.uvarintFrom i acc (Lib.uvarint x).dropLast = (0, 0) := by
  intro f
  induction f with
  | zero =>
    intro x i acc hx hi hb
    rw [Lib.uvarint_small (by omega)]
    rfl
  | succ f ih =>
    intro x i acc hx hi hb
    by_cases h128 : x < 128
    · rw [Lib.uvarint_small h128]
      rfl
    · have hp := Lib.uvarint_pos (x / 128)
      have hne : Lib.uvarint (x / 128) ≠ [] := fun h => by rw [h] at hp; simp at hp
      rw [Lib.uvarint_big (by omega), List.dropLast_cons_of_ne_nil hne]
      simp only [Lib.uvarintFrom]
      have hi8 : i + 1 ≤ 9 := by
        rcases Nat.lt_or_ge i 9 with h | h
        · omega
        · obtain rfl : i = 9 := by omega
          have e : (2 : Nat) ^ (7 * 9) = 9223372036854775808 := by decide
          rw [e] at hb
          omega
      have hm : x / 128 * 2 ^ (7 * (i + 1)) + x % 128 * 2 ^ (7 * i) = x * 2 ^ (7 * i) := by
        rw [pow7, ← Nat.mul_assoc, ← Nat.add_mul]
        congr 1
        omega
      rw [u8_nat (x % 128 + 128) (by omega), if_neg (by omega), if_neg (by omega)]
      exact ih (x / 128) (i + 1) _ (by omega) hi8 (by omega)

theorem dec_short0 (x : Nat) (hx : x < 18446744073709551616) : Lib.uvarintDec (Lib.uvarint x).dropLast = (0, 0) := by
  have := dec_short x x 0 0 (Nat.le_refl _) (by omega) (by simpa using hx)
  simpa [Lib.uvarintDec] using this
end Go.Proofs.YbulkahrmFmt
