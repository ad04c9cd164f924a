import Derived.Test.YbulkahouSeek2
namespace Go.Proofs.Ybulkahou
open Go.RowKit
set_option linter.unusedVariables false

/-- A row of counters that came in. -/
structure RowU (w : World) (a : Option Addr) (n : Nat) (b o : Nat) (xs : List Int) : Prop where
  len : xs.length = n
  at' : 0 < n → a = some ⟨b, o, none⟩
  lt : 0 < n → b < w.heap.size
  cell : ∀ i, i < n → w.cell? ⟨b, o + i, none⟩ = some (.int .u64 (xs.getD i 0))
  pos : ∀ x ∈ xs, 0 ≤ x

theorem RowU.below {B : Nat} {w w' : World} {a : Option Addr} {n b o : Nat} {xs : List Int} (h : RowU w a n b o xs) (hb : Below B w w') (hB : w.heap.size ≤ B) : RowU w' a n b o xs :=
  ⟨h.len, h.at', fun h0 => Nat.lt_of_lt_of_le (h.lt h0) hb.size, fun i hi => (hb.cell (by have := h.lt (by omega); show b < B; omega)).trans (h.cell i hi), h.pos⟩

theorem getD_nonneg (l : List Int) (hl : ∀ x ∈ l, 0 ≤ x) (k : Nat) : 0 ≤ l.getD k 0 := by
  by_cases h : k < l.length
  · rw [List.getD_eq_getElem?_getD, List.getElem?_eq_getElem h]; exact hl _ (List.getElem_mem h)
  · rw [getD_far l k (by omega)]; simp

theorem ordB_four {l g : Bool} (h1 : l = true) (h2 : g = true) : ordB l g = 4 := by subst h1 h2; rfl
theorem ordB_one {l g : Bool} (h1 : l = true) (h2 : g = false) : ordB l g = 1 := by subst h1 h2; rfl
theorem ordB_two {l g : Bool} (h1 : l = false) (h2 : g = true) : ordB l g = 2 := by subst h1 h2; rfl
theorem ordB_three {l g : Bool} (h1 : l = false) (h2 : g = false) : ordB l g = 3 := by subst h1 h2; rfl

set_option maxHeartbeats 1000000 in
theorem model_any (a1 a2 : Option Addr) (n1 c1 n2 c2 b1 o1 b2 o2 : Nat) (xs ys : List Int) (w : World) (R1 : RowU w a1 n1 b1 o1 xs) (R2 : RowU w a2 n2 b2 o2 ys) (h1 : n1 ≤ 600) (h2 : n2 ≤ 600) :
    Calls Yba.prog 9 #[.slice a1 n1 c1, .slice a2 n2 c2] w fun e w' => e = .returned (.int .i64 (ordB (mB xs ys (max n1 n2)) (mB ys xs (max n1 n2)))) ∧ w' = w := by
  go_enter Yba.func9, Yba.ntmps9
  go_wp2
  go_loop [5, 6, 8] (fun l g i => ∃ k : Nat, k ≤ max n1 n2 ∧ i = .int .i64 k ∧ l = .bool (mB xs ys k) ∧ g = .bool (mB ys xs k)) (fun _ _ i => max n1 n2 - (intOf i).toNat)
  case atStart => exact ⟨0, Nat.zero_le _, rfl, rfl, rfl⟩
  case round =>
    obtain ⟨k, hk, rfl, rfl, rfl⟩ := hrel
    by_cases hlt : k < max n1 n2
    · have s1 := mB_succ xs ys k
      have s2 := mB_succ ys xs k
      have p1 := getD_nonneg xs R1.pos k
      have p2 := getD_nonneg ys R2.pos k
      by_cases k1 : k < n1
      · have e1 := R1.at' (by omega)
        have g1 := R1.cell k k1
        by_cases k2 : k < n2
        · have e2 := R2.at' (by omega)
          have g2 := R2.cell k k2
          generalize xs.getD k 0 = x at g1 s1 s2 p1
          generalize ys.getD k 0 = y at g2 s1 s2 p2
          subst e1 e2
          clear R1 R2
          by_cases hxy : x < y
          · have S1 : Hid (mB xs ys (k + 1) = true) := by show _ = _; rw [s1, decide_eq_true (show x < y by omega), Bool.or_true]
            have S2 : Hid (mB ys xs (k + 1) = mB ys xs k) := by show _ = _; rw [s2, decide_eq_false (show ¬ y < x by omega), Bool.or_false]
            clear s1 s2
            go_wp2
            go_round
            case rel => exact ⟨k + 1, by omega, by go_num, by rw [S1.out], by rw [S2.out]⟩
            case measure => simp [intOf]; omega
          · by_cases hyx : y < x
            · have S1 : Hid (mB xs ys (k + 1) = mB xs ys k) := by show _ = _; rw [s1, decide_eq_false (show ¬ x < y by omega), Bool.or_false]
              have S2 : Hid (mB ys xs (k + 1) = true) := by show _ = _; rw [s2, decide_eq_true (show y < x by omega), Bool.or_true]
              clear s1 s2
              go_wp2
              go_round
              case rel => exact ⟨k + 1, by omega, by go_num, by rw [S1.out], by rw [S2.out]⟩
              case measure => simp [intOf]; omega
            · have S1 : Hid (mB xs ys (k + 1) = mB xs ys k) := by show _ = _; rw [s1, decide_eq_false (show ¬ x < y by omega), Bool.or_false]
              have S2 : Hid (mB ys xs (k + 1) = mB ys xs k) := by show _ = _; rw [s2, decide_eq_false (show ¬ y < x by omega), Bool.or_false]
              clear s1 s2
              go_wp2
              go_round
              case rel => exact ⟨k + 1, by omega, by go_num, by rw [S1.out], by rw [S2.out]⟩
              case measure => simp [intOf]; omega
        · have z := getD_far ys k (by have := R2.len; omega)
          rw [z] at s1 s2
          generalize xs.getD k 0 = x at g1 s1 s2 p1
          subst e1
          clear R1 R2 z
          by_cases hyx : 0 < x
          · have S1 : Hid (mB xs ys (k + 1) = mB xs ys k) := by show _ = _; rw [s1, decide_eq_false (show ¬ x < 0 by omega), Bool.or_false]
            have S2 : Hid (mB ys xs (k + 1) = true) := by show _ = _; rw [s2, decide_eq_true (show 0 < x by omega), Bool.or_true]
            clear s1 s2
            go_wp2
            go_round
            case rel => exact ⟨k + 1, by omega, by go_num, by rw [S1.out], by rw [S2.out]⟩
            case measure => simp [intOf]; omega
          · have S1 : Hid (mB xs ys (k + 1) = mB xs ys k) := by show _ = _; rw [s1, decide_eq_false (show ¬ x < 0 by omega), Bool.or_false]
            have S2 : Hid (mB ys xs (k + 1) = mB ys xs k) := by show _ = _; rw [s2, decide_eq_false (show ¬ 0 < x by omega), Bool.or_false]
            clear s1 s2
            go_wp2
            go_round
            case rel => exact ⟨k + 1, by omega, by go_num, by rw [S1.out], by rw [S2.out]⟩
            case measure => simp [intOf]; omega
      · have e2 := R2.at' (by omega)
        have g2 := R2.cell k (by omega)
        have z := getD_far xs k (by have := R1.len; omega)
        rw [z] at s1 s2
        generalize ys.getD k 0 = y at g2 s1 s2 p2
        subst e2
        clear R1 R2 z
        by_cases hxy : 0 < y
        · have S1 : Hid (mB xs ys (k + 1) = true) := by show _ = _; rw [s1, decide_eq_true (show 0 < y by omega), Bool.or_true]
          have S2 : Hid (mB ys xs (k + 1) = mB ys xs k) := by show _ = _; rw [s2, decide_eq_false (show ¬ y < 0 by omega), Bool.or_false]
          clear s1 s2
          go_wp2
          go_round
          case rel => exact ⟨k + 1, by omega, by go_num, by rw [S1.out], by rw [S2.out]⟩
          case measure => simp [intOf]; omega
        · have S1 : Hid (mB xs ys (k + 1) = mB xs ys k) := by show _ = _; rw [s1, decide_eq_false (show ¬ 0 < y by omega), Bool.or_false]
          have S2 : Hid (mB ys xs (k + 1) = mB ys xs k) := by show _ = _; rw [s2, decide_eq_false (show ¬ y < 0 by omega), Bool.or_false]
          clear s1 s2
          go_wp2
          go_round
          case rel => exact ⟨k + 1, by omega, by go_num, by rw [S1.out], by rw [S2.out]⟩
          case measure => simp [intOf]; omega
    · obtain rfl : k = max n1 n2 := by omega
      clear R1 R2
      generalize hl : mB xs ys (max n1 n2) = l
      generalize hg : mB ys xs (max n1 n2) = g
      have HL := hide hl
      have HG := hide hg
      clear hl hg
      cases l
      · cases g
        · go_wp2
          go_ret
          exact ⟨ret_int (ordB_three (unhide HL) (unhide HG)).symm, rfl⟩
        · go_wp2
          go_ret
          exact ⟨ret_int (ordB_two (unhide HL) (unhide HG)).symm, rfl⟩
      · cases g
        · go_wp2
          go_ret
          exact ⟨ret_int (ordB_one (unhide HL) (unhide HG)).symm, rfl⟩
        · go_wp2
          go_ret
          exact ⟨ret_int (ordB_four (unhide HL) (unhide HG)).symm, rfl⟩
end Go.Proofs.Ybulkahou
