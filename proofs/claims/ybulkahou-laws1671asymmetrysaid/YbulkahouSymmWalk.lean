import Derived.Test.YbulkahouLaws
namespace Go.Proofs.Ybulkahou
open Go.RowKit
set_option linter.unusedVariables false

set_option maxRecDepth 100000 in
set_option maxHeartbeats 400000 in
theorem symm_long (a1 a2 : Option Addr) (n1 c1 n2 c2 : Nat) (w : World) (h : (600 : Int) < (n1 : Int) ∨ (600 : Int) < (n2 : Int)) :
    Calls Yba.prog 4 #[.slice a1 n1 c1, .slice a2 n2 c2] w fun e w' => e = .returned (.bool true) ∧ Below w.heap.size w w' := by
  by_cases h1 : (600 : Int) < (n1 : Int)
  · go_enter Yba.func4, Yba.ntmps4
    go_wp2
    go_ret
    exact ⟨rfl, Below.refl _ _⟩
  · have h2 : (600 : Int) < (n2 : Int) := by omega
    go_enter Yba.func4, Yba.ntmps4
    go_wp2
    go_ret
    exact ⟨rfl, Below.refl _ _⟩

set_option maxRecDepth 100000 in
set_option maxHeartbeats 1000000 in
theorem symm_short (a1 a2 : Option Addr) (n1 c1 n2 c2 b1 o1 b2 o2 : Nat) (xs ys : List Int) (w : World) (R1 : RowU w a1 n1 b1 o1 xs) (R2 : RowU w a2 n2 b2 o2 ys) (h1 : n1 ≤ 600) (h2 : n2 ≤ 600) :
    Calls Yba.prog 4 #[.slice a1 n1 c1, .slice a2 n2 c2] w fun e w' => e = .returned (.bool true) ∧ Below w.heap.size w w' := by
  have hs := lsB_self xs R1.pos
  go_enter Yba.func4, Yba.ntmps4
  go_wp2_with fail
  refine (clock_ents a1 n1 c1 b1 o1 xs w R1 h1).mono ?_
  rintro e w1 ⟨a1', c1', g1, rfl, E1, hb1, hz1⟩
  generalize ent xs xs.length = A at E1 hs
  generalize A.length = m1 at E1
  have HE1 := hide E1
  have HB1 := hide hb1
  clear E1 hb1
  go_wp2_with fail
  have R2' : RowU (w1.alloc (.cells #[.slice a1' m1 c1'] 25)) a2 n2 b2 o2 ys := R2.below ((unhide HB1).alloc (unhide HB1).size _) (Nat.le_refl _)
  refine (clock_ents a2 n2 c2 b2 o2 ys _ R2' h2).mono ?_
  rintro e w2 ⟨a2', c2', g2, rfl, E2, hb2, hz2⟩
  generalize ent ys ys.length = B at E2
  generalize B.length = m2 at E2
  have E1' : Ents w2 a1' m1 c1' g1 0 A := ((unhide HE1).below ((Below.refl _ w1).alloc (Nat.le_refl _) _) (unhide HE1).lt).below hb2 (Nat.lt_of_lt_of_le (unhide HE1).lt (by simp))
  have cA : w2.cell? ⟨w1.heap.size, 0, none⟩ = some (.slice a1' m1 c1') := (hb2.cell (by simp)).trans (by simp)
  have hlt : w1.heap.size < w2.heap.size := by have := hb2.size; simp at this; omega
  have HB2 := hide (((unhide HB1).alloc (unhide HB1).size _).trans (hb2.mono (by have := (unhide HB1).size; simp; omega)))
  have HE2 := hide E2
  have HE1' := hide E1'
  clear E1' E2 hb2 HE1 R2' R1 R2
  go_wp2_with fail
  have hz2' : w2.heap.size < (w2.alloc (.cells #[.slice a2' m2 c2'] 25)).heap.size := by simp
  have E1a : Ents (w2.alloc (.cells #[.slice a2' m2 c2'] 25)) a1' m1 c1' g1 0 A := (unhide HE1').below ((Below.refl _ w2).alloc (Nat.le_refl _) _) (unhide HE1').lt
  have E2a : Ents (w2.alloc (.cells #[.slice a2' m2 c2'] 25)) a2' m2 c2' g2 0 B := (unhide HE2).below ((Below.refl _ w2).alloc (Nat.le_refl _) _) (unhide HE2).lt
  have HBa : Hid (Below w.heap.size w (w2.alloc (.cells #[.slice a2' m2 c2'] 25))) := (unhide HB2).alloc (unhide HB2).size _
  have cAa : (w2.alloc (.cells #[.slice a2' m2 c2'] 25)).cell? ⟨w1.heap.size, 0, none⟩ = some (.slice a1' m1 c1') := (((Below.refl _ w2).alloc (Nat.le_refl _) _).cell (by exact hlt)).trans cA
  have cBa : (w2.alloc (.cells #[.slice a2' m2 c2'] 25)).cell? ⟨w2.heap.size, 0, none⟩ = some (.slice a2' m2 c2') := by simp
  generalize w2.alloc (.cells #[.slice a2' m2 c2'] 25) = W at *
  refine (compare_any a1' a2' m1 c1' g1 0 m2 c2' g2 0 A B W E1a E2a).mono ?_
  rintro e w3 ⟨rfl, hb3⟩
  have E1b := E1a.below hb3 E1a.lt
  have E2b := E2a.below hb3 E2a.lt
  have cAb : w3.cell? ⟨w1.heap.size, 0, none⟩ = some (.slice a1' m1 c1') := (hb3.cell (by show w1.heap.size < W.heap.size; omega)).trans cAa
  have cBb : w3.cell? ⟨w2.heap.size, 0, none⟩ = some (.slice a2' m2 c2') := (hb3.cell (by exact hz2')).trans cBa
  have HBb : Hid (Below w.heap.size w w3) := (unhide HBa).trans (hb3.mono (unhide HBa).size)
  have C2 := hide (compare_any a2' a1' m2 c2' g2 0 m1 c1' g1 0 B A w3 E2b E1b)
  have HE1b := hide E1b
  have hsz3 : w2.heap.size < w3.heap.size := Nat.lt_of_lt_of_le hz2' hb3.size
  clear E1a E2a E1b E2b cAa cBa HBa hb3 cA HE1' HE2 HB1 HB2
  obtain ⟨p, q, hp, hq, hpq⟩ : ∃ p q : Int, ordB (lsB A B) (lsB B A) = p ∧ ordB (lsB B A) (lsB A B) = q ∧ ((p = 4 ∧ q = 4) ∨ (p = 1 ∧ q = 2) ∨ (p = 2 ∧ q = 1) ∨ (p = 3 ∧ q = 3)) := by
    refine ⟨_, _, rfl, rfl, ?_⟩
    generalize lsB A B = l
    generalize lsB B A = g
    cases l <;> cases g <;> simp [ordB]
  rw [hp]
  rw [hq] at C2
  have HS : Hid (lsB A A = false) := hs
  clear hp hq hs
  rcases hpq with ⟨rfl, rfl⟩ | ⟨rfl, rfl⟩ | ⟨rfl, rfl⟩ | ⟨rfl, rfl⟩
  all_goals
    go_wp2_with fail
    refine (unhide C2).mono ?_
    rintro e w4 ⟨rfl, hb4⟩
    have cAc : w4.cell? ⟨w1.heap.size, 0, none⟩ = some (.slice a1' m1 c1') := (hb4.cell (by show w1.heap.size < w3.heap.size; omega)).trans cAb
    have E1c := (unhide HE1b).below hb4 (unhide HE1b).lt
    have HBc : Hid (Below w.heap.size w w4) := (unhide HBb).trans (hb4.mono (unhide HBb).size)
    have C3 := compare_any a1' a1' m1 c1' g1 0 m1 c1' g1 0 A A w4 E1c E1c
    rw [unhide HS] at C3
    have C3' := hide C3
    clear C3 C2 cAb cBb HBb hb4 E1c HE1b
    go_wp2_with fail
    refine (unhide C3').mono ?_
    rintro e w5 ⟨he, hb5⟩
    have he' : e = .returned (.int .i64 3) := he
    subst he'
    have HBd : Hid (Below w.heap.size w w5) := (unhide HBc).trans (hb5.mono (unhide HBc).size)
    clear he hb5 HBc C3' cAc
    go_wp2
    go_ret
    exact ⟨rfl, unhide HBd⟩
end Go.Proofs.Ybulkahou
