import Derived.Test.YbulkahouLaws
namespace Go.Proofs.Ybulkahou
open Go.RowKit
set_option linter.unusedVariables false

set_option maxRecDepth 100000 in
set_option maxHeartbeats 400000 in
theorem mod_long (a1 a2 : Option Addr) (n1 c1 n2 c2 : Nat) (w : World) (h : (600 : Int) < (n1 : Int) ∨ (600 : Int) < (n2 : Int)) :
    Calls Yba.prog 3 #[.slice a1 n1 c1, .slice a2 n2 c2] w fun e w' => e = .returned (.bool true) ∧ Below w.heap.size w w' := by
  by_cases h1 : (600 : Int) < (n1 : Int)
  · go_enter Yba.func3, Yba.ntmps3
    go_wp2
    go_ret
    exact ⟨rfl, Below.refl _ _⟩
  · have h2 : (600 : Int) < (n2 : Int) := by omega
    go_enter Yba.func3, Yba.ntmps3
    go_wp2
    go_ret
    exact ⟨rfl, Below.refl _ _⟩

set_option maxRecDepth 100000 in
set_option maxHeartbeats 1000000 in
theorem mod_short (a1 a2 : Option Addr) (n1 c1 n2 c2 b1 o1 b2 o2 : Nat) (xs ys : List Int) (w : World) (R1 : RowU w a1 n1 b1 o1 xs) (R2 : RowU w a2 n2 b2 o2 ys) (h1 : n1 ≤ 600) (h2 : n2 ≤ 600) :
    Calls Yba.prog 3 #[.slice a1 n1 c1, .slice a2 n2 c2] w fun e w' => e = .returned (.bool true) ∧ Below w.heap.size w w' := by
  have l1 := R1.len
  have l2 := R2.len
  have hs1 := lsB_ent xs ys (max n1 n2) (by omega) (by omega) R1.pos R2.pos
  have hs2 := lsB_ent ys xs (max n1 n2) (by omega) (by omega) R2.pos R1.pos
  clear l1 l2
  go_enter Yba.func3, Yba.ntmps3
  go_wp2_with fail
  refine (clock_ents a1 n1 c1 b1 o1 xs w R1 h1).mono ?_
  rintro e w1 ⟨a1', c1', g1, rfl, E1, hb1, hz1⟩
  generalize ent xs xs.length = A at E1 hs1 hs2
  generalize A.length = m1 at E1
  have HE1 := hide E1
  have HB1 := hide hb1
  have HS1 := hide hs1
  have HS2 := hide hs2
  clear E1 hb1 hs1 hs2
  go_wp2_with fail
  have R2' : RowU (w1.alloc (.cells #[.slice a1' m1 c1'] 25)) a2 n2 b2 o2 ys := R2.below ((unhide HB1).alloc (unhide HB1).size _) (Nat.le_refl _)
  refine (clock_ents a2 n2 c2 b2 o2 ys _ R2' h2).mono ?_
  rintro e w2 ⟨a2', c2', g2, rfl, E2, hb2, hz2⟩
  generalize ent ys ys.length = B at E2 HS1 HS2
  generalize B.length = m2 at E2
  have E1' : Ents w2 a1' m1 c1' g1 0 A := ((unhide HE1).below ((Below.refl _ w1).alloc (Nat.le_refl _) _) (unhide HE1).lt).below hb2 (Nat.lt_of_lt_of_le (unhide HE1).lt (by simp))
  have cA : w2.cell? ⟨w1.heap.size, 0, none⟩ = some (.slice a1' m1 c1') := (hb2.cell (by simp)).trans (by simp)
  have hlt : w1.heap.size < w2.heap.size := by have := hb2.size; simp at this; omega
  have HB2 := hide (((unhide HB1).alloc (unhide HB1).size _).trans (hb2.mono (by have := (unhide HB1).size; simp; omega)))
  have HE2 := hide E2
  have HE1' := hide E1'
  have HR1 := hide R1
  have HR2 := hide R2
  clear E1' E2 hb2 HE1 R2' R1 R2
  go_wp2_with fail
  have E1a : Ents (w2.alloc (.cells #[.slice a2' m2 c2'] 25)) a1' m1 c1' g1 0 A := (unhide HE1').below ((Below.refl _ w2).alloc (Nat.le_refl _) _) (unhide HE1').lt
  have E2a : Ents (w2.alloc (.cells #[.slice a2' m2 c2'] 25)) a2' m2 c2' g2 0 B := (unhide HE2).below ((Below.refl _ w2).alloc (Nat.le_refl _) _) (unhide HE2).lt
  have HBa : Hid (Below w.heap.size w (w2.alloc (.cells #[.slice a2' m2 c2'] 25))) := (unhide HB2).alloc (unhide HB2).size _
  generalize w2.alloc (.cells #[.slice a2' m2 c2'] 25) = W at *
  refine (compare_any a1' a2' m1 c1' g1 0 m2 c2' g2 0 A B W E1a E2a).mono ?_
  rw [unhide HS1, unhide HS2]
  rintro e w3 ⟨rfl, hb3⟩
  have HBb : Hid (Below w.heap.size w w3) := (unhide HBa).trans (hb3.mono (unhide HBa).size)
  have C9 := hide (model_any a1 a2 n1 c1 n2 c2 b1 o1 b2 o2 xs ys w3 ((unhide HR1).below (unhide HBb) (Nat.le_refl _)) ((unhide HR2).below (unhide HBb) (Nat.le_refl _)) h1 h2)
  clear E1a E2a HBa hb3 cA HE1' HE2 HB1 HB2 HR1 HR2 HS1 HS2
  generalize ordB (mB xs ys (max n1 n2)) (mB ys xs (max n1 n2)) = r at *
  go_wp2_with fail
  refine (unhide C9).mono ?_
  rintro e w4 ⟨rfl, rfl⟩
  go_wp2
  go_ret
  exact ⟨rfl, unhide HBb⟩
end Go.Proofs.Ybulkahou
