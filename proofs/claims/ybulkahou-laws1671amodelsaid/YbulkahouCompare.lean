import Derived.Test.YbulkahouClock
import Derived.Test.YbulkahouPlain2
import Derived.Deep.QuietTactic
import Derived.BigQuiet
namespace Go.Proofs.Ybulkahou
open Go.RowKit
set_option linter.unusedVariables false

/-- A slice of entries. -/
structure Ents (w : World) (a : Option Addr) (n c g o : Nat) (es : List (Nat × Int)) : Prop where
  len : es.length = n
  good : Good es
  at' : 0 < n → a = some ⟨g, o, none⟩
  lt : g < w.heap.size
  lies : Lies w g o es
  n676 : n ≤ 676
  nc : n ≤ c
  cm : c ≤ maxLen

/-- seek from the next entry on, in whatever later world. -/
theorem seek_next {wr : World} {g o n c : Nat} {es : List (Nat × Int)} (L : Lies wr g o es) (hG : Good es) (hlen : es.length = n) (hn : n ≤ 676) (hc : n ≤ c) (hm : c ≤ maxLen) (hg : g < wr.heap.size) (i : Nat) (hi : i < n) (t : Nat) (ht : t < 676) :
    ∀ ao W, (0 < n - (i + 1) → ao = some ⟨g, o + (i + 1) * 2, none⟩) → Below wr.heap.size wr W →
      Calls Yba.prog 12 #[.slice ao (n - (i + 1)) (c - (i + 1)), .string (nm t)] W fun e w' => e = .returned (.int .i64 (cnt (es.drop (i + 1)) t)) ∧ Below wr.heap.size wr w' := by
  intro ao W hao hW
  have hl : Lies wr g (o + (i + 1) * 2) (es.drop (i + 1)) := by
    have := L.mid (i + 1) es.length
    rwa [List.take_of_length_le (by simp)] at this
  refine (seek_any ao g (o + (i + 1) * 2) (n - (i + 1)) (c - (i + 1)) (es.drop (i + 1)) t hao (hG.drop _) (by simp; omega) (by omega) (by omega) (by unfold maxLen at *; omega) ht W (fun _ => hl.below hW hg) (Nat.lt_of_lt_of_le hg hW.size)).mono ?_
  rintro e w' ⟨rfl, hb⟩
  exact ⟨rfl, hW.trans (hb.mono hW.size)⟩

theorem ordB_of {a b l g : Bool} (h1 : a = l) (h2 : b = g) : ordB a b = ordB l g := by rw [h1, h2]

set_option maxRecDepth 100000 in
set_option maxHeartbeats 4000000 in
theorem compare_any (a1 a2 : Option Addr) (n1 c1 g1 o1 n2 c2 g2 o2 : Nat) (A B : List (Nat × Int)) (w : World) (E1 : Ents w a1 n1 c1 g1 o1 A) (E2 : Ents w a2 n2 c2 g2 o2 B) :
    Calls Yba.prog 8 #[.agg #[.slice a1 n1 c1], .agg #[.slice a2 n2 c2]] w fun e w' => e = .returned (.int .i64 (ordB (lsB A B) (lsB B A))) ∧ Below w.heap.size w w' := by
  go_enter Yba.func8, Yba.ntmps8
  go_wp2
  go_quiet (fail)
  go_wp2
  go_loopw [5, 6, 9, 10] (fun l g vi vj wr => ∃ i j : Nat, ∃ lb gb : Bool, i ≤ n1 ∧ j ≤ n2 ∧ vi = .int .i64 i ∧ vj = .int .i64 j ∧ l = .bool lb ∧ g = .bool gb ∧ Inv A B i j lb gb ∧ Below w.heap.size w wr)
    (fun _ _ vi vj _ => (n1 - (intOf vi).toNat) + (n2 - (intOf vj).toNat))
  case atStart => exact ⟨0, 0, false, false, Nat.zero_le _, Nat.zero_le _, rfl, rfl, rfl, rfl, Inv.zero _ _, below_drewN (((Below.refl _ w).alloc (Nat.le_refl _) _).alloc (by simp) _) _⟩
  case round =>
    obtain ⟨i, j, lb, gb, hi, hj, rfl, rfl, rfl, rfl, inv, hb⟩ := hrel
    have hn1 := E1.n676
    have hn2 := E2.n676
    have hdone := inv.done E1.good E2.good (by have := E1.len; omega) (by have := E2.len; omega)
    rw [E1.len, E2.len] at hdone
    by_cases hx : i < n1 ∧ j < n2
    · obtain ⟨hi1, hj1⟩ := hx
      have hiA : i < A.length := by have := E1.len; omega
      have hjB : j < B.length := by have := E2.len; omega
      have e1 := E1.at' (by omega)
      have e2 := E2.at' (by omega)
      have L1 := E1.lies.below hb E1.lt
      have L2 := E2.lies.below hb E2.lt
      have p0 := (L1 i hiA).1
      have p1 := (L1 i hiA).2
      have q0 := (L2 j hjB).1
      have q1 := (L2 j hjB).2
      have kA := E1.good.key _ (List.getElem_mem hiA)
      have kB := E2.good.key _ (List.getElem_mem hjB)
      have hboth := inv.both E1.good E2.good hiA hjB
      have hup := inv.up E1.good E2.good hiA hjB
      have hdown := inv.down E1.good E2.good hiA hjB
      have neq := nm_eq A[i].1 B[j].1 kA kB
      have nls := nm_less A[i].1 B[j].1 kA kB
      have Bi0 : (0 : Int) ≤ (i : Int) := Int.natCast_nonneg _
      have Bi1 : (i : Int) < (n1 : Int) := by omega
      have Bj0 : (0 : Int) ≤ (j : Int) := Int.natCast_nonneg _
      have Bj1 : (j : Int) < (n2 : Int) := by omega
      by_cases hboo : lb = true ∧ gb = true
      · obtain ⟨rfl, rfl⟩ := hboo
        have hd := hdone (Or.inr ⟨rfl, rfl⟩)
        have H1 := hide hd.1
        have H2 := hide hd.2
        have HB := hide hb
        clear hd hdone hboth hup hdown neq nls kA kB L1 L2 E1 E2 hb inv p0 p1 q0 q1 e1 e2
        go_wp2
        go_ret
        exact ⟨ret_int (ordB_of (unhide H1) (unhide H2)).symm, unhide HB⟩
      · clear hdone
        subst e1 e2
        rcases Nat.lt_trichotomy A[i].1 B[j].1 with hk | hk | hk
        · have inv' := hide (hup hk)
          have hkb : ((nm A[i].1).toList == (nm B[j].1).toList) = false := by rw [neq]; simp; omega
          have hkl : Op.bytesLess (nm A[i].1).toList (nm B[j].1).toList = true := by rw [nls]; simp; omega
          have hg1 : g1 < wr.heap.size := Nat.lt_of_lt_of_le E1.lt hb.size
          have hg2 : g2 < wr.heap.size := Nat.lt_of_lt_of_le E2.lt hb.size
          have HS := hide (seek_next L1 E1.good E1.len E1.n676 E1.nc E1.cm hg1 i hi1 B[j].1 kB)
          have hlen : (A.drop (i + 1)).length = n1 - (i + 1) := by have := E1.len; simp; omega
          have hcle := cnt_le (A.drop (i + 1)) B[j].1
          have hc1 := E1.nc
          have hm1 := E1.cm
          unfold maxLen at hm1
          rw [hlen] at hcle
          clear hboth hup hdown neq nls kA kB L1 L2 E1 E2 hlen
          generalize cnt (A.drop (i + 1)) B[j].1 = m at *
          generalize A[i].1 = k1 at *
          generalize A[i].2 = x at *
          generalize B[j].1 = k2 at *
          generalize B[j].2 = y at *
          have HB := hide hb
          have Ci : (i : Int) + 1 ≤ (n1 : Int) := by omega
          have Cn : (n1 : Int) ≤ (c1 : Int) := by omega
          clear hb inv hk
          have Cw : IntKind.i64.wrap ((i : Int) + 1) = (i : Int) + 1 := by rw [IntKind.wrap_i64] <;> omega
          have C0 : (0 : Int) ≤ (i : Int) + 1 := by omega
          have Cm : IntKind.i64.wrap (1 + (m : Int)) = 1 + (m : Int) := by rw [IntKind.wrap_i64] <;> omega
          have Cs : IntKind.i64.wrap ((i : Int) + (1 + (m : Int))) = (i : Int) + (1 + (m : Int)) := by rw [IntKind.wrap_i64] <;> omega
          by_cases hce : c1 = i + 1
          · obtain rfl : n1 = i + 1 := by omega
            obtain rfl : m = 0 := by omega
            subst hce
            clear HS Cm Cs
            have Cm : IntKind.i64.wrap 1 = 1 := by rw [IntKind.wrap_i64] <;> omega
            cases lb <;> cases gb
            · go_wp2
              go_quiet (fail)
              go_wp2
              go_quiet (fail)
              go_wp2_with fail
              go_region_held3 (fun w' => w'.cell? ⟨g2, o2 + j * 2, none⟩ = some (.string (nm k2))) (first | (go_keep; done) | assumption) (first | (go_at_call 12; refine (seek_none _ _ _ _).mono ?_; rintro e w2 ⟨rfl, rfl⟩))
              go_wp2
              go_roundw
              case rel => exact ⟨i + 1, j, _, _, by omega, hj, by go_num, rfl, rfl, rfl, unhide inv', by repeat (first | exact unhide HB | refine Below.drew ?_ | refine below_drewN ?_ _)⟩
              case measure => simp [intOf] <;> omega
            · go_wp2
              go_quiet (fail)
              go_wp2
              go_quiet (fail)
              go_wp2_with fail
              go_region_held3 (fun w' => w'.cell? ⟨g2, o2 + j * 2, none⟩ = some (.string (nm k2))) (first | (go_keep; done) | assumption) (first | (go_at_call 12; refine (seek_none _ _ _ _).mono ?_; rintro e w2 ⟨rfl, rfl⟩))
              go_wp2
              go_roundw
              case rel => exact ⟨i + 1, j, _, _, by omega, hj, by go_num, rfl, rfl, rfl, unhide inv', by repeat (first | exact unhide HB | refine Below.drew ?_ | refine below_drewN ?_ _)⟩
              case measure => simp [intOf] <;> omega
            · go_wp2
              go_quiet (fail)
              go_wp2
              go_quiet (fail)
              go_wp2_with fail
              go_region_held3 (fun w' => w'.cell? ⟨g2, o2 + j * 2, none⟩ = some (.string (nm k2))) (first | (go_keep; done) | assumption) (first | (go_at_call 12; refine (seek_none _ _ _ _).mono ?_; rintro e w2 ⟨rfl, rfl⟩))
              go_wp2
              go_roundw
              case rel => exact ⟨i + 1, j, _, _, by omega, hj, by go_num, rfl, rfl, rfl, unhide inv', by repeat (first | exact unhide HB | refine Below.drew ?_ | refine below_drewN ?_ _)⟩
              case measure => simp [intOf] <;> omega
            · exact absurd ⟨rfl, rfl⟩ hboo
          cases lb <;> cases gb
          · go_wp2
            go_quiet (fail)
            go_wp2
            go_quiet (fail)
            go_wp2_with fail
            go_region_held3 (fun w' => w'.cell? ⟨g2, o2 + j * 2, none⟩ = some (.string (nm k2))) (first | (go_keep; done) | (rw [hb2.cell (by exact hg2)]; assumption)) (first | (go_at_call 12; refine (unhide HS _ _ (by intro h; rfl) (by repeat (first | exact Below.refl _ _ | refine Below.drew ?_ | refine below_drewN ?_ _))).mono ?_; rintro e w2 ⟨rfl, hb2⟩))
            have HB2 := hide hb2
            clear hb2
            go_wp2
            go_roundw
            case rel => exact ⟨i + 1 + m, j, _, _, by omega, hj, by go_num, rfl, rfl, rfl, unhide inv', (unhide HB).trans ((unhide HB2).mono (unhide HB).size)⟩
            case measure => simp [intOf] <;> omega
          · go_wp2
            go_quiet (fail)
            go_wp2
            go_quiet (fail)
            go_wp2_with fail
            go_region_held3 (fun w' => w'.cell? ⟨g2, o2 + j * 2, none⟩ = some (.string (nm k2))) (first | (go_keep; done) | (rw [hb2.cell (by exact hg2)]; assumption)) (first | (go_at_call 12; refine (unhide HS _ _ (by intro h; rfl) (by repeat (first | exact Below.refl _ _ | refine Below.drew ?_ | refine below_drewN ?_ _))).mono ?_; rintro e w2 ⟨rfl, hb2⟩))
            have HB2 := hide hb2
            clear hb2
            go_wp2
            go_roundw
            case rel => exact ⟨i + 1 + m, j, _, _, by omega, hj, by go_num, rfl, rfl, rfl, unhide inv', (unhide HB).trans ((unhide HB2).mono (unhide HB).size)⟩
            case measure => simp [intOf] <;> omega
          · go_wp2
            go_quiet (fail)
            go_wp2
            go_quiet (fail)
            go_wp2_with fail
            go_region_held3 (fun w' => w'.cell? ⟨g2, o2 + j * 2, none⟩ = some (.string (nm k2))) (first | (go_keep; done) | (rw [hb2.cell (by exact hg2)]; assumption)) (first | (go_at_call 12; refine (unhide HS _ _ (by intro h; rfl) (by repeat (first | exact Below.refl _ _ | refine Below.drew ?_ | refine below_drewN ?_ _))).mono ?_; rintro e w2 ⟨rfl, hb2⟩))
            have HB2 := hide hb2
            clear hb2
            go_wp2
            go_roundw
            case rel => exact ⟨i + 1 + m, j, _, _, by omega, hj, by go_num, rfl, rfl, rfl, unhide inv', (unhide HB).trans ((unhide HB2).mono (unhide HB).size)⟩
            case measure => simp [intOf] <;> omega
          · exact absurd ⟨rfl, rfl⟩ hboo
        · have inv' := hide (hboth hk)
          have hkb : ((nm A[i].1).toList == (nm B[j].1).toList) = true := by rw [neq]; simpa using hk
          clear hboth hup hdown neq nls kA kB L1 L2 E1 E2
          generalize A[i].1 = k1 at *
          generalize A[i].2 = x at *
          generalize B[j].1 = k2 at *
          generalize B[j].2 = y at *
          have HB := hide hb
          clear hb inv hk
          cases lb <;> cases gb
          · rcases Int.lt_trichotomy x y with hxy | hxy | hxy
            · have hxy2 : decide (x < y) = true := by simp; omega
              have hyx2 : decide (y < x) = false := by simp; omega
              rw [hxy2, hyx2] at inv'
              go_wp2
              go_quiet (fail)
              go_wp2
              go_quiet (fail)
              go_wp2
              go_quiet (fail)
              go_wp2
              go_roundw
              case rel => exact ⟨i + 1, j + 1, _, _, by omega, by omega, by go_num, by go_num, rfl, rfl, unhide inv', below_drewN (unhide HB) _⟩
              case measure => simp [intOf]; omega
            · have hxy2 : decide (x < y) = false := by simp; omega
              have hyx2 : decide (y < x) = false := by simp; omega
              rw [hxy2, hyx2] at inv'
              go_wp2
              go_quiet (fail)
              go_wp2
              go_quiet (fail)
              go_wp2
              go_quiet (fail)
              go_wp2
              go_roundw
              case rel => exact ⟨i + 1, j + 1, _, _, by omega, by omega, by go_num, by go_num, rfl, rfl, unhide inv', below_drewN (unhide HB) _⟩
              case measure => simp [intOf]; omega
            · have hxy2 : decide (x < y) = false := by simp; omega
              have hyx2 : decide (y < x) = true := by simp; omega
              rw [hxy2, hyx2] at inv'
              go_wp2
              go_quiet (fail)
              go_wp2
              go_quiet (fail)
              go_wp2
              go_quiet (fail)
              go_wp2
              go_roundw
              case rel => exact ⟨i + 1, j + 1, _, _, by omega, by omega, by go_num, by go_num, rfl, rfl, unhide inv', below_drewN (unhide HB) _⟩
              case measure => simp [intOf]; omega
          · rcases Int.lt_trichotomy x y with hxy | hxy | hxy
            · have hxy2 : decide (x < y) = true := by simp; omega
              have hyx2 : decide (y < x) = false := by simp; omega
              rw [hxy2, hyx2] at inv'
              go_wp2
              go_quiet (fail)
              go_wp2
              go_quiet (fail)
              go_wp2
              go_quiet (fail)
              go_wp2
              go_roundw
              case rel => exact ⟨i + 1, j + 1, _, _, by omega, by omega, by go_num, by go_num, rfl, rfl, unhide inv', below_drewN (unhide HB) _⟩
              case measure => simp [intOf]; omega
            · have hxy2 : decide (x < y) = false := by simp; omega
              have hyx2 : decide (y < x) = false := by simp; omega
              rw [hxy2, hyx2] at inv'
              go_wp2
              go_quiet (fail)
              go_wp2
              go_quiet (fail)
              go_wp2
              go_quiet (fail)
              go_wp2
              go_roundw
              case rel => exact ⟨i + 1, j + 1, _, _, by omega, by omega, by go_num, by go_num, rfl, rfl, unhide inv', below_drewN (unhide HB) _⟩
              case measure => simp [intOf]; omega
            · have hxy2 : decide (x < y) = false := by simp; omega
              have hyx2 : decide (y < x) = true := by simp; omega
              rw [hxy2, hyx2] at inv'
              go_wp2
              go_quiet (fail)
              go_wp2
              go_quiet (fail)
              go_wp2
              go_quiet (fail)
              go_wp2
              go_roundw
              case rel => exact ⟨i + 1, j + 1, _, _, by omega, by omega, by go_num, by go_num, rfl, rfl, unhide inv', below_drewN (unhide HB) _⟩
              case measure => simp [intOf]; omega
          · rcases Int.lt_trichotomy x y with hxy | hxy | hxy
            · have hxy2 : decide (x < y) = true := by simp; omega
              have hyx2 : decide (y < x) = false := by simp; omega
              rw [hxy2, hyx2] at inv'
              go_wp2
              go_quiet (fail)
              go_wp2
              go_quiet (fail)
              go_wp2
              go_quiet (fail)
              go_wp2
              go_roundw
              case rel => exact ⟨i + 1, j + 1, _, _, by omega, by omega, by go_num, by go_num, rfl, rfl, unhide inv', below_drewN (unhide HB) _⟩
              case measure => simp [intOf]; omega
            · have hxy2 : decide (x < y) = false := by simp; omega
              have hyx2 : decide (y < x) = false := by simp; omega
              rw [hxy2, hyx2] at inv'
              go_wp2
              go_quiet (fail)
              go_wp2
              go_quiet (fail)
              go_wp2
              go_quiet (fail)
              go_wp2
              go_roundw
              case rel => exact ⟨i + 1, j + 1, _, _, by omega, by omega, by go_num, by go_num, rfl, rfl, unhide inv', below_drewN (unhide HB) _⟩
              case measure => simp [intOf]; omega
            · have hxy2 : decide (x < y) = false := by simp; omega
              have hyx2 : decide (y < x) = true := by simp; omega
              rw [hxy2, hyx2] at inv'
              go_wp2
              go_quiet (fail)
              go_wp2
              go_quiet (fail)
              go_wp2
              go_quiet (fail)
              go_wp2
              go_roundw
              case rel => exact ⟨i + 1, j + 1, _, _, by omega, by omega, by go_num, by go_num, rfl, rfl, unhide inv', below_drewN (unhide HB) _⟩
              case measure => simp [intOf]; omega
          · exact absurd ⟨rfl, rfl⟩ hboo
        · have inv' := hide (hdown hk)
          have hkb : ((nm A[i].1).toList == (nm B[j].1).toList) = false := by rw [neq]; simp; omega
          have hkl : Op.bytesLess (nm A[i].1).toList (nm B[j].1).toList = false := by rw [nls]; simp; omega
          have hg1 : g1 < wr.heap.size := Nat.lt_of_lt_of_le E1.lt hb.size
          have hg2 : g2 < wr.heap.size := Nat.lt_of_lt_of_le E2.lt hb.size
          have HS := hide (seek_next L2 E2.good E2.len E2.n676 E2.nc E2.cm hg2 j hj1 A[i].1 kA)
          have hlen : (B.drop (j + 1)).length = n2 - (j + 1) := by have := E2.len; simp; omega
          have hcle := cnt_le (B.drop (j + 1)) A[i].1
          have hc1 := E2.nc
          have hm1 := E2.cm
          unfold maxLen at hm1
          rw [hlen] at hcle
          clear hboth hup hdown neq nls kA kB L1 L2 E1 E2 hlen
          generalize cnt (B.drop (j + 1)) A[i].1 = m at *
          generalize A[i].1 = k1 at *
          generalize A[i].2 = x at *
          generalize B[j].1 = k2 at *
          generalize B[j].2 = y at *
          have HB := hide hb
          have Ci : (j : Int) + 1 ≤ (n2 : Int) := by omega
          have Cn : (n2 : Int) ≤ (c2 : Int) := by omega
          clear hb inv hk
          have Cw : IntKind.i64.wrap ((j : Int) + 1) = (j : Int) + 1 := by rw [IntKind.wrap_i64] <;> omega
          have C0 : (0 : Int) ≤ (j : Int) + 1 := by omega
          have Cm : IntKind.i64.wrap (1 + (m : Int)) = 1 + (m : Int) := by rw [IntKind.wrap_i64] <;> omega
          have Cs : IntKind.i64.wrap ((j : Int) + (1 + (m : Int))) = (j : Int) + (1 + (m : Int)) := by rw [IntKind.wrap_i64] <;> omega
          by_cases hce : c2 = j + 1
          · obtain rfl : n2 = j + 1 := by omega
            obtain rfl : m = 0 := by omega
            subst hce
            clear HS Cm Cs
            have Cm : IntKind.i64.wrap 1 = 1 := by rw [IntKind.wrap_i64] <;> omega
            cases lb <;> cases gb
            · go_wp2
              go_quiet (fail)
              go_wp2
              go_quiet (fail)
              go_wp2_with fail
              go_region_held3 (fun w' => w'.cell? ⟨g1, o1 + i * 2, none⟩ = some (.string (nm k1))) (first | (go_keep; done) | assumption) (first | (go_at_call 12; refine (seek_none _ _ _ _).mono ?_; rintro e w2 ⟨rfl, rfl⟩))
              go_wp2
              go_roundw
              case rel => exact ⟨i, j + 1, _, _, hi, by omega, rfl, by go_num, rfl, rfl, unhide inv', by repeat (first | exact unhide HB | refine Below.drew ?_ | refine below_drewN ?_ _)⟩
              case measure => simp [intOf] <;> omega
            · go_wp2
              go_quiet (fail)
              go_wp2
              go_quiet (fail)
              go_wp2_with fail
              go_region_held3 (fun w' => w'.cell? ⟨g1, o1 + i * 2, none⟩ = some (.string (nm k1))) (first | (go_keep; done) | assumption) (first | (go_at_call 12; refine (seek_none _ _ _ _).mono ?_; rintro e w2 ⟨rfl, rfl⟩))
              go_wp2
              go_roundw
              case rel => exact ⟨i, j + 1, _, _, hi, by omega, rfl, by go_num, rfl, rfl, unhide inv', by repeat (first | exact unhide HB | refine Below.drew ?_ | refine below_drewN ?_ _)⟩
              case measure => simp [intOf] <;> omega
            · go_wp2
              go_quiet (fail)
              go_wp2
              go_quiet (fail)
              go_wp2_with fail
              go_region_held3 (fun w' => w'.cell? ⟨g1, o1 + i * 2, none⟩ = some (.string (nm k1))) (first | (go_keep; done) | assumption) (first | (go_at_call 12; refine (seek_none _ _ _ _).mono ?_; rintro e w2 ⟨rfl, rfl⟩))
              go_wp2
              go_roundw
              case rel => exact ⟨i, j + 1, _, _, hi, by omega, rfl, by go_num, rfl, rfl, unhide inv', by repeat (first | exact unhide HB | refine Below.drew ?_ | refine below_drewN ?_ _)⟩
              case measure => simp [intOf] <;> omega
            · exact absurd ⟨rfl, rfl⟩ hboo
          cases lb <;> cases gb
          · go_wp2
            go_quiet (fail)
            go_wp2
            go_quiet (fail)
            go_wp2_with fail
            go_region_held3 (fun w' => w'.cell? ⟨g1, o1 + i * 2, none⟩ = some (.string (nm k1))) (first | (go_keep; done) | (rw [hb2.cell (by exact hg1)]; assumption)) (first | (go_at_call 12; refine (unhide HS _ _ (by intro h; rfl) (by repeat (first | exact Below.refl _ _ | refine Below.drew ?_ | refine below_drewN ?_ _))).mono ?_; rintro e w2 ⟨rfl, hb2⟩))
            have HB2 := hide hb2
            clear hb2
            go_wp2
            go_roundw
            case rel => exact ⟨i, j + 1 + m, _, _, hi, by omega, rfl, by go_num, rfl, rfl, unhide inv', (unhide HB).trans ((unhide HB2).mono (unhide HB).size)⟩
            case measure => simp [intOf] <;> omega
          · go_wp2
            go_quiet (fail)
            go_wp2
            go_quiet (fail)
            go_wp2_with fail
            go_region_held3 (fun w' => w'.cell? ⟨g1, o1 + i * 2, none⟩ = some (.string (nm k1))) (first | (go_keep; done) | (rw [hb2.cell (by exact hg1)]; assumption)) (first | (go_at_call 12; refine (unhide HS _ _ (by intro h; rfl) (by repeat (first | exact Below.refl _ _ | refine Below.drew ?_ | refine below_drewN ?_ _))).mono ?_; rintro e w2 ⟨rfl, hb2⟩))
            have HB2 := hide hb2
            clear hb2
            go_wp2
            go_roundw
            case rel => exact ⟨i, j + 1 + m, _, _, hi, by omega, rfl, by go_num, rfl, rfl, unhide inv', (unhide HB).trans ((unhide HB2).mono (unhide HB).size)⟩
            case measure => simp [intOf] <;> omega
          · go_wp2
            go_quiet (fail)
            go_wp2
            go_quiet (fail)
            go_wp2_with fail
            go_region_held3 (fun w' => w'.cell? ⟨g1, o1 + i * 2, none⟩ = some (.string (nm k1))) (first | (go_keep; done) | (rw [hb2.cell (by exact hg1)]; assumption)) (first | (go_at_call 12; refine (unhide HS _ _ (by intro h; rfl) (by repeat (first | exact Below.refl _ _ | refine Below.drew ?_ | refine below_drewN ?_ _))).mono ?_; rintro e w2 ⟨rfl, hb2⟩))
            have HB2 := hide hb2
            clear hb2
            go_wp2
            go_roundw
            case rel => exact ⟨i, j + 1 + m, _, _, hi, by omega, rfl, by go_num, rfl, rfl, unhide inv', (unhide HB).trans ((unhide HB2).mono (unhide HB).size)⟩
            case measure => simp [intOf] <;> omega
          · exact absurd ⟨rfl, rfl⟩ hboo
    · have hd := hdone (Or.inl hx)
      clear hdone
      rcases (show (i < n1 ∧ ¬ j < n2) ∨ (¬ i < n1 ∧ j < n2) ∨ (¬ i < n1 ∧ ¬ j < n2) by omega) with ⟨hi1, hj1⟩ | ⟨hi1, hj1⟩ | ⟨hi1, hj1⟩
      · have di : decide (i < n1) = true := by simp; omega
        have dj : decide (j < n2) = false := by simp; omega
        rw [di, dj] at hd
        have H1 := hide hd.1
        have H2 := hide hd.2
        have HB := hide hb
        clear hd E1 E2 hb inv di dj
        cases lb <;> cases gb
        all_goals
          go_wp2
          go_ret
          exact ⟨ret_int (ordB_of (unhide H1) (unhide H2)).symm, unhide HB⟩
      · have di : decide (i < n1) = false := by simp; omega
        have dj : decide (j < n2) = true := by simp; omega
        rw [di, dj] at hd
        have H1 := hide hd.1
        have H2 := hide hd.2
        have HB := hide hb
        clear hd E1 E2 hb inv di dj
        cases lb <;> cases gb
        all_goals
          go_wp2
          go_ret
          exact ⟨ret_int (ordB_of (unhide H1) (unhide H2)).symm, unhide HB⟩
      · have di : decide (i < n1) = false := by simp; omega
        have dj : decide (j < n2) = false := by simp; omega
        rw [di, dj] at hd
        have H1 := hide hd.1
        have H2 := hide hd.2
        have HB := hide hb
        clear hd E1 E2 hb inv di dj
        cases lb <;> cases gb
        all_goals
          go_wp2
          go_ret
          exact ⟨ret_int (ordB_of (unhide H1) (unhide H2)).symm, unhide HB⟩
end Go.Proofs.Ybulkahou
