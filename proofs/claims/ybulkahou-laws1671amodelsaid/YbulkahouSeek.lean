import Derived.Test.YbulkahouName
namespace Go.Proofs.Ybulkahou
open Go.RowKit

/-- A row of entries lies in memory from block g, offset o on. -/
def Lies (w : World) (g o : Nat) (es : List (Nat × Int)) : Prop :=
  ∀ i (hi : i < es.length), w.cell? ⟨g, o + i * 2, none⟩ = some (.string (nm es[i].1)) ∧ w.cell? ⟨g, o + i * 2 + 1, none⟩ = some (.int .u64 es[i].2)

theorem Lies.below {B : Nat} {w w' : World} {g o : Nat} {es : List (Nat × Int)} (h : Lies w g o es) (hb : Below B w w') (hg : g < B) : Lies w' g o es :=
  fun i hi => ⟨(hb.cell (by exact hg)).trans (h i hi).1, (hb.cell (by exact hg)).trans (h i hi).2⟩
theorem Lies.alloc {w : World} {g o : Nat} {es : List (Nat × Int)} (h : Lies w g o es) (hg : g < w.heap.size) (x : Obj) : Lies (w.alloc x) g o es :=
  h.below ((Below.refl w.heap.size w).alloc (Nat.le_refl _) x) hg

theorem ret_pair {a b : Int} {v : Value} (h : a = b) : Ending.returned (.tuple #[.int .i64 a, v]) = .returned (.tuple #[.int .i64 b, v]) := by rw [h]
theorem cmpN_neg {i j : Nat} (h : i < j) : cmpN i j < 0 := by unfold cmpN; rw [if_pos h]; decide
theorem cmpN_nonneg {i j : Nat} (h : ¬ i < j) : 0 ≤ cmpN i j := by unfold cmpN; rw [if_neg h]; split <;> decide

set_option maxHeartbeats 400000 in
theorem bsearch_any (g o n c : Nat) (es : List (Nat × Int)) (t : Nat) (hG : Good es) (hn : es.length = n) (hn' : n ≤ 676) (ht : t < 676) (w : World) (hL : Lies w g o es) (hg : g < w.heap.size) :
    Calls Yba.prog 14 #[.slice (some ⟨g, o, none⟩) n c, .string (nm t), .func (Fn.func 15) #[] #[]] w fun e w' => ∃ b, e = .returned (.tuple #[.int .i64 (cnt es t), .bool b]) ∧ Below w.heap.size w w' := by
  go_enter Yba.func14, Yba.ntmps14
  go_wp2
  go_loopw [9, 10] (fun i j wr => ∃ a b : Nat, a ≤ cnt es t ∧ cnt es t ≤ b ∧ b ≤ n ∧ i = .int .i64 a ∧ j = .int .i64 b ∧ Below w.heap.size w wr) (fun i j _ => (intOf j - intOf i).toNat)
  case atStart => exact ⟨0, n, Nat.zero_le _, hn ▸ cnt_le es t, Nat.le_refl _, rfl, rfl, Below.refl _ _⟩
  case round =>
    obtain ⟨a, b, ha, hb, hbn, rfl, rfl, hB⟩ := hrel
    have HB : Hid (Below w.heap.size w wr) := hB
    have HL := hL.below hB hg
    clear hB hL
    by_cases hab : a < b
    · have hm : (a + b) / 2 < es.length := by omega
      have c0 := (HL _ hm).1
      have c1 := (HL _ hm).2
      have hkey := hG.key _ (List.getElem_mem hm)
      have hci := cnt_iff hG t _ hm
      generalize es[(a + b) / 2].1 = k at c0 hkey hci
      generalize es[(a + b) / 2].2 = v at c1
      clear HL hn
      by_cases hkt : k < t
      · have hlt := hci.1 hkt
        have hc := cmpN_neg hkt
        clear hci hm
        go_wp2_with (go_at_call 15; refine (closure_any k t v hkey ht _).mono ?_; rintro e w' ⟨rfl, x, rfl⟩)
        go_roundw
        case rel => exact ⟨(a + b) / 2 + 1, b, by omega, hb, hbn, by go_num, rfl, HB.out.alloc HB.out.size _⟩
        case measure => simp [intOf]; omega
      · have hlt : ¬ (a + b) / 2 < cnt es t := fun h => hkt (hci.2 h)
        have hc := cmpN_nonneg hkt
        clear hci hm
        go_wp2_with (go_at_call 15; refine (closure_any k t v hkey ht _).mono ?_; rintro e w' ⟨rfl, x, rfl⟩)
        go_roundw
        case rel => exact ⟨a, (a + b) / 2, ha, by omega, by omega, rfl, by go_num, HB.out.alloc HB.out.size _⟩
        case measure => simp [intOf]; omega
    · have e : a = cnt es t := by omega
      by_cases han : a < n
      · have hm : a < es.length := by omega
        have c0 := (HL _ hm).1
        have c1 := (HL _ hm).2
        have hkey := hG.key _ (List.getElem_mem hm)
        generalize es[a].1 = k at c0 hkey
        generalize es[a].2 = v at c1
        clear HL hn
        have E : Hid ((a : Int) = ((cnt es t : Nat) : Int)) := by show (a : Int) = _; rw [e]
        clear e
        go_wp2_with (go_at_call 15; refine (closure_any k t v hkey ht _).mono ?_; rintro e w' ⟨rfl, x, rfl⟩)
        go_ret2
        exact ⟨_, ret_pair E.out, HB.out.alloc HB.out.size _⟩
      · have E : Hid ((a : Int) = ((cnt es t : Nat) : Int)) := by show (a : Int) = _; rw [e]
        clear e
        clear HL hn
        go_wp2
        go_ret2
        exact ⟨_, ret_pair E.out, HB.out⟩

set_option maxHeartbeats 400000 in
theorem index_any (g o n c : Nat) (es : List (Nat × Int)) (t : Nat) (hG : Good es) (hn : es.length = n) (hn' : n ≤ 676) (ht : t < 676) (w : World) (hL : Lies w g o es) (hg : g < w.heap.size) :
    Calls Yba.prog 13 #[.agg #[.slice (some ⟨g, o, none⟩) n c], .string (nm t)] w fun e w' => ∃ b, e = .returned (.tuple #[.int .i64 (cnt es t), .bool b]) ∧ Below w.heap.size w w' := by
  have hL' := fun x => hL.alloc hg x
  go_enter Yba.func13, Yba.ntmps13
  go_wp2_with fail
  refine (bsearch_any g o n c es t hG hn hn' ht _ (hL' _) (by simp; omega)).mono ?_
  rintro e w1 ⟨b, rfl, hb⟩
  have HB : Hid (Below w.heap.size w w1) := ((Below.refl _ w).alloc (Nat.le_refl _) _).trans (hb.mono (by simp))
  clear hb
  go_wp2
  go_ret2
  exact ⟨b, rfl, HB.out⟩

end Go.Proofs.Ybulkahou
