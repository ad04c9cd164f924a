import Derived.Test.YbulkahouModel
import Derived.WalkSpells
import Derived.StillTactics
import Derived.OwnWalk
import Derived.Laws.Pointers
import Derived.Deep.RegionHeld3
import Derived.Deep.AppendLies
import Derived.Deep.DrawnRows
namespace Go.Proofs.Ybulkahou
open Go.RowKit
set_option linter.unusedVariables false

theorem Yba.info58 : (Yba.prog.info? 58).map (fun i => (i.zero, i.size, i.bytes)) = some (some (.agg #[.string ⟨#[]⟩, .int .u64 0]), 2, 24) := by kernel_rfl

def cellsE (es : List (Nat × Int)) : List Value := es.flatMap (fun p => [.string (nm p.1), .int .u64 p.2])
theorem cellsE_snoc (es : List (Nat × Int)) (k : Nat) (x : Int) : cellsE (es ++ [(k, x)]) = cellsE es ++ [.string (nm k), .int .u64 x] := by simp [cellsE]

theorem heap_new2 (w : World) (o1 o2 : Obj) : ((w.alloc o1).alloc o2).heap[w.heap.size + 1]? = some o2 := by
  have := heap_alloc_new (w.alloc o1) o2
  simpa using this

theorem own_slice {w : World} {base : Nat} {e : TypeId} {size : Nat} {v : Value} {n : Nat} {xs : List Value} (h : w.ownsRow base e size v n xs) : ∃ ao m cp, v = Value.slice ao m cp := by
  rcases h.2 with ⟨h, _⟩ | ⟨g, cap, cur, h, _⟩
  · exact ⟨_, _, _, h⟩
  · exact ⟨_, _, _, h⟩

theorem ent_same {xs : List Int} {k : Nat} (h : xs.getD k 0 = 0) : ent xs (k + 1) = ent xs k := by simp only [ent]; rw [if_pos h]
theorem ent_more {xs : List Int} {k : Nat} (h : ¬ xs.getD k 0 = 0) : ent xs (k + 1) = ent xs k ++ [(k, xs.getD k 0)] := by simp only [ent]; rw [if_neg h]

set_option maxRecDepth 100000 in
set_option maxHeartbeats 1000000 in
theorem clock_any (a : Option Addr) (n c b o : Nat) (xs : List Int) (w : World) (R : RowU w a n b o xs) (hn : n ≤ 600) :
    Calls Yba.prog 7 #[.slice a n c] w fun e w' => ∃ v, e = .returned (.agg #[v]) ∧ w'.ownsRow (w.heap.size + 1) 58 2 v (ent xs n).length (cellsE (ent xs n)) ∧ Below w.heap.size w w' ∧ w.heap.size < w'.heap.size := by
  obtain ⟨i0, hi, hz0, hz1, hz2⟩ := info_parts Yba.info58
  go_enter Yba.func7, Yba.ntmps7
  go_wp2_with (at_make; refine wpList_make_own _ rfl _ _ 23 rfl (w.heap.size + 1) 58 i0 (.agg #[.string ⟨#[]⟩, .int .u64 0]) 2 Yba.underlying23 hi hz0 hz1 .i64 .i64 n n rfl rfl rfl (by rw [hz2]; omega) (by unfold maxLen; omega) (by simp) ?_; intro w1 hown hg)
  have hb1 : Below w.heap.size w w1 := ((Below.refl _ w).alloc (Nat.le_refl _) _).grown hg (by simp) (by simp)
  have hbox : w1.heap[w.heap.size]? = some (.cells #[.slice none 0 0] 25 (0, 0)) := by rw [hg.block _ (by simp) (by simp)]; exact heap_alloc_new w _
  have hown1 : w1.ownsRow (w.heap.size + 1) 58 2 (.slice (some ⟨w.heap.size + 1, 0, none⟩) 0 n) 0 [] := by simpa using hown
  clear hg hown
  go_loopw [3, 4] (fun v i wr => ∃ k : Nat, k ≤ n ∧ i = .int .i64 k ∧ wr.ownsRow (w.heap.size + 1) 58 2 v (ent xs k).length (cellsE (ent xs k)) ∧ wr.heap[w.heap.size]? = some (.cells #[.slice none 0 0] 25 (0, 0)) ∧ Below w.heap.size w wr) (fun _ i _ => n - (intOf i).toNat)
  case atStart => exact ⟨0, Nat.zero_le _, rfl, hown1, hbox, hb1⟩
  case round =>
    obtain ⟨k, hk, rfl, hown', hbox', hb'⟩ := hrel
    clear hown1 hbox hb1
    have hlen := ent_len xs k
    by_cases hlt : k < n
    · have e1 := R.at' (by omega)
      have hbw := R.lt (by omega)
      have hcell : wr.cell? ⟨b, o + k, none⟩ = some (.int .u64 (xs.getD k 0)) := (hb'.cell (by exact hbw)).trans (R.cell k hlt)
      have hsz := hb'.size
      subst e1
      clear R
      by_cases hx : xs.getD k 0 = 0
      · have E := hide (ent_same hx)
        have HO := hide hown'
        have HX := hide hbox'
        have HB := hide hb'
        rw [hx] at hcell
        clear hown' hbox' hb' hx
        go_wp2
        go_roundw
        case rel => exact ⟨k + 1, by omega, by go_num, by rw [unhide E]; exact unhide HO, unhide HX, unhide HB⟩
        case measure => simp [intOf]; omega
      · have E := hide (ent_more hx)
        have hxb : (xs.getD k 0 != 0) = true := by simpa using hx
        generalize xs.getD k 0 = x at hcell E hxb
        have hne : u3.ownBlock ≠ some b := fun h => by have := (hown'.lt b h).1; omega
        have hne2 : u3.ownBlock ≠ some w.heap.size := fun h => by have := (hown'.lt _ h).1; omega
        have hk0 : (0 : Int) ≤ (k : Int) := Int.natCast_nonneg _
        have hk1 : (k : Int) < (n : Int) := by omega
        have hnb : b ≠ wr.heap.size := by omega
        have HX := hide hbox'
        have HB := hide hb'
        clear hx hbox' hb'
        go_wp2_with fail
        go_region_held3 (fun w' => w'.cell? ⟨b, o + k, none⟩ = some (.int .u64 x)) (first | (go_keep; done) | (rw [hgrow.cell_far _ (by simp; omega) (Ne.symm hne)]; assumption))
          (first
            | (go_at_call 11; refine (name_any k (by omega) _).mono ?_; rintro e w' ⟨rfl, ob, rfl⟩)
            | (refine step_append_lies _ (by rfl) _ _ _ (by rfl) (w.heap.size + 1) 58 i0 _ 2 24 Yba.underlying23 hi hz0 hz1 hz2 rfl (by omega) u3 _ _ (by rfl) (by exact (hown'.alloc _).alloc _) ⟨wr.heap.size + 1, 0, none⟩ 1 1 [.string (nm k), .int .u64 x] (by rfl) (by rfl) (by exact World.news_of_block (cs := #[.string (nm k), .int .u64 x]) (t := 58) (fr := (0, 0)) (heap_new2 wr ob _)) (by simp [Value.oneCell']) (by omega) (by unfold maxLen; omega) (by omega) (by simp; omega) (wr.heap.size + 2) (by simp) ?_; intro gg cap w2 hown2 hgrow hat hlt2))
        have hbox2 : w2.heap[w.heap.size]? = some (.cells #[.slice none 0 0] 25 (0, 0)) := by
          rw [hgrow.block _ (by simp; omega) (Ne.symm hne2)]
          show ((wr.alloc ob).alloc _).heap[w.heap.size]? = _
          have hbl := lt_of_block (unhide HX)
          rw [Below.heap_alloc _ _ _ (by simp; omega), Below.heap_alloc wr ob _ hbl]
          exact unhide HX
        have hsz1 : w.heap.size ≤ (wr.alloc ob).heap.size := by simp; omega
        have hb2 : Below w.heap.size w w2 := (((unhide HB).alloc hsz ob).alloc hsz1 _).trans ⟨hgrow.os, hgrow.tape, hgrow.output, hgrow.size, fun i hi' => hgrow.block i (by simp; omega) (fun e => by have := (hown'.lt i e.symm).1; omega)⟩
        have HO := hide hown2
        have HX2 := hide hbox2
        have HB2 := hide hb2
        clear hown2 hbox2 hb2 hgrow hat hown'
        go_wp2
        go_roundw
        case rel => exact ⟨k + 1, by omega, by go_num, by rw [unhide E, cellsE_snoc, List.length_append]; exact unhide HO, unhide HX2, unhide HB2⟩
        case measure => simp [intOf]; omega
    · obtain rfl : k = n := by omega
      have hc0 : wr.cell? ⟨w.heap.size, 0, none⟩ = some (.slice none 0 0) := cell_of_one hbox'
      have hf0 : wr.frozen? ⟨w.heap.size, 0, none⟩ = false := free_of_one hbox'
      obtain ⟨ao, m', cp, rfl⟩ := own_slice hown'
      have HO := hide hown'
      have HB := hide hb'
      have HX0 := hide hbox'
      clear hown' hb' R hbox'
      go_wp2
      refine bodyPost_ret (v := .agg #[.slice ao m' cp]) (by simp [results, Yba.results7, go_sem, hc0]) rfl ⟨_, rfl, ?_, ?_, ?_⟩
      · exact ownsRow_setCell_below (unhide HO) (by show w.heap.size < w.heap.size + 1; omega) _
      · exact (unhide HB).setCell (by show w.heap.size ≤ w.heap.size; omega) _
      · have := lt_of_block (unhide HX0); simp [World.setCell]; exact this
end Go.Proofs.Ybulkahou
