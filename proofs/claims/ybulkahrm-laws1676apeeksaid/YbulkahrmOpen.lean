import Derived.Test.YbulkahrmBuild
import Derived.ProofKit
import Derived.OpenShut
import Derived.Deep.Slices
import Derived.Deep.Strs
namespace Go.Proofs.Ybulkahrm
open Go.ChangeShapes Go.WideShapes Go.ChangeAt Go.RowKit Go.Deep
set_option linter.unusedVariables false

theorem Yba.cells36 : Yba.prog.cellsOf 36 = 3 := by kernel_rfl
theorem Yba.cells5 : Yba.prog.cellsOf 5 = 1 := by kernel_rfl
theorem Yba.cells9 : Yba.prog.cellsOf 9 = 1 := by kernel_rfl
theorem Yba.cells3 : Yba.prog.cellsOf 3 = 1 := by kernel_rfl

/-- The drawn tokens, opened. -/
theorem rowT_of {H : Type} {enc : TypeId × Value → H} {W : World} {held : Bool} {fuel : Nat} {a : Option Addr} {n c : Nat} {x : DataW H × List MemPlace}
    (h : DataW.trod enc Yba.prog W 0 (fun _ => true) held fuel 22 [.slice a n c] = some x) : ∃ b o ts, RowT W a n b o ts := by
  rcases open_slice Yba.underlying22 h with ⟨hcs, _⟩ | ⟨ad, len, cap, m, nf, D, Pl, hcs, hb, hl, hm, hmm, hx, hel⟩
  · simp only [List.cons.injEq, Value.slice.injEq, and_true] at hcs
    obtain ⟨rfl, rfl, rfl⟩ := hcs
    exact ⟨0, 0, [], ⟨rfl, by omega, by omega, fun i hi => by simp at hi, by simp⟩⟩
  · simp only [List.cons.injEq, Value.slice.injEq, and_true] at hcs
    obtain ⟨rfl, rfl, rfl⟩ := hcs
    simp only [if_true] at hmm
    have each : ∀ i, i < m → ∃ t : Tk, W.cell? (ad.add (i * 3)) = some (.int .u8 t.k) ∧ W.cell? (ad.add (i * 3 + 1)) = some (.string t.s) ∧ W.cell? (ad.add (i * 3 + 2)) = some (.int .i64 t.l) ∧ 0 ≤ t.k ∧ t.k ≤ 255 := by
      intro i hi
      obtain ⟨cs', h1, h2⟩ := hel i hi
      rw [Yba.cells36] at h1
      obtain ⟨_, hlen, hcell⟩ := World.cells?_some h1
      obtain ⟨y0, y1, y2, k, _, _, g0, g1, g2⟩ := trod_struct3 Yba.underlying36 h2
      match cs', hlen with
      | [v0, v1, v2], _ =>
        simp [Yba.cells5, Yba.cells9, Yba.cells3] at g0 g1 g2
        obtain ⟨z0, hz0, _, hw0⟩ := DataW.trod_int Yba.underlying5 g0
        obtain ⟨z1, hz1, _, _⟩ := DataW.trod_string Yba.underlying9 g1
        obtain ⟨z2, hz2, _, _⟩ := DataW.trod_int Yba.underlying3 g2
        simp at hz0 hz1 hz2
        subst hz0 hz1 hz2
        have e0 := hcell 0 (by omega)
        have e1 := hcell 1 (by omega)
        have e2 := hcell 2 (by omega)
        rw [add_add] at e0 e1 e2
        exact ⟨⟨z0, z1, z2⟩, by simpa using e0, by simpa using e1, by simpa using e2, (bounds_u8 hw0).1, (bounds_u8 hw0).2⟩
    have inh : Inhabited Tk := ⟨⟨0, ⟨#[]⟩, 0⟩⟩
    obtain ⟨V, hV⟩ := choose_lt each
    obtain ⟨b, o, spot⟩ := ad
    by_cases hn : 0 < n
    · have hspot : spot = none := by simpa [Addr.add] using World.cell?_spot (hV 0 (by omega)).1
      subst hspot
      have e : ∀ j, (⟨b, o, none⟩ : Addr).add j = ⟨b, o + j, none⟩ := fun j => add_plain _ _ _
      refine ⟨b, o, (List.range n).map V, ⟨by simp, fun _ => rfl, fun _ => World.block_lt_of_cell? W _ (hV 0 (by omega)).1, fun i hi => ?_, fun t ht => ?_⟩⟩
      · have hi' : i < n := by simpa using hi
        have := hV i (by omega)
        rw [e, e, e] at this
        simp only [List.getElem_map, List.getElem_range]
        exact ⟨this.1, this.2.1, this.2.2.1⟩
      · obtain ⟨i, hi, rfl⟩ := List.mem_map.1 ht
        have := hV i (by have := List.mem_range.1 hi; omega)
        exact this.2.2.2
    · obtain rfl : n = 0 := by omega
      exact ⟨0, 0, [], ⟨rfl, by omega, by omega, fun i hi => by simp at hi, by simp⟩⟩
end Go.Proofs.Ybulkahrm
