/- The law LawS1676BShort: her row over the walk of YbulkahrmFmtShort, and the told and tied card. -/
import Derived.Test.YbulkahrmFmtShort
import Derived.Test.YbulkahrmFmtTie
import Derived.Test.YbulkahrmFmtCards
import Derived.WalkKit
import Derived.ProofKit
import Derived.OpenShut
import Derived.ShutString
import Derived.ChangeOld
import Derived.Below
import Derived.LaidMore
import Derived.Stop.Joined
import Derived.Stop.JoinedTold
import Derived.Stop.JoinedAt
import Derived.Stop.LaidErr
import Derived.Deep.DeepWitnessRef
import Derived.WalkSmall
import Derived.SevenTiedAt
namespace Go.Proofs.YbulkahrmFmt.lawS1676BShort
open Go.ChangeShapes Go.WideShapes Go.ChangeAt Go.RowKit
open Go.Extern.Stop Go.Stop Go.Extern
set_option linter.unusedVariables false

theorem own : ownKnob Ybaf.prog.godebug = none := by kernel_rfl
theorem laidOut : laidOutB Ybaf.prog = true := by kernel_rfl
theorem gE : Ybaf.prog.globalNamed (Rows.lawS1676BShortSpec.vars.headD default) = some 0 := by kernel_rfl
theorem tE : (Ybaf.prog.globals[0]?).map (·.type) = some 26 := by kernel_rfl

/-- The heap that the door's own run leaves meets the condition. -/
theorem door_met (os : Os) (args : Array Value) : laidMetH Ybaf.prog Rows.lawS1676BShortRow.laid ((World.doorLaid Ybaf.prog 28 os).forCall (fun _ _ => 0) ⟨#[], args, []⟩).memory :=
  laidMetH_of_parts3 (fuel := 8) (laidMet_of_run' 8 (by kernel_rfl) (by kernel_rfl)) (by kernel_rfl) (by kernel_rfl)

theorem cells48 : Ybaf.prog.cellsOf 48 = 1 := by kernel_rfl
theorem cells9 : Ybaf.prog.cellsOf 9 = 1 := by kernel_rfl

/-- What 'laid' gives: the variable holds a pointer to a string in old memory. -/
theorem sentinel {W : World} (hL : laidMetH Ybaf.prog Rows.lawS1676BShortRow.laid W) :
    ∃ (a : Addr) (s : ByteArray), W.var? Ybaf.prog (Rows.lawS1676BShortSpec.vars.headD default) = some #[.iface 46 (.pointer (some a))] ∧ W.cell? a = some (.string s) := by
  rw [MakeChecks.laidMetH_plain _ _ _ (by kernel_rfl)] at hL
  obtain ⟨a, s, h1, h2, _, _⟩ := laid_sentinel (g := 0) (ti := 26) (tp := 46) (te := 48) (ts := 9) (r := []) hL gE tE Ybaf.underlying26
    (fun u h => typeName_ptr_named (nm := "errors.errorString") (by kernel_rfl) (by kernel_rfl) (by decide) u (h.trans (congrArg some (by kernel_rfl))))
    Ybaf.underlying46 Ybaf.underlying48 rfl rfl Ybaf.underlying9 cells48 cells9
  exact ⟨a, s, h1, h2⟩

/-- Natural numbers out of numbers. -/
theorem rowN_of {w : World} {a : Option Addr} {n c : Nat} {zs : List Int} (h : (a = none ∧ n = 0) ∨ ∃ x, a = some x ∧ n ≤ c ∧ zs.length = c ∧ (∀ i, i < zs.length → w.cell? (x.add i) = some (.int .u64 (zs.getD i 0))) ∧ ∀ z ∈ zs, (Lit.int .u64 z).wf = true) :
    ∃ b o t, RowN w a n b o t := by
  by_cases hn : 0 < n
  · rcases h with ⟨rfl, rfl⟩ | ⟨x, rfl, hl, hz, hcell, hwf⟩
    · omega
    obtain ⟨b, o, spot⟩ := x
    have hspot : spot = none := by simpa [Addr.add] using World.cell?_spot (hcell 0 (by omega))
    subst hspot
    have hc' : ∀ i, i < zs.length → w.cell? ⟨b, o + i, none⟩ = some (.int .u64 (zs.getD i 0)) := fun i hi => by rw [← add_plain]; exact hcell i hi
    refine ⟨b, o, (zs.take n).map (fun z => z.toNat), ⟨by simp; omega, fun _ => rfl, fun _ => World.block_lt_of_cell? w _ (hc' 0 (by omega)), fun j hj => ?_, fun x hx => ?_⟩⟩
    · have hj' : j < n ∧ j < zs.length := by simp at hj; omega
      have hb := bounds_u64 (hwf _ (List.getElem_mem hj'.2))
      rw [hc' j hj'.2]
      simp only [List.getElem_map, List.getElem_take, List.getD_eq_getElem?_getD, List.getElem?_eq_getElem hj'.2, Option.getD_some]
      congr 2
      omega
    · obtain ⟨z, hz', rfl⟩ := List.mem_map.1 hx
      have hb := bounds_u64 (hwf z (List.mem_of_mem_take hz'))
      omega
  · obtain rfl : n = 0 := by omega
    exact ⟨0, 0, [], ⟨rfl, by omega, by omega, fun j hj => by simp at hj, by simp⟩⟩

set_option maxRecDepth 100000 in
theorem lifted (os : Os) (started : os.Started) (H : Type) (enc : TypeId × Value → H) :
    ReturnsInTold none {} Ybaf.checked os 4 .any Input.okWide ((OpenSpec.ofChange Rows.lawS1676BShortSpec).preRow enc Ybaf.prog Ybaf.f4 [] false Rows.lawS1676BShortRow.laid) (fun F => ((OpenSpec.ofChange Rows.lawS1676BShortSpec).at F).post enc Ybaf.prog Ybaf.f4 false true false false) (aloneAtReturn Ybaf.prog) nothingAlways := by
  refine returnsInTold_of_row (C := Ybaf.checked) (s := OpenSpec.ofChange Rows.lawS1676BShortSpec) (by kernel_rfl) own started (by kernel_rfl) Ybaf.func4
    (OpenSpec.witness_stopped_atRef (enc := enc) (C := Ybaf.checked) false (World.doorLaid Ybaf.prog 28 os) #[.slice none 0 0] rfl (by kernel_rfl) (by kernel_rfl) (by kernel_rfl)
      (OpenSpec.preRow_of_B rfl 8 (by kernel_rfl) (by kernel_rfl) (door_met os _))) ?_
  intro F W base args ds gs before _ hF hval0 hW _ _ _ hL _
  have hval : ∀ (j : Nat) t v, Ybaf.f4.params[j]? = some t → args[j]? = some v → Value.okWide Ybaf.prog W .any base t v := hval0
  have hW' := hW
  obtain ⟨p, q, hA0, hV0, rfl, hfz, hnd⟩ := hW
  have hA : DataW.TrodAll enc Ybaf.prog W 0 (fun _ => true) true Ybaf.f4.params.toList args.toList ds p := hA0
  have hV : DataW.TrodVars enc Ybaf.prog W (fun _ => true) [Rows.lawS1676BShortSpec.vars.headD default] gs q := hV0
  rw [Ybaf.params4] at hA hval
  obtain ⟨v0, d0, rfl, rfl, h0⟩ := trodAll_one hA
  obtain ⟨g, t, cs, fuel, d, pv, rfl, hg, ht, hv, hd, rfl⟩ := trodVars_one hV
  obtain rfl := Option.some.inj (gE.symm.trans hg)
  obtain rfl := Option.some.inj (tE.symm.trans ht)
  obtain ⟨x, rfl, ix, rfl, rfl, hgc⟩ := token_of gE Ybaf.underlying26 hv hd
  obtain ⟨a0, len0, cap0, rfl⟩ := okWide_slice Ybaf.underlying22 (hval 0 22 v0 rfl rfl)
  have k0 := h0
  have lt0 : ∀ y ∈ p, y.block < W.heap.size := by obtain ⟨m, hm⟩ := k0; exact DataW.trod_lt m _ _ _ hm
  obtain ⟨b0, o0, xs, R0⟩ : ∃ b o xs, RowN W a0 len0 b o xs := by
    obtain ⟨fuel, hf⟩ := h0
    rcases open_ints Ybaf.underlying22 Ybaf.underlying29 (by kernel_rfl) hf with ⟨hcs, _⟩ | ⟨y, l, c, zs, hcs, _, hl, hm, hz, _, hcell, hwz⟩
    · simp [Value.cells] at hcs
      exact rowN_of (c := 0) (zs := []) (.inl ⟨hcs.1, hcs.2.1⟩)
    · simp [Value.cells] at hcs
      obtain ⟨rfl, rfl, rfl⟩ := hcs
      exact rowN_of (.inr ⟨y, rfl, hl, by simpa using hz, hcell, hwz⟩)
  clear hA0 hval0 hV0
  have hglt : 0 < W.heap.size := World.block_lt_of_cell? W _ hgc
  obtain ⟨a, st, hvar, hs⟩ := sentinel hL
  have hgv : W.cell? ⟨0, 0, none⟩ = some (.iface 46 (.pointer (some a))) := by simpa using World.var?_cell gE hvar 0
  have walk : Calls Ybaf.prog 4 #[.slice a0 len0 cap0] W fun e w' => e = .returned (.bool true) ∧ Below W.heap.size W w' := by
    by_cases hout : (1024 : Int) < (len0 : Int) ∨ len0 = 0
    · exact short_out a0 len0 cap0 W hout
    · exact short_in F.told a0 len0 cap0 b0 o0 xs W R0 (by omega) (by omega) a st hF hgv hs
  refine walk.mono fun e W' ⟨he, bel⟩ => ?_
  subst he
  refine ⟨_, rfl, _, _, _, [], p, [.cell 0 0], hW', trodAll_mk1 (shut_bool Ybaf.underlying4 _), ?_, ?_, bel.frame _, fun h => by cases h⟩
  · exact trodAll_mk1 (Below.trod laidOut (by kernel_rfl) (of_decide_eq_true (by kernel_rfl)) k0 bel lt0)
  · exact vars_read1 enc gE tE Ybaf.underlying26 (var?_below bel gE hglt hv) ix _

theorem stops : Ybaf.pinned.checked.prog.stops = ["fmt.errorf"] := by kernel_rfl
theorem stopKnobs : Ybaf.pinned.checked.prog.stopKnobs = [] := by kernel_rfl
theorem quiet (os : Os) : Stop.quiet Ybaf.pinned.checked.prog os := by
  intro k hk
  rw [stopKnobs] at hk
  cases hk

/-- THE STATEMENT: the told and tied card. -/
theorem proved : Rows.LawS1676BShortToldSaid :=
  Claim7.holds_of_told_tied_any_at .later 4 Ybaf.f4 "fmt.errorf" [] [] _ _ _ _ _ (by kernel_rfl) rfl rfl rfl laidOut (by kernel_rfl) rfl ⟨rfl, rfl, rfl, rfl, rfl, rfl, rfl⟩ rfl rfl (by kernel_rfl) (by kernel_rfl) Ybaf.func4 (by kernel_rfl)
    (of_decide_eq_true (by kernel_rfl)) (of_decide_eq_true (by kernel_rfl)) stops.symm rfl stopKnobs.symm (by kernel_rfl)
    (by kernel_rfl) (by kernel_rfl) (by kernel_rfl) (by kernel_rfl) (by kernel_rfl) (by kernel_rfl) (by kernel_rfl) (by kernel_rfl) (by kernel_rfl) rfl (by kernel_rfl) rfl rfl
    rfl rfl
    rfl (by kernel_rfl) (by kernel_rfl) (by kernel_rfl) (by decide) (by kernel_rfl) lawS1676BShort_row_tie
    (OpenClaim.moreEntering_of (by kernel_rfl) (by kernel_rfl) (by kernel_rfl) (by kernel_rfl) (by kernel_rfl) (by kernel_rfl) (by kernel_rfl) (by kernel_rfl) (by kernel_rfl) (by kernel_rfl))
    ⟨_, WideRow.started_initial, quiet _⟩
    (fun os started _ H enc _ => lifted os started H enc)
end Go.Proofs.YbulkahrmFmt.lawS1676BShort
