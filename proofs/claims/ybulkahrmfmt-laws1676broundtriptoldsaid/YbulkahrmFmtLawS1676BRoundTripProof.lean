/- The law LawS1676BRoundTrip: her row over the walk of YbulkahrmFmtTripWalk, and the told and tied card. -/
import Derived.Test.YbulkahrmFmtTripWalk
import Derived.Test.YbulkahrmFmtTie
import Derived.Test.YbulkahrmFmtCards
import Derived.WalkKit
import Derived.ProofKit
import Derived.OpenShut
import Derived.ShutString
import Derived.ChangeOld
import Derived.Below
import Derived.LaidMore
import Derived.Stop.Joined
import Derived.Stop.JoinedTold
import Derived.Stop.JoinedAt
import Derived.Stop.LaidErr
import Derived.Deep.DeepWitnessRef
import Derived.WalkSmall
import Derived.SevenTiedAt
namespace Go.Proofs.YbulkahrmFmt.lawS1676BRoundTrip
open Go.ChangeShapes Go.WideShapes Go.ChangeAt Go.RowKit
open Go.Extern.Stop Go.Stop Go.Extern
set_option linter.unusedVariables false

theorem own : ownKnob Ybaf.prog.godebug = none := by kernel_rfl
theorem laidOut : laidOutB Ybaf.prog = true := by kernel_rfl
theorem gE : Ybaf.prog.globalNamed (Rows.lawS1676BRoundTripSpec.vars.headD default) = some 0 := by kernel_rfl
theorem tE : (Ybaf.prog.globals[0]?).map (·.type) = some 26 := by kernel_rfl

/-- The heap that the door's own run leaves meets the condition. -/
theorem door_met (os : Os) (args : Array Value) : laidMetH Ybaf.prog Rows.lawS1676BRoundTripRow.laid ((World.doorLaid Ybaf.prog 28 os).forCall (fun _ _ => 0) ⟨#[], args, []⟩).memory :=
  laidMetH_of_parts3 (fuel := 8) (laidMet_of_run' 8 (by kernel_rfl) (by kernel_rfl)) (by kernel_rfl) (by kernel_rfl)

/-- Bytes out of numbers. -/
theorem rowB_of {w : World} {a : Option Addr} {n c : Nat} {zs : List Int} (h : (a = none ∧ n = 0) ∨ ∃ x, a = some x ∧ n ≤ c ∧ zs.length = c ∧ (∀ i, i < zs.length → w.cell? (x.add i) = some (.int .u8 (zs.getD i 0))) ∧ ∀ z ∈ zs, (Lit.int .u8 z).wf = true) :
    ∃ b o t, RowB w a n b o t := by
  by_cases hn : 0 < n
  · rcases h with ⟨rfl, rfl⟩ | ⟨x, rfl, hl, hz, hcell, hwf⟩
    · omega
    obtain ⟨b, o, spot⟩ := x
    have hspot : spot = none := by simpa [Addr.add] using World.cell?_spot (hcell 0 (by omega))
    subst hspot
    have hc' : ∀ i, i < zs.length → w.cell? ⟨b, o + i, none⟩ = some (.int .u8 (zs.getD i 0)) := fun i hi => by rw [← add_plain]; exact hcell i hi
    refine ⟨b, o, (zs.take n).map (fun z => z.toNat.toUInt8), ⟨by simp; omega, fun _ => rfl, fun _ => World.block_lt_of_cell? w _ (hc' 0 (by omega)), fun j hj => ?_⟩⟩
    have hj' : j < n ∧ j < zs.length := by simp at hj; omega
    have hb := bounds_u8 (hwf _ (List.getElem_mem hj'.2))
    rw [hc' j hj'.2]
    simp only [List.getElem_map, List.getElem_take, List.getD_eq_getElem?_getD, List.getElem?_eq_getElem hj'.2, Option.getD_some]
    rw [u8_nat _ (by omega)]
    congr 2
    omega
  · obtain rfl : n = 0 := by omega
    exact ⟨0, 0, [], ⟨rfl, by omega, by omega, fun j hj => by simp at hj⟩⟩

/-- Natural numbers out of numbers. -/
theorem rowN_of {w : World} {a : Option Addr} {n c : Nat} {zs : List Int} (h : (a = none ∧ n = 0) ∨ ∃ x, a = some x ∧ n ≤ c ∧ zs.length = c ∧ (∀ i, i < zs.length → w.cell? (x.add i) = some (.int .u64 (zs.getD i 0))) ∧ ∀ z ∈ zs, (Lit.int .u64 z).wf = true) :
    ∃ b o t, RowN w a n b o t := by
  by_cases hn : 0 < n
  · rcases h with ⟨rfl, rfl⟩ | ⟨x, rfl, hl, hz, hcell, hwf⟩
    · omega
    obtain ⟨b, o, spot⟩ := x
    have hspot : spot = none := by simpa [Addr.add] using World.cell?_spot (hcell 0 (by omega))
    subst hspot
    have hc' : ∀ i, i < zs.length → w.cell? ⟨b, o + i, none⟩ = some (.int .u64 (zs.getD i 0)) := fun i hi => by rw [← add_plain]; exact hcell i hi
    refine ⟨b, o, (zs.take n).map (fun z => z.toNat), ⟨by simp; omega, fun _ => rfl, fun _ => World.block_lt_of_cell? w _ (hc' 0 (by omega)), fun j hj => ?_, fun x hx => ?_⟩⟩
    · have hj' : j < n ∧ j < zs.length := by simp at hj; omega
      have hb := bounds_u64 (hwf _ (List.getElem_mem hj'.2))
      rw [hc' j hj'.2]
      simp only [List.getElem_map, List.getElem_take, List.getD_eq_getElem?_getD, List.getElem?_eq_getElem hj'.2, Option.getD_some]
      congr 2
      omega
    · obtain ⟨z, hz', rfl⟩ := List.mem_map.1 hx
      have hb := bounds_u64 (hwf z (List.mem_of_mem_take hz'))
      omega
  · obtain rfl : n = 0 := by omega
    exact ⟨0, 0, [], ⟨rfl, by omega, by omega, fun j hj => by simp at hj, by simp⟩⟩

set_option maxRecDepth 100000 in
theorem lifted (os : Os) (started : os.Started) (H : Type) (enc : TypeId × Value → H) :
    ReturnsInTold none {} Ybaf.checked os 3 .any Input.okWide ((OpenSpec.ofChange Rows.lawS1676BRoundTripSpec).preRow enc Ybaf.prog Ybaf.f3 [] false Rows.lawS1676BRoundTripRow.laid) (fun F => ((OpenSpec.ofChange Rows.lawS1676BRoundTripSpec).at F).post enc Ybaf.prog Ybaf.f3 false true false false) (aloneAtReturn Ybaf.prog) nothingAlways := by
  refine returnsInTold_of_row (C := Ybaf.checked) (s := OpenSpec.ofChange Rows.lawS1676BRoundTripSpec) (by kernel_rfl) own started (by kernel_rfl) Ybaf.func3
    (OpenSpec.witness_stopped_atRef (enc := enc) (C := Ybaf.checked) false (World.doorLaid Ybaf.prog 28 os) #[.slice none 0 0, .slice none 0 0] rfl (by kernel_rfl) (by kernel_rfl) (by kernel_rfl)
      (OpenSpec.preRow_of_B rfl 8 (by kernel_rfl) (by kernel_rfl) (door_met os _))) ?_
  intro F W base args ds gs before _ hF hval0 hW _ _ _ hL _
  have hval : ∀ (j : Nat) t v, Ybaf.f3.params[j]? = some t → args[j]? = some v → Value.okWide Ybaf.prog W .any base t v := hval0
  have hW' := hW
  obtain ⟨p, q, hA0, hV0, rfl, hfz, hnd⟩ := hW
  have hA : DataW.TrodAll enc Ybaf.prog W 0 (fun _ => true) true Ybaf.f3.params.toList args.toList ds p := hA0
  have hV : DataW.TrodVars enc Ybaf.prog W (fun _ => true) [Rows.lawS1676BRoundTripSpec.vars.headD default] gs q := hV0
  rw [Ybaf.params3] at hA hval
  obtain ⟨v0, v1, d0, d1, p0, p1, rfl, rfl, rfl, h0, h1⟩ := trodAll_two hA
  obtain ⟨g, t, cs, fuel, d, pv, rfl, hg, ht, hv, hd, rfl⟩ := trodVars_one hV
  obtain rfl := Option.some.inj (gE.symm.trans hg)
  obtain rfl := Option.some.inj (tE.symm.trans ht)
  obtain ⟨x, rfl, ix, rfl, rfl, hgc⟩ := token_of gE Ybaf.underlying26 hv hd
  obtain ⟨a0, len0, cap0, rfl⟩ := okWide_slice Ybaf.underlying22 (hval 0 22 v0 rfl rfl)
  obtain ⟨a1, len1, cap1, rfl⟩ := okWide_slice Ybaf.underlying23 (hval 1 23 v1 rfl rfl)
  have k0 := h0
  have k1 := h1
  have lt0 : ∀ y ∈ p0, y.block < W.heap.size := by obtain ⟨m, hm⟩ := k0; exact DataW.trod_lt m _ _ _ hm
  have lt1 : ∀ y ∈ p1, y.block < W.heap.size := by obtain ⟨m, hm⟩ := k1; exact DataW.trod_lt m _ _ _ hm
  obtain ⟨b0, o0, xs, R0⟩ : ∃ b o xs, RowN W a0 len0 b o xs := by
    obtain ⟨fuel, hf⟩ := h0
    rcases open_ints Ybaf.underlying22 Ybaf.underlying29 (by kernel_rfl) hf with ⟨hcs, _⟩ | ⟨y, l, c, zs, hcs, _, hl, hm, hz, _, hcell, hwz⟩
    · simp [Value.cells] at hcs
      exact rowN_of (c := 0) (zs := []) (.inl ⟨hcs.1, hcs.2.1⟩)
    · simp [Value.cells] at hcs
      obtain ⟨rfl, rfl, rfl⟩ := hcs
      exact rowN_of (.inr ⟨y, rfl, hl, by simpa using hz, hcell, hwz⟩)
  obtain ⟨b1, o1, t1, R1⟩ : ∃ b o t, RowB W a1 len1 b o t := by
    obtain ⟨fuel, hf⟩ := h1
    rcases open_ints Ybaf.underlying23 Ybaf.underlying5 (by kernel_rfl) hf with ⟨hcs, _⟩ | ⟨y, l, c, zs, hcs, _, hl, hm, hz, _, hcell, hwz⟩
    · simp [Value.cells] at hcs
      exact rowB_of (c := 0) (zs := []) (.inl ⟨hcs.1, hcs.2.1⟩)
    · simp [Value.cells] at hcs
      obtain ⟨rfl, rfl, rfl⟩ := hcs
      exact rowB_of (.inr ⟨y, rfl, hl, by simpa using hz, hcell, hwz⟩)
  clear hA0 hval0 hV0
  have hglt : 0 < W.heap.size := World.block_lt_of_cell? W _ hgc
  have walk : Calls Ybaf.prog 3 #[.slice a0 len0 cap0, .slice a1 len1 cap1] W fun e w' => e = .returned (.bool true) ∧ Below W.heap.size W w' := by
    by_cases hlong : (1024 : Int) < (len0 : Int) ∨ (1024 : Int) < (len1 : Int)
    · exact trip_long a0 a1 len0 cap0 len1 cap1 W hlong
    · exact trip_short a0 a1 len0 cap0 len1 cap1 b0 o0 b1 o1 xs t1 W R0 R1 (by omega) (by omega)
  refine walk.mono fun e W' ⟨he, bel⟩ => ?_
  subst he
  refine ⟨_, rfl, _, _, _, [], p0 ++ p1, [.cell 0 0], hW', trodAll_mk1 (shut_bool Ybaf.underlying4 _), ?_, ?_, bel.frame _, fun h => by cases h⟩
  · exact trodAll_mk2 (Below.trod laidOut (by kernel_rfl) (of_decide_eq_true (by kernel_rfl)) k0 bel lt0) (Below.trod laidOut (by kernel_rfl) (of_decide_eq_true (by kernel_rfl)) k1 bel lt1)
  · exact vars_read1 enc gE tE Ybaf.underlying26 (var?_below bel gE hglt hv) ix _

theorem stops : Ybaf.pinned.checked.prog.stops = ["fmt.errorf"] := by kernel_rfl
theorem stopKnobs : Ybaf.pinned.checked.prog.stopKnobs = [] := by kernel_rfl
theorem quiet (os : Os) : Stop.quiet Ybaf.pinned.checked.prog os := by
  intro k hk
  rw [stopKnobs] at hk
  cases hk

/-- THE STATEMENT: the told and tied card. -/
theorem proved : Rows.LawS1676BRoundTripToldSaid :=
  Claim7.holds_of_told_tied_any_at .later 3 Ybaf.f3 "fmt.errorf" [] [] _ _ _ _ _ (by kernel_rfl) rfl rfl rfl laidOut (by kernel_rfl) rfl ⟨rfl, rfl, rfl, rfl, rfl, rfl, rfl⟩ rfl rfl (by kernel_rfl) (by kernel_rfl) Ybaf.func3 (by kernel_rfl)
    (of_decide_eq_true (by kernel_rfl)) (of_decide_eq_true (by kernel_rfl)) stops.symm rfl stopKnobs.symm (by kernel_rfl)
    (by kernel_rfl) (by kernel_rfl) (by kernel_rfl) (by kernel_rfl) (by kernel_rfl) (by kernel_rfl) (by kernel_rfl) (by kernel_rfl) (by kernel_rfl) rfl (by kernel_rfl) rfl rfl
    rfl rfl
    rfl (by kernel_rfl) (by kernel_rfl) (by kernel_rfl) (by decide) (by kernel_rfl) lawS1676BRoundTrip_row_tie
    (OpenClaim.moreEntering_of (by kernel_rfl) (by kernel_rfl) (by kernel_rfl) (by kernel_rfl) (by kernel_rfl) (by kernel_rfl) (by kernel_rfl) (by kernel_rfl) (by kernel_rfl) (by kernel_rfl))
    ⟨_, WideRow.started_initial, quiet _⟩
    (fun os started _ H enc _ => lifted os started H enc)
end Go.Proofs.YbulkahrmFmt.lawS1676BRoundTrip
