/- The law LawS1676CRoundTrip: her row over the walk of YbulkahrmDoorWalk, and the tied card. -/
import Derived.Test.YbulkahrmDoorWalk
import Derived.Test.YbulkahrmDoorTie
import Derived.Test.YbulkahrmDoorCards
import Derived.WalkKit
import Derived.ProofKit
import Derived.OpenShut
import Derived.ShutString
import Derived.ChangeOld
import Derived.Below
import Derived.LaidMore
import Derived.Stop.Joined
import Derived.Stop.LaidErr
import Derived.WalkSmall
import Derived.SevenTiedAt
namespace Go.Proofs.YbulkahrmDoor.lawS1676CRoundTrip
open Go.ChangeShapes Go.WideShapes Go.ChangeAt Go.RowKit
set_option linter.unusedVariables false

theorem own : ownKnob Ybad.prog.godebug = none := by kernel_rfl
theorem laidOut : laidOutB Ybad.prog = true := by kernel_rfl
theorem gE : Ybad.prog.globalNamed (Rows.lawS1676CRoundTripSpec.vars.headD default) = some 0 := by kernel_rfl
theorem tE : (Ybad.prog.globals[0]?).map (·.type) = some 31 := by kernel_rfl

/-- The heap that the door's own run leaves meets the condition. -/
theorem door_met (os : Os) (args : Array Value) : laidMetH Ybad.prog Rows.lawS1676CRoundTripRow.laid ((World.doorLaid Ybad.prog 28 os).forCall (fun _ _ => 0) ⟨#[], args, []⟩).memory :=
  laidMetH_of_parts3 (fuel := 8) (laidMet_of_run' 8 (by kernel_rfl) (by kernel_rfl)) (by kernel_rfl) (by kernel_rfl)

/-- Bytes out of numbers. -/
theorem rowB_of {w : World} {x : Addr} {n c : Nat} {zs : List Int} (hl : n ≤ c) (hz : zs.length = c) (hcell : ∀ i, i < zs.length → w.cell? (x.add i) = some (.int .u8 (zs.getD i 0))) (hwf : ∀ z ∈ zs, (Lit.int .u8 z).wf = true) :
    ∃ b o t, RowB w (some x) n b o t := by
  obtain ⟨b, o, spot⟩ := x
  by_cases hn : 0 < n
  · have hspot : spot = none := by simpa [Addr.add] using World.cell?_spot (hcell 0 (by omega))
    subst hspot
    have hc' : ∀ i, i < zs.length → w.cell? ⟨b, o + i, none⟩ = some (.int .u8 (zs.getD i 0)) := fun i hi => by rw [← add_plain]; exact hcell i hi
    refine ⟨b, o, (zs.take n).map (fun z => z.toNat.toUInt8), ⟨by simp; omega, fun _ => rfl, fun _ => World.block_lt_of_cell? w _ (hc' 0 (by omega)), fun j hj => ?_⟩⟩
    have hj' : j < n ∧ j < zs.length := by simp at hj; omega
    have hb := bounds_u8 (hwf _ (List.getElem_mem hj'.2))
    rw [hc' j hj'.2]
    simp only [List.getElem_map, List.getElem_take, List.getD_eq_getElem?_getD, List.getElem?_eq_getElem hj'.2, Option.getD_some]
    rw [u8_nat _ (by omega)]
    congr 2
    omega
  · obtain rfl : n = 0 := by omega
    exact ⟨0, 0, [], ⟨rfl, by omega, by omega, fun j hj => by simp at hj⟩⟩

theorem walk (x : Int) (hx : (Lit.int .u64 x).wf = true) (a : Option Addr) (n c : Nat) (w : World) (h : (a = none ∧ n = 0 ∧ c = 0) ∨ ∃ ad b o t, a = some ad ∧ RowB w (some ad) n b o t) :
    Calls Ybad.prog 3 #[.int .u64 x, .slice a n c] w fun e w' => e = .returned (.bool true) ∧ Below w.heap.size w w' := by
  obtain ⟨h0, h1⟩ := bounds_u64 hx
  obtain ⟨y, rfl⟩ := Int.eq_ofNat_of_zero_le h0
  by_cases hn : (1024 : Int) < (n : Int)
  · exact trip_long y a n c w hn
  · rcases h with ⟨rfl, rfl, rfl⟩ | ⟨ad, b, o, t, rfl, R⟩
    · exact trip_nil y (by omega) w
    · exact trip_some y (by omega) ad n c b o t w R (by omega)

set_option maxRecDepth 100000 in
theorem lifted (os : Os) (started : os.Started) (H : Type) (enc : TypeId × Value → H) :
    ReturnsInHanded {} Ybad.checked os 3 .any (fun w args => (Rows.lawS1676CRoundTripSpec.pre enc Ybad.prog Ybad.f3 [] false w args ∧ laidMetH Ybad.prog Rows.lawS1676CRoundTripRow.laid w) ∧ sizedMet enc Ybad.prog Ybad.f3 (OpenSpec.ofChange Rows.lawS1676CRoundTripSpec) false w args)
      (Rows.lawS1676CRoundTripSpec.post enc Ybad.prog Ybad.f3 false true false false) := by
  refine returnsInHanded_of_change_and (C := Ybad.checked) (X := fun w _ => laidMetH Ybad.prog Rows.lawS1676CRoundTripRow.laid w) (fun _ _ _ hh h => h.of_heap hh) own started (by kernel_rfl) Ybad.func3
    (ChangeSpec.witness_shaped (enc := enc) (C := Ybad.checked) (os := os) (X := fun w _ => laidMetH Ybad.prog Rows.lawS1676CRoundTripRow.laid w) false (World.doorLaid Ybad.prog 28 os) #[.int .u64 0, .slice none 0 0] 8 rfl (World.shaped_of_RefB (by kernel_rfl) (by kernel_rfl)) (by kernel_rfl) (by kernel_rfl) (by kernel_rfl) (door_met os _)) ?_
  intro W base args ds gs before hval0 hW _ _ hL _
  have hval : ∀ (j : Nat) t v, Ybad.f3.params[j]? = some t → args[j]? = some v → Value.okWide Ybad.prog W .any base t v := hval0
  have hW' := hW
  obtain ⟨p, q, hA0, hV0, rfl, hfz, hnd⟩ := hW
  have hA : DataW.TrodAll enc Ybad.prog W 0 (fun _ => true) true Ybad.f3.params.toList args.toList ds p := hA0
  have hV : DataW.TrodVars enc Ybad.prog W (fun _ => true) [Rows.lawS1676CRoundTripSpec.vars.headD default] gs q := hV0
  rw [Ybad.params3] at hA hval
  obtain ⟨v0, v1, d0, d1, p0, p1, rfl, rfl, rfl, h0, h1⟩ := trodAll_two hA
  obtain ⟨g, t, cs, fuel, d, pv, rfl, hg, ht, hv, hd, rfl⟩ := trodVars_one hV
  obtain rfl := Option.some.inj (gE.symm.trans hg)
  obtain rfl := Option.some.inj (tE.symm.trans ht)
  obtain ⟨x, rfl, ix, rfl, rfl, hgc⟩ := token_of gE Ybad.underlying31 hv hd
  obtain ⟨a0, rfl, rfl, rfl, w0⟩ := open_int Ybad.underlying22 (hval 0 22 v0 rfl rfl) h0
  obtain ⟨a1, len1, cap1, rfl⟩ := okWide_slice Ybad.underlying23 (hval 1 23 v1 rfl rfl)
  have k1 := h1
  have lt1 : ∀ y ∈ p1, y.block < W.heap.size := by obtain ⟨m, hm⟩ := k1; exact DataW.trod_lt m _ _ _ hm
  have hrow : (a1 = none ∧ len1 = 0 ∧ cap1 = 0) ∨ ∃ ad b o t, a1 = some ad ∧ RowB W (some ad) len1 b o t := by
    obtain ⟨fuel, hf⟩ := h1
    rcases open_ints Ybad.underlying23 Ybad.underlying5 (by kernel_rfl) hf with ⟨hcs, _⟩ | ⟨y, l, c, zs, hcs, _, hl, hm, hz, _, hcell, hwz⟩
    · simp [Value.cells] at hcs
      exact .inl hcs
    · simp [Value.cells] at hcs
      obtain ⟨rfl, rfl, rfl⟩ := hcs
      obtain ⟨b, o, t, R⟩ := rowB_of hl (by simpa using hz) hcell hwz
      exact .inr ⟨y, b, o, t, rfl, R⟩
  clear hA0 hval0 hV0
  have hglt : 0 < W.heap.size := World.block_lt_of_cell? W _ hgc
  refine (walk a0 w0 a1 len1 cap1 W hrow).mono fun e W' ⟨he, bel⟩ => ?_
  subst he
  refine ⟨_, rfl, _, _, _, [], [] ++ p1, [.cell 0 0], hW', trodAll_mk1 (shut_bool Ybad.underlying4 _), ?_, ?_, bel.frame _, fun h => by cases h⟩
  · exact trodAll_mk2 (shut_int Ybad.underlying22 w0) (Below.trod laidOut (by kernel_rfl) (of_decide_eq_true (by kernel_rfl)) k1 bel lt1)
  · exact vars_read1 enc gE tE Ybad.underlying31 (var?_below bel gE hglt hv) ix _

theorem row_holds : Rows.LawS1676CRoundTripSaid :=
  OpenClaim.holds_of_wide 3 Ybad.f3 rfl rfl rfl rfl rfl rfl rfl ⟨rfl, rfl, rfl, rfl, rfl⟩ rfl rfl rfl rfl rfl (by kernel_rfl) Ybad.func3 (by kernel_rfl)
    (of_decide_eq_true (by kernel_rfl)) (by unfold Func.isWrapper; first | (rw [if_pos (by decide +kernel)]; kernel_rfl) | (rw [if_neg (by decide +kernel)]; exact ⟨rfl, rfl⟩))
    (fun os started H enc _ => lifted os started H enc)

/-- THE STATEMENT: the tied card. -/
theorem proved : Rows.LawS1676CRoundTripCardSaid :=
  Claim7.holds_tied_plain_at .later [] [.sentinel] true Rows.lawS1676CRoundTripCard.stood.harness true
    row_holds (fun _ h => by cases h) (by kernel_rfl) (fun _ h => by cases h) lawS1676CRoundTrip_row_tie rfl ⟨rfl, rfl⟩ (by kernel_rfl) rfl
    (fun f fn hf hfn => by
      obtain rfl : f = 3 := Option.some.inj ((show Ybad.prog.funcNamed Rows.lawS1676CRoundTripRow.func = some 3 by kernel_rfl).symm.trans hf) |>.symm
      obtain rfl : fn = Ybad.f3 := (Option.some.inj (Ybad.func3.symm.trans hfn)).symm
      exact ⟨by kernel_rfl, fun j t ht => by
        rw [Ybad.params3] at ht
        rcases j with _ | _ | j
        · obtain rfl : t = 22 := by simpa using ht.symm
          exact (show Ybad.prog.wantsStandIn 22 = false by kernel_rfl)
        · obtain rfl : t = 23 := by simpa using ht.symm
          exact (show Ybad.prog.wantsStandIn 23 = false by kernel_rfl)
        · simp at ht⟩)
    (by kernel_rfl)
end Go.Proofs.YbulkahrmDoor.lawS1676CRoundTrip
