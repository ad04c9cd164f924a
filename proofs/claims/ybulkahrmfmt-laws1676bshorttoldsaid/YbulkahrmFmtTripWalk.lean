import Derived.Test.YbulkahrmFmtNote
import Derived.Lib.SliceRun
namespace Go.Proofs.YbulkahrmFmt
open Go.RowKit
set_option linter.unusedVariables false

/-- A byte slice that came in. -/
structure RowB (w : World) (a : Option Addr) (n b o : Nat) (t : List UInt8) : Prop where
  len : t.length = n
  at' : 0 < n → a = some ⟨b, o, none⟩
  lt : 0 < n → b < w.heap.size
  bytes : Bytes w b o t

theorem own_view {w : World} {base n : Nat} {v : Value} {l : List UInt8} (h : w.ownsRow base 5 1 v n (Lib.byteCells l)) :
    ∃ ao c g, v = .slice ao n c ∧ (0 < n → ao = some ⟨g, 0, none⟩) ∧ (0 < n → g < w.heap.size) ∧ n ≤ c ∧ c ≤ maxLen ∧ Bytes w g 0 l ∧ l.length = n := by
  have hl : l.length = n := by have := h.1; simpa [Lib.byteCells] using this
  have hcells := fun g hg => h.cells (g := g) hg
  rcases h.2 with ⟨rfl, rfl⟩ | ⟨g, cap, cur, rfl, hb, hh, hle, hm, hcs, htake⟩
  · have : l = [] := List.eq_nil_of_length_eq_zero hl
    subst this
    exact ⟨none, 0, 0, rfl, by omega, by omega, Nat.le_refl _, Nat.zero_le _, fun j hj => by simp at hj, rfl⟩
  · refine ⟨some ⟨g, 0, none⟩, cap, g, rfl, fun _ => rfl, fun _ => lt_of_block hh, hle, hm, fun j hj => ?_, hl⟩
    have := hcells g rfl j (.int .u8 (l[j]).toNat) (by simp [Lib.byteCells, hj])
    rw [show (⟨g, 0, none⟩ : Addr).add j = ⟨g, 0 + j, none⟩ by simp [Addr.add]; omega] at this
    exact this

set_option maxRecDepth 100000 in
set_option maxHeartbeats 400000 in
theorem trip_long (a1 a2 : Option Addr) (n1 c1 n2 c2 : Nat) (w : World) (h : (1024 : Int) < (n1 : Int) ∨ (1024 : Int) < (n2 : Int)) :
    Calls Ybaf.prog 3 #[.slice a1 n1 c1, .slice a2 n2 c2] w fun e w' => e = .returned (.bool true) ∧ Below w.heap.size w w' := by
  by_cases h1 : (1024 : Int) < (n1 : Int)
  · go_enter Ybaf.func3, Ybaf.ntmps3
    go_wp2
    go_ret
    exact ⟨rfl, Below.refl _ _⟩
  · have h2 : (1024 : Int) < (n2 : Int) := by omega
    go_enter Ybaf.func3, Ybaf.ntmps3
    go_wp2
    go_ret
    exact ⟨rfl, Below.refl _ _⟩

theorem take_bytes (l t : List UInt8) (k : Nat) (hk : k < t.length) : Lib.byteCells (l ++ t.take (k + 1)) = Lib.byteCells (l ++ t.take k) ++ [.int .u8 (t[k]).toNat] := by
  rw [List.take_succ_eq_append_getElem hk, ← List.append_assoc]
  simp only [Lib.byteCells, List.map_append, List.map_cons, List.map_nil]

set_option maxRecDepth 100000 in
set_option maxHeartbeats 2000000 in
theorem trip_short (a1 a2 : Option Addr) (n1 c1 n2 c2 b1 o1 b2 o2 : Nat) (xs : List Nat) (t : List UInt8) (w : World) (R1 : RowN w a1 n1 b1 o1 xs) (R2 : RowB w a2 n2 b2 o2 t) (h1 : n1 ≤ 1024) (h2 : n2 ≤ 1024) :
    Calls Ybaf.prog 3 #[.slice a1 n1 c1, .slice a2 n2 c2] w fun e w' => e = .returned (.bool true) ∧ Below w.heap.size w w' := by
  obtain ⟨i0, hi, hz0, hz1, hz2⟩ := info_parts Ybaf.info5
  have hnl := fun (w : World) (a : Option Addr) (n c : Nat) => Lib.run_eql_slice_nil (P := Ybaf.prog) w 22 29 a n c 0 0 Ybaf.underlying22
  have hlen1 := R1.len
  have hlen2 := R2.len
  have hel := encB_len xs R1.wf
  go_enter Ybaf.func3, Ybaf.ntmps3
  go_wp2_with fail
  refine (encode_any a1 n1 c1 b1 o1 xs w R1 h1).mono ?_
  rintro e w1 ⟨v1, rfl, hown1, hb1⟩
  go_wp2
  go_loopw [5, 6] (fun v i wr => ∃ k : Nat, k ≤ n2 ∧ i = .int .i64 k ∧ wr.ownsRow w.heap.size 5 1 v ((encB xs).length + k) (Lib.byteCells (encB xs ++ t.take k)) ∧ Below w.heap.size w wr) (fun _ i _ => n2 - (intOf i).toNat)
  case atStart => exact ⟨0, Nat.zero_le _, rfl, by simpa using hown1, hb1⟩
  case round =>
    obtain ⟨k, hk, rfl, hown, hb⟩ := hrel
    clear hown1 hb1
    have hsz := hb.size
    by_cases hlt : k < n2
    · have hkt : k < t.length := by omega
      have e2 := R2.at' (by omega)
      have c0 : wr.cell? ⟨b2, o2 + k, none⟩ = some (.int .u8 (t[k]).toNat) := (hb.cell (by exact R2.lt (by omega))).trans (R2.bytes k hkt)
      have E := hide (take_bytes (encB xs) t k hkt)
      have HB := hide hb
      subst e2
      clear R1 R2 hb
      generalize (t[k]).toNat = y at *
      go_wp2_with (at_builtin; refine wpList_append_own _ rfl _ _ 23 rfl w.heap.size 5 i0 (.int .u8 0) 1 1 Ybaf.underlying23 hi hz0 hz1 hz2 rfl (by decide) u5 ((encB xs).length + k) (Lib.byteCells (encB xs ++ t.take k)) rfl (hown.alloc _) ⟨wr.heap.size, 0, none⟩ 1 1 [.int .u8 y] rfl rfl (cell_one_new _ _ _) (by simp [Value.oneCell']) (by unfold maxLen; omega) (by omega) (by simp; omega) ?_; intro v2 w2 hown2 hgr _)
      have hb2 : Below w.heap.size w w2 := ((unhide HB).alloc hsz _).grown hgr (by simp; omega) (fun k' hk' => (hown.lt k' hk').1)
      have HO := hide hown2
      have HB2 := hide hb2
      clear hown2 hb2 hgr hown
      go_wp2
      go_roundw
      case rel => exact ⟨k + 1, by omega, by go_num, by rw [unhide E, ← Nat.add_assoc]; exact unhide HO, unhide HB2⟩
      case measure => simp [intOf]; omega
    · rw [List.take_of_length_le (show t.length ≤ k by omega)] at hown
      obtain ⟨ao, c, g, hv, hao, hg, hc, hm, hby, hln⟩ := own_view hown
      generalize (encB xs).length + k = nb at *
      subst hv
      have C := hide (note_ok ao nb c g 0 n1 xs t hln hao hc hm R1.len h1 R1.wf wr hby hg)
      have HB := hide hb
      have HR1 := hide R1
      clear R1 R2 hb hown hby hg hao
      go_wp2_with fail
      refine (unhide C).mono ?_
      rintro e w2 ⟨sb, rfl, hcells, hsb, hsb2, hb2⟩
      have hB2 : Below w.heap.size w w2 := (unhide HB).trans (hb2.mono hsz)
      have HC := hide hcells
      have HB2 := hide hB2
      clear C hcells hb2 hB2 HB
      go_wp2
      go_loopw [9] (fun i wq => ∃ j : Nat, j ≤ n1 ∧ i = .int .i64 j ∧ Below w2.heap.size w2 wq) (fun i _ => n1 - (intOf i).toNat)
      case atStart => exact ⟨0, Nat.zero_le _, rfl, Below.refl _ _⟩
      case round =>
        obtain ⟨j, hj, rfl, hbq⟩ := hrel
        by_cases hjl : j < n1
        · have hjx : j < xs.length := by omega
          have e1 := (unhide HR1).at' (by omega)
          have hw2 := (unhide HB2).size
          have y0 : wr.cell? ⟨sb, j, none⟩ = some (.int .u64 xs[j]) := (hbq.cell (by exact hsb2)).trans (unhide HC j hjx)
          have y1 : wr.cell? ⟨b1, o1 + j, none⟩ = some (.int .u64 xs[j]) := (hbq.cell (by exact Nat.lt_of_lt_of_le ((unhide HR1).lt (by omega)) hw2)).trans (((unhide HB2).cell (by exact (unhide HR1).lt (by omega))).trans ((unhide HR1).cell j hjx))
          have HQ := hide hbq
          have Bj0 : (0 : Int) ≤ (j : Int) := Int.natCast_nonneg _
          have Bj1 : (j : Int) < (n1 : Int) := by omega
          clear HR1 hbq HC
          subst e1
          generalize xs[j] = x at *
          go_wp2
          go_quiet (fail)
          go_wp2
          go_roundw
          case rel => exact ⟨j + 1, by omega, by go_num, below_drewN (unhide HQ) _⟩
          case measure => simp [intOf]; omega
        · have HF : Hid (Below w.heap.size w wr) := (unhide HB2).trans (hbq.mono (unhide HB2).size)
          clear hbq HC HR1
          go_wp2
          go_ret
          exact ⟨rfl, unhide HF⟩
end Go.Proofs.YbulkahrmFmt
