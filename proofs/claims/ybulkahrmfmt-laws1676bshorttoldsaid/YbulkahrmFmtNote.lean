import Derived.Test.YbulkahrmFmtEncode
namespace Go.Proofs.YbulkahrmFmt
open Go.RowKit
set_option linter.unusedVariables false

set_option maxHeartbeats 400000 in
theorem newReader_any (a : Option Addr) (n c : Nat) (w : World) :
    Calls Ybaf.prog 8 #[.slice a n c] w fun e w' => e = .returned (.pointer (some ⟨w.heap.size, 0, none⟩)) ∧ w' = w.alloc (.cells #[.slice a n c, .nilIface] 40) := by
  go_enter Ybaf.func8, Ybaf.ntmps8
  go_wp2
  go_ret
  exact ⟨rfl, rfl⟩

set_option maxHeartbeats 400000 in
theorem err_any (rb : Nat) (v ev : Value) (w : World) (h : w.heap[rb]? = some (.cells #[v, ev] 40 (0, 0))) :
    Calls Ybaf.prog 10 #[.pointer (some ⟨rb, 0, none⟩)] w fun e w' => e = .returned ev ∧ w' = w := by
  have c0 : w.cell? ⟨rb, 1, none⟩ = some ev := by simp [World.cell?, h]
  clear h
  go_enter Ybaf.func10, Ybaf.ntmps10
  go_wp2
  go_ret
  exact ⟨rfl, rfl⟩

theorem Bytes.below {B : Nat} {w w' : World} {g o : Nat} {l : List UInt8} (h : Bytes w g o l) (hb : Below B w w') (hg : 0 < l.length → g < B) : Bytes w' g o l :=
  fun j hj => (hb.cell (by exact hg (by omega))).trans (h j hj)

theorem Rd.below {B : Nat} {w w' : World} {rb g o : Nat} {l : List UInt8} {ev : Value} (h : Rd w rb g o l ev) (hb : Below B w w') (hr : rb < B) (hg : 0 < l.length → g < B) : Rd w' rb g o l ev := by
  obtain ⟨⟨ao, c, h1, h2, h3, h4⟩, h5, h6⟩ := h
  exact ⟨⟨ao, c, by rw [hb.block rb hr]; exact h1, h2, h3, h4⟩, h5.below hb hg, h6⟩

theorem encB_split (xs : List Nat) (k : Nat) : encB xs = encB (xs.take k) ++ encB (xs.drop k) := by
  unfold encB; rw [← List.flatMap_append, List.take_append_drop]

/-- What the row 'settled' holds when k numbers are read. -/
def setl (xs : List Nat) (k : Nat) : List Value := (xs.take k).map (fun (x : Nat) => Value.int .u64 x) ++ List.replicate (xs.length - k) (.int .u64 0)
theorem setl_at (xs : List Nat) (k : Nat) (hk : k < xs.length) : (setl xs k)[k]? = some (.int .u64 0) := by
  unfold setl
  have hl : ((xs.take k).map (fun (x : Nat) => Value.int .u64 x)).length = k := by simp; omega
  rw [List.getElem?_append_right (by omega), hl, Nat.sub_self]
  obtain ⟨m, hm⟩ : ∃ m, xs.length - k = m + 1 := ⟨xs.length - k - 1, by omega⟩
  rw [hm, List.replicate_succ]
  rfl
theorem setl_set (xs : List Nat) (k : Nat) (hk : k < xs.length) : (setl xs k).set k (.int .u64 xs[k]) = setl xs (k + 1) := by
  unfold setl
  have hl : ((xs.take k).map (fun (x : Nat) => Value.int .u64 x)).length = k := by simp; omega
  rw [List.set_append_right _ _ (by omega), hl, Nat.sub_self, List.take_succ_eq_append_getElem hk, List.map_append, List.append_assoc]
  congr 1
  obtain ⟨m, hm⟩ : ∃ m, xs.length - k = m + 1 := ⟨xs.length - k - 1, by omega⟩
  rw [hm, List.replicate_succ, List.set_cons_zero, show xs.length - (k + 1) = m by omega]
  rfl
theorem setl_all (xs : List Nat) (i : Nat) (hi : i < xs.length) : (setl xs xs.length)[i]? = some (.int .u64 xs[i]) := by
  unfold setl
  simp [hi]

set_option maxRecDepth 100000 in
set_option maxHeartbeats 1000000 in
/-- readNote where all numbers are there. -/
theorem note_ok (ao : Option Addr) (nb c g o n : Nat) (xs : List Nat) (t : List UInt8) (hnb : (encB xs ++ t).length = nb) (hao : 0 < nb → ao = some ⟨g, o, none⟩) (hc : nb ≤ c) (hm : c ≤ maxLen)
    (hn : xs.length = n) (hn' : n ≤ 1024) (hwf : ∀ x ∈ xs, x < 18446744073709551616) (w : World) (hby : Bytes w g o (encB xs ++ t)) (hg : 0 < nb → g < w.heap.size) :
    Calls Ybaf.prog 6 #[.slice ao nb c, .int .i64 n] w fun e w' => ∃ sb, e = .returned (.tuple #[.slice (some ⟨sb, 0, none⟩) n n, .nilIface]) ∧ (∀ i (hi : i < xs.length), w'.cell? ⟨sb, i, none⟩ = some (.int .u64 xs[i])) ∧ w.heap.size ≤ sb ∧ sb < w'.heap.size ∧ Below w.heap.size w w' := by
  obtain ⟨i0, hi, hz0, hz1, hz2⟩ := info_parts Ybaf.info29
  go_enter Ybaf.func6, Ybaf.ntmps6
  go_wp2_with (first | (go_at_call 8; refine (newReader_any _ _ _ _).mono ?_; rintro e w1 ⟨rfl, rfl⟩) | (at_make; refine wpList_make_full _ rfl _ _ 22 rfl (w.heap.size + 1) 29 i0 (.int .u64 0) 1 Ybaf.underlying22 hi hz0 hz1 .i64 .i64 n n n rfl rfl rfl rfl (by rw [hz2]; omega) (by unfold maxLen; omega) (by simp) ?_; intro w2 hown hg2))
  have hB2 : Below w.heap.size w w2 := ((Below.refl _ w).alloc (Nat.le_refl _) _).grown hg2 (by simp) (by simp)
  have hown1 : w2.ownsRow (w.heap.size + 1) 29 1 (.slice (some ⟨w.heap.size + 1, 0, none⟩) n n) n (setl xs 0) := by
    have e : (madeCells (Value.int .u64 0).cells (n * 1)).toList = setl xs 0 := by
      show (madeCells #[Value.int .u64 0] (n * 1)).toList = _
      rw [toList_madeCells_one]
      simp [setl, hn]
    rw [← e]
    simpa using hown
  have Rd2 : Rd w2 w.heap.size g o (encB xs ++ t) .nilIface := by
    refine ⟨⟨ao, c, ?_, by rw [hnb]; exact hao, by rw [hnb]; exact hc, hm⟩, fun j hj => ?_, fun h => by have := hg (by omega); omega⟩
    · rw [hnb, hg2.block _ (by simp) (by simp)]; exact heap_alloc_new w _
    · have := hg (by omega)
      exact (hB2.cell (by exact this)).trans (hby j hj)
  have HI : Hid (∃ v, w2.heap[w.heap.size]? = some v) := ⟨_, by rw [hg2.block _ (by simp) (by simp)]; exact heap_alloc_new w _⟩
  clear hown hg2 hao
  go_loopw [16] (fun i wr => ∃ k : Nat, k ≤ n ∧ i = .int .i64 k ∧ Rd wr w.heap.size g (o + (encB (xs.take k)).length) (encB (xs.drop k) ++ t) .nilIface ∧ wr.ownsRow (w.heap.size + 1) 29 1 (.slice (some ⟨w.heap.size + 1, 0, none⟩) n n) n (setl xs k) ∧ Below w.heap.size w wr) (fun i _ => n - (intOf i).toNat)
  case atStart => exact ⟨0, Nat.zero_le _, rfl, Rd2, hown1, hB2⟩
  case round =>
    obtain ⟨k, hk, rfl, hR, hown, hb⟩ := hrel
    clear Rd2 hown1 hB2 HI
    by_cases hlt : k < n
    · have hkx : k < xs.length := by omega
      have hx := hwf _ (List.getElem_mem hkx)
      have hp := Lib.uvarint_pos xs[k]
      have hgl : 0 < nb → g < w.heap.size := hg
      have hR1 : Rd wr w.heap.size g (o + (encB (xs.take k)).length) (Lib.uvarint xs[k] ++ (encB (xs.drop (k + 1)) ++ t)) .nilIface := by
        rw [encB_drop xs k hkx, List.append_assoc] at hR; exact hR
      have hgk : 0 < (encB (xs.drop (k + 1)) ++ t).length → g < w.heap.size := fun h => hg (by
        rw [← hnb]
        rw [encB_split xs (k + 1)]
        simp only [List.length_append] at h ⊢
        omega)
      have C := hide (rd_ok w.heap.size g (o + (encB (xs.take k)).length) (Lib.uvarint xs[k] ++ (encB (xs.drop (k + 1)) ++ t)) .nilIface xs[k] (Lib.uvarint xs[k]).length (dec_enc0 xs[k] _ hx) hp (by simp) wr hR1)
      have E1 := hide (encB_snoc xs k hkx)
      have E2 := hide (setl_set xs k hkx)
      have E3 := hide (setl_at xs k hkx)
      have HB := hide hb
      have HO := hide hown
      clear hR hR1 hown hb
      generalize xs[k] = x at *
      go_wp2_with fail
      refine (unhide C).mono ?_
      rintro e w3 ⟨rfl, hR3, hgr⟩
      rw [List.drop_left] at hR3
      have hown3 := (unhide HO).kept hgr (Or.inr (by simp [Value.ownBlock]))
      have c3 : w3.cell? ⟨w.heap.size + 1, k, none⟩ = some (.int .u64 0) := by rw [hown3.cellAt k (by omega)]; exact unhide E3
      have f3 : w3.frozen? ⟨w.heap.size + 1, k, none⟩ = false := hown3.frozenAt k
      have hst := hown3.stored k (.int .u64 x)
      rw [unhide E2] at hst
      have hb3 : Below w.heap.size w w3 := (unhide HB).grown hgr (unhide HB).size (by intro k' hk'; simp at hk'; omega)
      have HS := hide hst
      have HR3 := hide hR3
      have HB3 := hide hb3
      have Bk0 : (0 : Int) ≤ (k : Int) := Int.natCast_nonneg _
      have Bk1 : (k : Int) < (n : Int) := by omega
      clear hst hR3 hb3 hgr hown3 C HO HB E2 E3
      go_wp2
      go_roundw
      case rel =>
        refine ⟨k + 1, by omega, by go_num, ?_, (unhide HS).1, (unhide HB3).setCell (by show w.heap.size ≤ w.heap.size + 1; omega) _⟩
        rw [unhide E1, List.length_append, ← Nat.add_assoc]
        exact (unhide HR3).below ((Below.refl (w.heap.size + 1) w3).setCell (Nat.le_refl _) _) (by omega) (fun h => by have := hgk h; omega)
      case measure => simp [intOf]; omega
    · obtain rfl : k = n := by omega
      obtain ⟨⟨ao', c', h1, _, _, _⟩, _, _⟩ := hR
      have C := hide (err_any w.heap.size _ .nilIface wr h1)
      have hlt2 := (hown.lt (w.heap.size + 1) rfl).2
      have hcells : ∀ i (hi : i < xs.length), wr.cell? ⟨w.heap.size + 1, i, none⟩ = some (.int .u64 xs[i]) := fun i hi => by
        rw [hown.cellAt i (by omega), ← hn]
        exact setl_all xs i hi
      have HC := hide hcells
      have HB := hide hb
      clear h1 hown hb hcells hby
      go_wp2_with fail
      refine (unhide C).mono ?_
      rintro e w3 ⟨rfl, rfl⟩
      go_wp2
      go_ret2
      exact ⟨_, rfl, unhide HC, by omega, hlt2, unhide HB⟩
end Go.Proofs.YbulkahrmFmt
