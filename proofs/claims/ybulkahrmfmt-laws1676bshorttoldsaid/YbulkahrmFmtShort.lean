import Derived.Test.YbulkahrmFmtErrorf
import Derived.Test.YbulkahrmFmtTripWalk
import Derived.LaidEql
namespace Go.Proofs.YbulkahrmFmt
open Go.RowKit
open Go.Extern.Stop Go.Stop Go.Extern
set_option linter.unusedVariables false

theorem set_two {w : World} {rb : Nat} {u v ev nv : Value} (h : w.heap[rb]? = some (.cells #[u, ev] 40 (0, 0))) : ((w.setCell ⟨rb, 1, none⟩ nv).setCell ⟨rb, 0, none⟩ v).heap[rb]? = some (.cells #[v, nv] 40 (0, 0)) := by
  have hlt := lt_of_block h
  have h1 : (w.setCell ⟨rb, 1, none⟩ nv).heap[rb]? = some (.cells #[u, nv] 40 (0, 0)) := by
    have h' : w.heap[rb] = .cells #[u, ev] 40 (0, 0) := by simpa [Array.getElem?_eq_getElem hlt] using h
    show (w.heap.modify rb _)[rb]? = _
    rw [Array.getElem?_eq_getElem (by simpa using hlt), Array.getElem_modify_self, h']
    rfl
  exact set_blk h1

theorem grown_set2 (w : World) (rb : Nat) (u v : Value) : w.grownBy ((w.setCell ⟨rb, 1, none⟩ u).setCell ⟨rb, 0, none⟩ v) (some rb) :=
  ⟨rfl, rfl, rfl, by simp [World.setCell], fun k hk hne => by
    rw [Below.heap_setCell _ _ _ _ (by simpa using hne), Below.heap_setCell _ _ _ _ (by simpa using hne)]⟩

set_option maxRecDepth 100000 in
set_option maxHeartbeats 1000000 in
/-- Reader.fail, no error yet. -/
theorem fail_any (rb : Nat) (sl : Value) (a : Addr) (hrb : rb ≠ 0) (w : World) (hh : w.heap[rb]? = some (.cells #[sl, .nilIface] 40 (0, 0))) (hsl : ∃ ao n c, sl = .slice ao n c) (hg : w.cell? ⟨0, 0, none⟩ = some (.iface 46 (.pointer (some a)))) :
    Calls Ybaf.prog 13 #[.pointer (some ⟨rb, 0, none⟩)] w fun e w' => e = .returned (.tuple #[]) ∧ w' = (w.setCell ⟨rb, 1, none⟩ (.iface 46 (.pointer (some a)))).setCell ⟨rb, 0, none⟩ (.slice none 0 0) := by
  obtain ⟨ao, n, c, rfl⟩ := hsl
  have c0 : w.cell? ⟨rb, 0, none⟩ = some (.slice ao n c) := by simp [World.cell?, hh]
  have c1 : w.cell? ⟨rb, 1, none⟩ = some .nilIface := by simp [World.cell?, hh]
  have f0 : w.frozen? ⟨rb, 0, none⟩ = false := by simp [World.frozen?, hh]
  have f1 : w.frozen? ⟨rb, 1, none⟩ = false := by simp [World.frozen?, hh]
  clear hh
  go_enter Ybaf.func13, Ybaf.ntmps13
  go_wp2
  go_end0
  exact ⟨rfl, rfl⟩

set_option maxRecDepth 100000 in
set_option maxHeartbeats 1000000 in
/-- Reader.Uvarint where no number is there: it fails, and answers zero. -/
theorem rd_fail (rb g o : Nat) (l : List UInt8) (a : Addr) (hdec : Lib.uvarintDec l = (0, 0)) (hrb : rb ≠ 0) (w : World) (R : Rd w rb g o l .nilIface) (hg : w.cell? ⟨0, 0, none⟩ = some (.iface 46 (.pointer (some a)))) :
    Calls Ybaf.prog 9 #[.pointer (some ⟨rb, 0, none⟩)] w fun e w' => e = .returned (.int .u64 0) ∧ w'.heap[rb]? = some (.cells #[.slice none 0 0, .iface 46 (.pointer (some a))] 40 (0, 0)) ∧ w.grownBy w' (some rb) := by
  obtain ⟨⟨ao, c, hh, hao, hlc, hcm⟩, hb, hne⟩ := R
  have c0 : w.cell? ⟨rb, 0, none⟩ = some (.slice ao l.length c) := by simp [World.cell?, hh]
  have C : Calls Ybaf.prog 12 #[.slice ao l.length c] w fun e w' => e = .returned (.tuple #[.int .u64 0, .int .i64 0]) ∧ w' = w := by
    rcases Nat.eq_zero_or_pos l.length with h0 | h0
    · obtain rfl : l = [] := List.eq_nil_of_length_eq_zero h0
      have := Ybaf.binary_Uvarint_empty ao c w
      rw [hdec] at this
      exact this
    · have e1 := hao h0
      subst e1
      have := Ybaf.binary_Uvarint g o l.length c l w rfl hb
      rw [hdec] at this
      exact this
  have HF := hide (fail_any rb (.slice ao l.length c) a hrb w hh ⟨_, _, _, rfl⟩ hg)
  have HC := hide C
  have HT := hide (set_two (v := .slice none 0 0) (nv := .iface 46 (.pointer (some a))) hh)
  clear C hdec hao hh hb hne hg
  generalize l.length = n at *
  go_enter Ybaf.func9, Ybaf.ntmps9
  go_wp2_with fail
  refine (unhide HC).mono ?_
  rintro e w1 ⟨rfl, rfl⟩
  go_wp2_with fail
  refine (unhide HF).mono ?_
  rintro e w2 ⟨rfl, rfl⟩
  go_wp2
  go_ret
  exact ⟨rfl, unhide HT, grown_set2 _ _ _ _⟩

set_option maxRecDepth 100000 in
set_option maxHeartbeats 1000000 in
/-- readNote where the last number lacks its last byte: an error, and no numbers. -/
theorem note_short (F : Interp) (ao : Option Addr) (nb c g o n : Nat) (ys : List Nat) (t : List UInt8) (ht : Lib.uvarintDec t = (0, 0)) (hnb : (encB ys ++ t).length = nb) (hao : 0 < nb → ao = some ⟨g, o, none⟩) (hc : nb ≤ c) (hm : c ≤ maxLen)
    (hn : ys.length + 1 = n) (hn' : n ≤ 1024) (hwf : ∀ x ∈ ys, x < 18446744073709551616) (w : World) (hby : Bytes w g o (encB ys ++ t)) (hg : 0 < nb → g < w.heap.size)
    (a : Addr) (s : ByteArray) (hF : F.answers w.tape) (hv : w.cell? ⟨0, 0, none⟩ = some (.iface 46 (.pointer (some a)))) (hs : w.cell? a = some (.string s)) :
    Calls Ybaf.prog 6 #[.slice ao nb c, .int .i64 n] w fun e w' => ∃ p, e = .returned (.tuple #[.slice none 0 0, .iface 45 (.pointer (some p))]) ∧ Below w.heap.size w w' := by
  obtain ⟨i0, hi, hz0, hz1, hz2⟩ := info_parts Ybaf.info29
  have h0lt : 0 < w.heap.size := World.block_lt_of_cell? w _ hv
  have halt : a.block < w.heap.size := World.block_lt_of_cell? w _ hs
  have hn2 : (ys ++ [0]).length = n := by simp; omega
  go_enter Ybaf.func6, Ybaf.ntmps6
  go_wp2_with (first | (go_at_call 8; refine (newReader_any _ _ _ _).mono ?_; rintro e w1 ⟨rfl, rfl⟩) | (at_make; refine wpList_make_full _ rfl _ _ 22 rfl (w.heap.size + 1) 29 i0 (.int .u64 0) 1 Ybaf.underlying22 hi hz0 hz1 .i64 .i64 n n n rfl rfl rfl rfl (by rw [hz2]; omega) (by unfold maxLen; omega) (by simp) ?_; intro w2 hown hg2))
  have hB2 : Below w.heap.size w w2 := ((Below.refl _ w).alloc (Nat.le_refl _) _).grown hg2 (by simp) (by simp)
  have hown1 : w2.ownsRow (w.heap.size + 1) 29 1 (.slice (some ⟨w.heap.size + 1, 0, none⟩) n n) n (setl (ys ++ [0]) 0) := by
    have e : (madeCells (Value.int .u64 0).cells (n * 1)).toList = setl (ys ++ [0]) 0 := by
      show (madeCells #[Value.int .u64 0] (n * 1)).toList = _
      rw [toList_madeCells_one]
      unfold setl
      rw [hn2]
      simp
    rw [← e]
    simpa using hown
  have Rd2 : Rd w2 w.heap.size g o (encB ys ++ t) .nilIface := by
    refine ⟨⟨ao, c, ?_, by rw [hnb]; exact hao, by rw [hnb]; exact hc, hm⟩, fun j hj => ?_, fun h => by have := hg (by omega); omega⟩
    · rw [hnb, hg2.block _ (by simp) (by simp)]; exact heap_alloc_new w _
    · have := hg (by omega)
      exact (hB2.cell (by exact this)).trans (hby j hj)
  clear hown hg2 hao
  go_loopw [16] (fun i wr => ∃ k : Nat, k ≤ n ∧ i = .int .i64 k ∧ wr.ownsRow (w.heap.size + 1) 29 1 (.slice (some ⟨w.heap.size + 1, 0, none⟩) n n) n (setl (ys ++ [0]) k) ∧ Below w.heap.size w wr ∧
      ((k ≤ ys.length ∧ Rd wr w.heap.size g (o + (encB (ys.take k)).length) (encB (ys.drop k) ++ t) .nilIface) ∨ (k = n ∧ wr.heap[w.heap.size]? = some (.cells #[.slice none 0 0, .iface 46 (.pointer (some a))] 40 (0, 0))))) (fun i _ => n - (intOf i).toNat)
  case atStart => exact ⟨0, Nat.zero_le _, rfl, hown1, hB2, .inl ⟨Nat.zero_le _, Rd2⟩⟩
  case round =>
    obtain ⟨k, hk, rfl, hown, hb, hst⟩ := hrel
    clear Rd2 hown1 hB2
    by_cases hlt : k < n
    · have hR : Rd wr w.heap.size g (o + (encB (ys.take k)).length) (encB (ys.drop k) ++ t) .nilIface := by
        rcases hst with h | h
        · exact h.2
        · omega
      clear hst
      have hkx : k < (ys ++ [0]).length := by omega
      have E2 := setl_set (ys ++ [0]) k hkx
      have E3 := hide (setl_at (ys ++ [0]) k hkx)
      have Bk0 : (0 : Int) ≤ (k : Int) := Int.natCast_nonneg _
      have Bk1 : (k : Int) < (n : Int) := by omega
      by_cases hky : k < ys.length
      · have hx := hwf _ (List.getElem_mem hky)
        have hp := Lib.uvarint_pos ys[k]
        rw [List.getElem_append_left hky] at E2
        have hR1 : Rd wr w.heap.size g (o + (encB (ys.take k)).length) (Lib.uvarint ys[k] ++ (encB (ys.drop (k + 1)) ++ t)) .nilIface := by
          rw [encB_drop ys k hky, List.append_assoc] at hR; exact hR
        have hgk : 0 < (encB (ys.drop (k + 1)) ++ t).length → g < w.heap.size := fun h => hg (by
          rw [← hnb]
          rw [encB_split ys (k + 1)]
          simp only [List.length_append] at h ⊢
          omega)
        have C := hide (rd_ok w.heap.size g (o + (encB (ys.take k)).length) (Lib.uvarint ys[k] ++ (encB (ys.drop (k + 1)) ++ t)) .nilIface ys[k] (Lib.uvarint ys[k]).length (dec_enc0 ys[k] _ hx) hp (by simp) wr hR1)
        have E1 := hide (encB_snoc ys k hky)
        have E2' := hide E2
        have HB := hide hb
        have HO := hide hown
        have hF2 := hide hF
        clear hR hR1 hown hb E2 hF hby
        generalize ys[k] = x at *
        go_wp2_with fail
        refine (unhide C).mono ?_
        rintro e w3 ⟨rfl, hR3, hgr⟩
        rw [List.drop_left] at hR3
        have hown3 := (unhide HO).kept hgr (Or.inr (by simp [Value.ownBlock]))
        have c3 : w3.cell? ⟨w.heap.size + 1, k, none⟩ = some (.int .u64 0) := by rw [hown3.cellAt k (by omega)]; exact unhide E3
        have f3 : w3.frozen? ⟨w.heap.size + 1, k, none⟩ = false := hown3.frozenAt k
        have hst := hown3.stored k (.int .u64 x)
        rw [unhide E2'] at hst
        have hb3 : Below w.heap.size w w3 := (unhide HB).grown hgr (unhide HB).size (by intro k' hk'; simp at hk'; omega)
        have HS := hide hst
        have HR3 := hide hR3
        have HB3 := hide hb3
        clear hst hR3 hb3 hgr hown3 C HO HB E2' E3
        go_wp2
        go_roundw
        case rel =>
          refine ⟨k + 1, by omega, by go_num, (unhide HS).1, (unhide HB3).setCell (by show w.heap.size ≤ w.heap.size + 1; omega) _, .inl ⟨by omega, ?_⟩⟩
          rw [unhide E1, List.length_append, ← Nat.add_assoc]
          exact (unhide HR3).below ((Below.refl (w.heap.size + 1) w3).setCell (Nat.le_refl _) _) (by omega) (fun h => by have := hgk h; omega)
        case measure => simp [intOf]; omega
      · obtain rfl : k = ys.length := by omega
        rw [List.drop_length, encB_nil, List.nil_append] at hR
        have e0 : (ys ++ [0])[ys.length] = 0 := by simp
        rw [e0] at E2
        have hv1 : wr.cell? ⟨0, 0, none⟩ = some (.iface 46 (.pointer (some a))) := (hb.cell (by exact h0lt)).trans hv
        have C := hide (rd_fail w.heap.size g _ t a ht (by omega) wr hR hv1)
        have E2' := hide E2
        have HB := hide hb
        have HO := hide hown
        have hF2 := hide hF
        clear hR hown hb E2 hF hby hv1 e0
        go_wp2_with fail
        refine (unhide C).mono ?_
        rintro e w3 ⟨rfl, hblk, hgr⟩
        have hown3 := (unhide HO).kept hgr (Or.inr (by simp [Value.ownBlock]))
        have c3 : w3.cell? ⟨w.heap.size + 1, ys.length, none⟩ = some (.int .u64 0) := by rw [hown3.cellAt ys.length (by omega)]; exact unhide E3
        have f3 : w3.frozen? ⟨w.heap.size + 1, ys.length, none⟩ = false := hown3.frozenAt ys.length
        have hst := hown3.stored ys.length (.int .u64 0)
        have E2n : (setl (ys ++ [0]) ys.length).set ys.length (.int .u64 0) = setl (ys ++ [0]) (ys.length + 1) := by simpa using unhide E2'
        rw [E2n] at hst
        have hb3 : Below w.heap.size w w3 := (unhide HB).grown hgr (unhide HB).size (by intro k' hk'; simp at hk'; omega)
        have HS := hide hst
        have HBl := hide hblk
        have HB3 := hide hb3
        clear hst hblk hb3 hgr hown3 C HO HB E2' E3 E2n
        go_wp2
        go_roundw
        case rel =>
          refine ⟨ys.length + 1, by omega, by go_num, (unhide HS).1, (unhide HB3).setCell (by show w.heap.size ≤ w.heap.size + 1; omega) _, .inr ⟨hn, ?_⟩⟩
          rw [Below.heap_setCell _ _ _ _ (by show w.heap.size ≠ w.heap.size + 1; omega)]
          exact unhide HBl
        case measure => simp [intOf]; omega
    · obtain rfl : k = n := by omega
      have hblk : wr.heap[w.heap.size]? = some (.cells #[.slice none 0 0, .iface 46 (.pointer (some a))] 40 (0, 0)) := by
        rcases hst with h | h
        · omega
        · exact h.2
      have C := hide (err_any w.heap.size _ (.iface 46 (.pointer (some a))) wr hblk)
      have hs1 : wr.cell? a = some (.string s) := (hb.cell (by exact halt)).trans hs
      have hFr : F.answers wr.tape := by rw [hb.tape]; exact hF
      have hsz := hb.size
      have HB := hide hb
      clear hst hblk hown hb hby hF hv hs
      go_wp2_with fail
      refine (unhide C).mono ?_
      rintro e w3 ⟨rfl, rfl⟩
      go_wp2_with fail
      have hs2 := fun x => (((Below.refl _ w3).alloc (Nat.le_refl _) x).cell (p := a) (by omega)).trans hs1
      refine (errorf_any F k a s w3.heap.size (w3.alloc (.cells #[.iface 3 (.int .i64 k), .iface 46 (.pointer (some a))] 20)) hFr (by simp) (by simp) (hs2 _)).mono ?_
      rintro e w4 ⟨p, x, rfl, rfl⟩
      go_wp2
      go_ret2
      exact ⟨p, rfl, (((unhide HB).alloc hsz _).alloc (by simp; omega) _).drew⟩

set_option maxRecDepth 100000 in
set_option maxHeartbeats 400000 in
theorem short_out (a1 : Option Addr) (n1 c1 : Nat) (w : World) (h : (1024 : Int) < (n1 : Int) ∨ n1 = 0) :
    Calls Ybaf.prog 4 #[.slice a1 n1 c1] w fun e w' => e = .returned (.bool true) ∧ Below w.heap.size w w' := by
  by_cases h1 : (1024 : Int) < (n1 : Int)
  · go_enter Ybaf.func4, Ybaf.ntmps4
    go_wp2
    go_ret
    exact ⟨rfl, Below.refl _ _⟩
  · obtain rfl : n1 = 0 := by omega
    go_enter Ybaf.func4, Ybaf.ntmps4
    go_wp2
    go_ret
    exact ⟨rfl, Below.refl _ _⟩

/-- Without its last byte. -/
theorem encB_short (xs : List Nat) (m : Nat) (hm : xs.length = m + 1) : (encB xs).take ((encB xs).length - 1) = encB (xs.take m) ++ (Lib.uvarint (xs[m]'(by omega))).dropLast := by
  have hx : m < xs.length := by omega
  have e : encB xs = encB (xs.take m) ++ Lib.uvarint xs[m] := by
    have := encB_snoc xs m hx
    rwa [List.take_of_length_le (by omega)] at this
  have hp := Lib.uvarint_pos xs[m]
  have hne : Lib.uvarint xs[m] ≠ [] := fun h => by rw [h] at hp; simp at hp
  rw [← List.dropLast_eq_take, e, List.dropLast_append_of_ne_nil hne]

set_option maxRecDepth 100000 in
set_option maxHeartbeats 1000000 in
theorem short_in (F : Interp) (a1 : Option Addr) (n1 c1 b1 o1 : Nat) (xs : List Nat) (w : World) (R1 : RowN w a1 n1 b1 o1 xs) (h1 : n1 ≤ 1024) (h0 : 0 < n1)
    (a : Addr) (s : ByteArray) (hF : F.answers w.tape) (hv : w.cell? ⟨0, 0, none⟩ = some (.iface 46 (.pointer (some a)))) (hs : w.cell? a = some (.string s)) :
    Calls Ybaf.prog 4 #[.slice a1 n1 c1] w fun e w' => e = .returned (.bool true) ∧ Below w.heap.size w w' := by
  have hnl := fun (w : World) (a : Option Addr) (n c : Nat) => Lib.run_eql_slice_nil (P := Ybaf.prog) w 22 29 a n c 0 0 Ybaf.underlying22
  have h0lt : 0 < w.heap.size := World.block_lt_of_cell? w _ hv
  have halt : a.block < w.heap.size := World.block_lt_of_cell? w _ hs
  have hlen1 := R1.len
  obtain ⟨m, hm⟩ : ∃ m, xs.length = m + 1 := ⟨xs.length - 1, by omega⟩
  have hx := R1.wf _ (List.getElem_mem (show m < xs.length by omega))
  have hwf : ∀ x ∈ xs.take m, x < 18446744073709551616 := fun x hx => R1.wf x (List.mem_of_mem_take hx)
  have hel := encB_len xs R1.wf
  have hpos : 0 < (encB xs).length := by
    have e := encB_snoc xs m (by omega)
    rw [List.take_of_length_le (by omega)] at e
    have hp := Lib.uvarint_pos xs[m]
    rw [e, List.length_append]
    omega
  have ES := encB_short xs m hm
  have hb0 : ((0 : Int) == (n1 : Int)) = false := by simp; omega
  have hb1 : ((n1 : Int) == 0) = false := by simp; omega
  go_enter Ybaf.func4, Ybaf.ntmps4
  go_wp2_with fail
  refine (encode_any a1 n1 c1 b1 o1 xs w R1 h1).mono ?_
  rintro e w1 ⟨v1, rfl, hown1, hb1'⟩
  obtain ⟨ao, c, g, hvv, hao, hg, hc, hcm, hby, hln⟩ := own_view hown1
  have e1 := hao hpos
  have hg' := hg hpos
  subst hvv e1
  generalize hnb : (encB xs).length = nb at *
  have hby2 : Bytes w1 g 0 (encB (xs.take m) ++ (Lib.uvarint (xs[m]'(by omega))).dropLast) := by
    rw [← ES]
    intro j hj
    have hj' : j < (encB xs).length := by simp at hj; omega
    have := hby j hj'
    rw [this]
    simp
  have hl2 : (encB (xs.take m) ++ (Lib.uvarint (xs[m]'(by omega))).dropLast).length = nb - 1 := by rw [← ES]; simp; omega
  have hv1 : w1.cell? ⟨0, 0, none⟩ = some (.iface 46 (.pointer (some a))) := (hb1'.cell (by exact h0lt)).trans hv
  have hs1 : w1.cell? a = some (.string s) := (hb1'.cell (by exact halt)).trans hs
  have hFr : F.answers w1.tape := by rw [hb1'.tape]; exact hF
  have C := hide (note_short F (some ⟨g, 0, none⟩) (nb - 1) c g 0 n1 (xs.take m) _ (dec_short0 _ hx) hl2 (fun _ => rfl) (by omega) hcm (by simp; omega) h1 hwf w1 hby2 (fun _ => hg') a s hFr hv1 hs1)
  have HB := hide hb1'
  have hsz := hb1'.size
  unfold maxLen at hcm
  clear hown1 hby hby2 hl2 hv1 hs1 hFr hb1' ES hF hv hs R1 hwf hx hao hg
  go_wp2_with fail
  refine (unhide C).mono ?_
  rintro e w2 ⟨p, rfl, hb2⟩
  have HB2 := hide ((unhide HB).trans (hb2.mono hsz))
  clear hb2 HB C
  go_wp2
  go_ret
  exact ⟨rfl, unhide HB2⟩
end Go.Proofs.YbulkahrmFmt
