import Derived.Test.YbulkahrmPeekWalk
namespace Go.Proofs.Ybulkahrm
open Go.RowKit
set_option linter.unusedVariables false

set_option maxRecDepth 100000 in
set_option maxHeartbeats 400000 in
theorem order_long (a : Option Addr) (n c : Nat) (el st ex : Int) (w : World) (h : (1024 : Int) < (n : Int)) :
    Calls Yba.prog 3 #[.slice a n c, .int .i64 el, .int .u16 st, .int .u8 ex] w fun e w' => e = .returned (.bool true) ∧ Below w.heap.size w w' := by
  go_enter Yba.func3, Yba.ntmps3
  go_wp2
  go_ret
  exact ⟨rfl, Below.refl _ _⟩

set_option maxRecDepth 100000 in
set_option maxHeartbeats 4000000 in
theorem order_short (a : Option Addr) (n c b o : Nat) (ts : List Tk) (el : Int) (st : Nat) (ex : Int) (hst : st ≤ 65535) (hex0 : 0 ≤ ex) (hex1 : ex ≤ 255) (w : World) (R : RowT w a n b o ts) (hn : n ≤ 1024) :
    Calls Yba.prog 3 #[.slice a n c, .int .i64 el, .int .u16 st, .int .u8 ex] w fun e w' => e = .returned (.bool true) ∧ Below w.heap.size w w' := by
  obtain ⟨p, hp, hpn⟩ := rem_nat st n
  have hlen := R.len
  have hbl := built_len ts el
  have hlast := built_last ts el (by rw [hbl]; omega)
  go_enter Yba.func3, Yba.ntmps3
  go_wp2_with fail
  refine (build_toks a n c b o ts el w R hn).mono ?_
  rintro e w1 ⟨g, o', cap, rfl, hT, hg, hb1⟩
  have hlast' : ∀ h : n < (built ts el).length, (built ts el)[n].k = 0 := fun h => by subst hlen; exact hlast
  clear hlast
  generalize built ts el = T at *
  clear R
  have HT := hide hT
  have HB := hide hb1
  have HL := hide hlast'
  have hTn : T.length = n + 1 := by omega
  clear hT hb1 hlast' hlen hbl
  go_wp2_with fail
  have hPa : Pars (w1.alloc (.cells #[.slice (some ⟨g, o', none⟩) (n + 1) cap, .int .i64 p] 28)) w1.heap.size g o' (n + 1) cap p := heap_alloc_new w1 _
  have hTa := (unhide HT).below ((Below.refl _ w1).alloc (Nat.le_refl _) (.cells #[.slice (some ⟨g, o', none⟩) (n + 1) cap, .int .i64 p] 28)) hg
  have hBa : Hid (Below w.heap.size w (w1.alloc (.cells #[.slice (some ⟨g, o', none⟩) (n + 1) cap, .int .i64 p] 28))) := (unhide HB).alloc (unhide HB).size _
  have hszW : (w1.alloc (.cells #[.slice (some ⟨g, o', none⟩) (n + 1) cap, .int .i64 p] 28)).heap.size = w1.heap.size + 1 := by simp
  have hw1 := (unhide HB).size
  generalize (w1.alloc (.cells #[.slice (some ⟨g, o', none⟩) (n + 1) cap, .int .i64 p] 28)) = W at *
  clear HB HT
  have HTa := hide hTa
  have HPa := hide hPa
  clear hTa hPa
  rw [hp]
  clear hp
  go_loop [12] (fun vs => ∃ q : Nat, p ≤ q ∧ q ≤ n ∧ vs = .int .i64 q ∧ ∀ m (hm : m < T.length), p ≤ m → m < q → T[m].k ≠ 0) (fun vs => n - (intOf vs).toNat)
  case atStart => exact ⟨p, Nat.le_refl _, hpn, rfl, fun m hm h1 h2 => by omega⟩
  case round =>
    obtain ⟨q, hpq, hqn, rfl, hno⟩ := hrel
    have hqT : q < T.length := by omega
    have t0 := ((unhide HTa) q hqT).1
    have Bq0 : (0 : Int) ≤ (q : Int) := Int.natCast_nonneg _
    have Bq1 : (q : Int) < (n : Int) + 1 := by omega
    by_cases hk : T[q].k = 0
    · -- the first EOF is found
      rw [hk] at t0
      have HNo := hide hno
      have HK := hide hk
      clear hno hk
      go_wp2
      have hN0 : 0 ≤ (n : Int) + 1 - (p : Int) + ex % 8 := by omega
      have hN1 : (n : Int) + 1 - (p : Int) + ex % 8 ≤ 2000 := by omega
      generalize (n : Int) + 1 - (p : Int) + ex % 8 = N at *
      clear t0
      go_loopw [14] (fun vi wr => ∃ i : Nat, (i : Int) ≤ N ∧ vi = .int .i64 i ∧ Pars wr w1.heap.size g o' (n + 1) cap (min (p + i) q) ∧ Below w1.heap.size W wr) (fun vi _ => (N - intOf vi).toNat)
      case atStart => exact ⟨0, hN0, rfl, by rw [show min (p + 0) q = p by omega]; exact unhide HPa, Below.refl _ _⟩
      case round =>
        obtain ⟨i, hiN, rfl, hPr, hBr⟩ := hrel
        have hTr := (unhide HTa).below hBr hg
        have hszr : w1.heap.size < wr.heap.size := hPr.lt
        have HBr := hide hBr
        clear hBr
        by_cases hlt : (i : Int) < N
        · rcases Nat.lt_trichotomy (p + i) q with hAB | hAB | hAB
          · -- case A
            have hmT : p + i < T.length := by omega
            have hne := unhide HNo (p + i) hmT (by omega) hAB
            have hkb : (T[p + i].k != 0) = true := by simpa using hne
            have x0 := (hTr (p + i) hmT).1
            have x1 := (hTr (p + i) hmT).2.1
            have x2 := (hTr (p + i) hmT).2.2
            have hPr' : Pars wr w1.heap.size g o' (n + 1) cap (p + i) := by rw [show min (p + i) q = p + i by omega] at hPr; exact hPr
            clear hne hTr hPr
            generalize T[p + i].k = k at x0 hkb
            generalize T[p + i].s = sx at x1
            generalize T[p + i].l = lx at x2
            have Bm0 : (0 : Int) ≤ (p : Int) + (i : Int) := by omega
            have Bm1 : (p : Int) + (i : Int) < (n : Int) + 1 := by omega
            go_wp2_with fail
            refine (next_more w1.heap.size g o' (n + 1) cap (p + i) k sx lx hkb (by omega) (by omega) wr hPr' hg x0 x1 x2).mono ?_
            rintro e w2 ⟨rfl, PC, hgr⟩
            have y0 : w2.cell? ⟨g, o' + (p + i) * 3, none⟩ = some (.int .u8 k) := hgr.cell x0 (by simp; omega)
            have y1 : w2.cell? ⟨g, o' + (p + i) * 3 + 1, none⟩ = some (.string sx) := hgr.cell x1 (by simp; omega)
            have y2 : w2.cell? ⟨g, o' + (p + i) * 3 + 2, none⟩ = some (.int .i64 lx) := hgr.cell x2 (by simp; omega)
            have p1 := PC.c1
            have hsz2 : w1.heap.size < w2.heap.size := PC.lt
            have hgl2 : g < w2.heap.size := by omega
            have HB2 : Hid (Below w1.heap.size W w2) := (unhide HBr).grown hgr (by omega) (by intro k' hk'; simp at hk'; omega)
            have HPC := hide PC
            clear PC hPr' x0 x1 x2 hgr HBr
            go_wp2
            go_quiet (fail)
            go_wp2
            go_roundw
            case rel => exact ⟨i + 1, by omega, by go_num, by rw [show min (p + (i + 1)) q = (p + i + 1) by omega]; exact (unhide HPC).below (below_drewN ((Below.refl _ w2).alloc (Nat.le_refl _) _) _) (by omega), below_drewN ((unhide HB2).alloc (by omega) _) _⟩
            case measure => simp [intOf]; omega
          · -- case B
            have hle1 : p + i ≤ q := by omega
            have hle2 : q ≤ p + i := by omega
            have E := hide hAB
            clear hAB
            have x0 := (hTr q hqT).1
            have x1 := (hTr q hqT).2.1
            have x2 := (hTr q hqT).2.2
            have hPr' : Pars wr w1.heap.size g o' (n + 1) cap q := by rw [show min (p + i) q = q by omega] at hPr; exact hPr
            rw [unhide HK] at x0
            clear hTr hPr
            generalize T[q].s = sx at x1
            generalize T[q].l = lx at x2
            have Bm0 : (0 : Int) ≤ (p : Int) + (i : Int) := by omega
            have Bm1 : (p : Int) + (i : Int) < (n : Int) + 1 := by omega
            go_wp2_with fail
            refine (next_eof w1.heap.size g o' (n + 1) cap q sx lx (by omega) (by omega) wr hPr' hg x0 x1 x2).mono ?_
            rintro e w2 ⟨rfl, PC, hgr⟩
            have y0 : w2.cell? ⟨g, o' + (p + i) * 3, none⟩ = some (.int .u8 0) := by rw [unhide E]; exact hgr.cell x0 (by simp; omega)
            have y1 : w2.cell? ⟨g, o' + (p + i) * 3 + 1, none⟩ = some (.string sx) := by rw [unhide E]; exact hgr.cell x1 (by simp; omega)
            have y2 : w2.cell? ⟨g, o' + (p + i) * 3 + 2, none⟩ = some (.int .i64 lx) := by rw [unhide E]; exact hgr.cell x2 (by simp; omega)
            have p1 := PC.c1
            have hsz2 : w1.heap.size < w2.heap.size := PC.lt
            have hgl2 : g < w2.heap.size := by omega
            have HB2 : Hid (Below w1.heap.size W w2) := (unhide HBr).grown hgr (by omega) (by intro k' hk'; simp at hk'; omega)
            have HPC := hide PC
            clear PC hPr' x0 x1 x2 hgr HBr
            go_wp2
            go_quiet (fail)
            go_wp2
            go_roundw
            case rel => exact ⟨i + 1, by omega, by go_num, by rw [show min (p + (i + 1)) q = q by omega]; exact (unhide HPC).below (below_drewN ((Below.refl _ w2).alloc (Nat.le_refl _) _) _) (by omega), below_drewN ((unhide HB2).alloc (by omega) _) _⟩
            case measure => simp [intOf]; omega
          · -- case C
            have x0 := (hTr q hqT).1
            have x1 := (hTr q hqT).2.1
            have x2 := (hTr q hqT).2.2
            have hPr' : Pars wr w1.heap.size g o' (n + 1) cap q := by rw [show min (p + i) q = q by omega] at hPr; exact hPr
            rw [unhide HK] at x0
            clear hTr hPr
            generalize T[q].s = sx at x1
            generalize T[q].l = lx at x2
            have Bm0 : (0 : Int) ≤ (q : Int) := by omega
            have Bm1 : (q : Int) < (n : Int) + 1 := by omega
            go_wp2_with fail
            refine (next_eof w1.heap.size g o' (n + 1) cap q sx lx (by omega) (by omega) wr hPr' hg x0 x1 x2).mono ?_
            rintro e w2 ⟨rfl, PC, hgr⟩
            have y0 : w2.cell? ⟨g, o' + q * 3, none⟩ = some (.int .u8 0) := hgr.cell x0 (by simp; omega)
            have y1 : w2.cell? ⟨g, o' + q * 3 + 1, none⟩ = some (.string sx) := hgr.cell x1 (by simp; omega)
            have y2 : w2.cell? ⟨g, o' + q * 3 + 2, none⟩ = some (.int .i64 lx) := hgr.cell x2 (by simp; omega)
            have p1 := PC.c1
            have hsz2 : w1.heap.size < w2.heap.size := PC.lt
            have hgl2 : g < w2.heap.size := by omega
            have HB2 : Hid (Below w1.heap.size W w2) := (unhide HBr).grown hgr (by omega) (by intro k' hk'; simp at hk'; omega)
            have HPC := hide PC
            clear PC hPr' x0 x1 x2 hgr HBr
            go_wp2
            go_quiet (fail)
            go_wp2
            go_roundw
            case rel => exact ⟨i + 1, by omega, by go_num, by rw [show min (p + (i + 1)) q = q by omega]; exact (unhide HPC).below (below_drewN ((Below.refl _ w2).alloc (Nat.le_refl _) _) _) (by omega), below_drewN ((unhide HB2).alloc (by omega) _) _⟩
            case measure => simp [intOf]; omega
        · have HF : Hid (Below w.heap.size w wr) := (unhide hBa).trans ((unhide HBr).mono hw1)
          clear hTr hPr HBr
          go_wp2
          go_ret
          exact ⟨rfl, unhide HF⟩
    · have hkb : (T[q].k != 0) = true := by simpa using hk
      have hqn' : q < n := by
        rcases Nat.lt_or_ge q n with h | h
        · exact h
        · obtain rfl : q = n := by omega
          exact absurd (unhide HL hqT) hk
      have hno' := hide (show ∀ m (hm : m < T.length), p ≤ m → m < q + 1 → T[m].k ≠ 0 from fun m hm h1 h2 => by
        rcases Nat.lt_or_ge m q with h | h
        · exact hno m hm h1 h
        · obtain rfl : m = q := by omega
          exact hk)
      clear hno hk
      generalize T[q].k = k at t0 hkb
      go_wp2
      go_round
      case rel => exact ⟨q + 1, by omega, by omega, by go_num, unhide hno'⟩
      case measure => simp [intOf]; omega
end Go.Proofs.Ybulkahrm
