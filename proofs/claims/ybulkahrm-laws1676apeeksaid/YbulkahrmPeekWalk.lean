import Derived.Test.YbulkahrmNext
import Derived.Laws.StructEq
namespace Go.Proofs.Ybulkahrm
open Go.RowKit
set_option linter.unusedVariables false

/-- zzs1676abuild, as the laws want it. -/
theorem build_toks (a : Option Addr) (n c b o : Nat) (ts : List Tk) (el : Int) (w : World) (R : RowT w a n b o ts) (hn : n ≤ 1024) :
    Calls Yba.prog 5 #[.slice a n c, .int .i64 el] w fun e w' => ∃ g o' cap, e = .returned (.slice (some ⟨g, o', none⟩) (n + 1) cap) ∧ Toks w' g o' (built ts el) ∧ g < w'.heap.size ∧ Below w.heap.size w w' := by
  refine (build_any a n c b o ts el w R hn).mono ?_
  rintro e w' ⟨g, cap, rfl, hown, hb⟩
  refine ⟨g, 0, cap, rfl, fun i hi => ?_, (hown.lt g rfl).2, hb⟩
  have hc := hown.cells (g := g) rfl
  have e : ∀ j, (⟨g, 0, none⟩ : Addr).add j = ⟨g, 0 + j, none⟩ := fun j => by simp [Addr.add]; omega
  have h := cellsT_at _ i hi
  have c0 := hc _ _ h.1
  have c1 := hc _ _ h.2.1
  have c2 := hc _ _ h.2.2
  rw [e] at c0 c1 c2
  exact ⟨c0, c1, c2⟩

set_option maxRecDepth 100000 in
set_option maxHeartbeats 400000 in
theorem peek_long (a : Option Addr) (n c : Nat) (el st : Int) (w : World) (h : (1024 : Int) < (n : Int)) :
    Calls Yba.prog 4 #[.slice a n c, .int .i64 el, .int .u16 st] w fun e w' => e = .returned (.bool true) ∧ Below w.heap.size w w' := by
  go_enter Yba.func4, Yba.ntmps4
  go_wp2
  go_ret
  exact ⟨rfl, Below.refl _ _⟩

theorem rem_nat (st n : Nat) : ∃ p : Nat, (st : Int) % ((n : Int) + 1) = (p : Int) ∧ p ≤ n := by
  refine ⟨st % (n + 1), by push_cast; rfl, ?_⟩
  have := Nat.mod_lt st (show 0 < n + 1 by omega)
  omega

set_option maxRecDepth 100000 in
set_option maxHeartbeats 1000000 in
theorem peek_short (a : Option Addr) (n c b o : Nat) (ts : List Tk) (el : Int) (st : Nat) (hst : st ≤ 65535) (w : World) (R : RowT w a n b o ts) (hn : n ≤ 1024) :
    Calls Yba.prog 4 #[.slice a n c, .int .i64 el, .int .u16 st] w fun e w' => e = .returned (.bool true) ∧ Below w.heap.size w w' := by
  obtain ⟨p, hp, hpn⟩ := rem_nat st n
  have hlen := R.len
  have hbl := built_len ts el
  have hlast := built_last ts el (by rw [hbl]; omega)
  go_enter Yba.func4, Yba.ntmps4
  go_wp2_with fail
  refine (build_toks a n c b o ts el w R hn).mono ?_
  rintro e w1 ⟨g, o', cap, rfl, hT, hg, hb1⟩
  generalize built ts el = T at *
  clear R
  have HT := hide hT
  have HB := hide hb1
  clear hT hb1
  go_wp2_with fail
  have hpT : p < T.length := by omega
  have hPa : Pars (w1.alloc (.cells #[.slice (some ⟨g, o', none⟩) (n + 1) cap, .int .i64 p] 28)) w1.heap.size g o' (n + 1) cap p := heap_alloc_new w1 _
  have hTa := (unhide HT).below ((Below.refl _ w1).alloc (Nat.le_refl _) (.cells #[.slice (some ⟨g, o', none⟩) (n + 1) cap, .int .i64 p] 28)) hg
  have hBa : Hid (Below w.heap.size w (w1.alloc (.cells #[.slice (some ⟨g, o', none⟩) (n + 1) cap, .int .i64 p] 28))) := (unhide HB).alloc (unhide HB).size _
  have hszW : (w1.alloc (.cells #[.slice (some ⟨g, o', none⟩) (n + 1) cap, .int .i64 p] 28)).heap.size = w1.heap.size + 1 := by simp
  have hw1 := (unhide HB).size
  generalize (w1.alloc (.cells #[.slice (some ⟨g, o', none⟩) (n + 1) cap, .int .i64 p] 28)) = W at *
  have t0 := (hTa p hpT).1
  have t1 := (hTa p hpT).2.1
  have t2 := (hTa p hpT).2.2
  refine (peek_any w1.heap.size g o' (n + 1) cap p _ _ _ (by omega) (by omega) W hPa hg t0 t1 t2).mono ?_
  rintro e w2 ⟨rfl, hb2⟩
  have HTb := hide (hTa.below hb2 (by omega))
  have PA := hPa.below hb2 (by omega)
  have HBa : Hid (Below w.heap.size w w2) := (unhide hBa).trans (hb2.mono (by omega))
  have hsz2 : w1.heap.size < w2.heap.size := by have := hb2.size; omega
  clear hb2 hPa hTa hBa HB HT t0 t1 t2
  have hpn' : T[p].k ≠ 0 → p < n := fun h => by
    rcases Nat.lt_or_ge p n with h' | h'
    · exact h'
    · obtain rfl : p = n := by omega
      subst hlen
      exact absurd hlast h
  go_wp2_with fail
  have PB : Pars (w2.alloc (.cells #[.int .u8 T[p].k, .string T[p].s, .int .i64 T[p].l] 31)) w1.heap.size g o' (n + 1) cap p := PA.below ((Below.refl _ w2).alloc (Nat.le_refl _) _) hsz2
  have HTc := (unhide HTb).below ((Below.refl _ w2).alloc (Nat.le_refl _) (.cells #[.int .u8 T[p].k, .string T[p].s, .int .i64 T[p].l] 31)) (by omega)
  have HBb : Hid (Below w.heap.size w (w2.alloc (.cells #[.int .u8 T[p].k, .string T[p].s, .int .i64 T[p].l] 31))) := (unhide HBa).alloc (by omega) _
  have t0b := (HTc p hpT).1
  have t1b := (HTc p hpT).2.1
  have t2b := (HTc p hpT).2.2
  clear PA HTb HBa hlast hszW
  by_cases hk0 : T[p].k = 0
  · clear HTc hpn'
    generalize T[p].s = s at *
    generalize T[p].l = l at *
    rw [hk0] at *
    clear hk0
    refine (next_eof w1.heap.size g o' (n + 1) cap p s l (by omega) (by omega) _ PB hg t0b t1b t2b).mono ?_
    rintro e w3 ⟨rfl, PC, hgr⟩
    have x0 : w3.cell? ⟨w2.heap.size, 0, none⟩ = some (.int .u8 0) := hgr.cell (by simp) (by simp; omega)
    have x1 : w3.cell? ⟨w2.heap.size, 1, none⟩ = some (.string s) := hgr.cell (by simp) (by simp; omega)
    have x2 : w3.cell? ⟨w2.heap.size, 2, none⟩ = some (.int .i64 l) := hgr.cell (by simp) (by simp; omega)
    have y0 : w3.cell? ⟨g, o' + p * 3, none⟩ = some (.int .u8 0) := hgr.cell t0b (by simp; omega)
    have y1 : w3.cell? ⟨g, o' + p * 3 + 1, none⟩ = some (.string s) := hgr.cell t1b (by simp; omega)
    have y2 : w3.cell? ⟨g, o' + p * 3 + 2, none⟩ = some (.int .i64 l) := hgr.cell t2b (by simp; omega)
    have p0 := PC.c0
    have p1 := PC.c1
    have hsz3 : w2.heap.size < w3.heap.size := by have := hgr.size; simp at this; omega
    have HB3 : Hid (Below w.heap.size w w3) := (unhide HBb).grown hgr (by simp; omega) (by intro k' hk'; simp at hk'; omega)
    have HPC := hide PC
    clear PB PC t0b t1b t2b hgr HBb
    have hgl3 : g < w3.heap.size := by omega
    have hpl3 : w1.heap.size < w3.heap.size := by omega
    go_wp2_with fail
    have PD : ∀ x, Pars (w3.alloc x) w1.heap.size g o' (n + 1) cap p := fun x => (unhide HPC).below ((Below.refl _ w3).alloc (Nat.le_refl _) x) (by omega)
    have z0 : ∀ x, (w3.alloc x).cell? ⟨g, o' + p * 3, none⟩ = some (.int .u8 0) := fun x => (((Below.refl _ w3).alloc (Nat.le_refl _) x).cell (by show g < w3.heap.size; omega)).trans y0
    have z1 : ∀ x, (w3.alloc x).cell? ⟨g, o' + p * 3 + 1, none⟩ = some (.string s) := fun x => (((Below.refl _ w3).alloc (Nat.le_refl _) x).cell (by show g < w3.heap.size; omega)).trans y1
    have z2 : ∀ x, (w3.alloc x).cell? ⟨g, o' + p * 3 + 2, none⟩ = some (.int .i64 l) := fun x => (((Below.refl _ w3).alloc (Nat.le_refl _) x).cell (by show g < w3.heap.size; omega)).trans y2
    have HD := hide PD
    have Z0 := hide z0
    have Z1 := hide z1
    have Z2 := hide z2
    clear PD z0 z1 z2
    have Bq0 : (0 : Int) ≤ (p : Nat) := Int.natCast_nonneg _
    have Bq1 : (p : Int) < (n : Int) + 1 := by omega
    go_region_held3 (fun w' => w'.cell? ⟨w1.heap.size, 1, none⟩ = some (.int .i64 (p : Nat)) ∧ w'.cell? ⟨g, o' + p * 3, none⟩ = some (.int .u8 0) ∧ w'.cell? ⟨g, o' + p * 3 + 1, none⟩ = some (.string s) ∧ w'.cell? ⟨g, o' + p * 3 + 2, none⟩ = some (.int .i64 l))
      (first | (go_keep; done) | (go_split_ands; refine ⟨?_, ?_, ?_, ?_⟩ <;> (rw [hb4.cell (by simp; omega)]; assumption)))
      (first | (go_at_call 7; refine (peek_any w1.heap.size g o' (n + 1) cap p 0 s l (by omega) (by omega) _ (by exact unhide HD _) (by omega) (by exact unhide Z0 _) (by exact unhide Z1 _) (by exact unhide Z2 _)).mono ?_; rintro e w4 ⟨rfl, hb4⟩))
    go_wp2
    go_ret
    refine ⟨rfl, Below.trans (b := _) ?_ (hb4.mono ?_)⟩
    · exact ((unhide HB3).alloc (by omega) _).drew
    · simp; omega
  · have hp1 := hpn' hk0
    have hpT1 : p + 1 < T.length := by omega
    have r0b := (HTc (p + 1) hpT1).1
    have r1b := (HTc (p + 1) hpT1).2.1
    have r2b := (HTc (p + 1) hpT1).2.2
    have hkb : (T[p].k != 0) = true := by simpa using hk0
    have hke : (T[p].k == 0) = false := by simpa using hk0
    clear HTc hpn' hk0
    generalize T[p].k = k at *
    generalize T[p].s = s at *
    generalize T[p].l = l at *
    generalize T[p + 1].k = k2 at *
    generalize T[p + 1].s = s2 at *
    generalize T[p + 1].l = l2 at *
    refine (next_more w1.heap.size g o' (n + 1) cap p k s l hkb (by omega) (by omega) _ PB hg t0b t1b t2b).mono ?_
    rintro e w3 ⟨rfl, PC, hgr⟩
    have x0 : w3.cell? ⟨w2.heap.size, 0, none⟩ = some (.int .u8 k) := hgr.cell (by simp) (by simp; omega)
    have x1 : w3.cell? ⟨w2.heap.size, 1, none⟩ = some (.string s) := hgr.cell (by simp) (by simp; omega)
    have x2 : w3.cell? ⟨w2.heap.size, 2, none⟩ = some (.int .i64 l) := hgr.cell (by simp) (by simp; omega)
    have y0 : w3.cell? ⟨g, o' + (p + 1) * 3, none⟩ = some (.int .u8 k2) := hgr.cell r0b (by simp; omega)
    have y1 : w3.cell? ⟨g, o' + (p + 1) * 3 + 1, none⟩ = some (.string s2) := hgr.cell r1b (by simp; omega)
    have y2 : w3.cell? ⟨g, o' + (p + 1) * 3 + 2, none⟩ = some (.int .i64 l2) := hgr.cell r2b (by simp; omega)
    have p0 := PC.c0
    have p1 := PC.c1
    have hsz3 : w2.heap.size < w3.heap.size := by have := hgr.size; simp at this; omega
    have HB3 : Hid (Below w.heap.size w w3) := (unhide HBb).grown hgr (by simp; omega) (by intro k' hk'; simp at hk'; omega)
    have HPC := hide PC
    clear PB PC t0b t1b t2b hgr HBb r0b r1b r2b
    have hgl3 : g < w3.heap.size := by omega
    have hpl3 : w1.heap.size < w3.heap.size := by omega
    go_wp2_with fail
    have PD : ∀ x, Pars (w3.alloc x) w1.heap.size g o' (n + 1) cap (p + 1) := fun x => (unhide HPC).below ((Below.refl _ w3).alloc (Nat.le_refl _) x) (by omega)
    have z0 : ∀ x, (w3.alloc x).cell? ⟨g, o' + (p + 1) * 3, none⟩ = some (.int .u8 k2) := fun x => (((Below.refl _ w3).alloc (Nat.le_refl _) x).cell (by show g < w3.heap.size; omega)).trans y0
    have z1 : ∀ x, (w3.alloc x).cell? ⟨g, o' + (p + 1) * 3 + 1, none⟩ = some (.string s2) := fun x => (((Below.refl _ w3).alloc (Nat.le_refl _) x).cell (by show g < w3.heap.size; omega)).trans y1
    have z2 : ∀ x, (w3.alloc x).cell? ⟨g, o' + (p + 1) * 3 + 2, none⟩ = some (.int .i64 l2) := fun x => (((Below.refl _ w3).alloc (Nat.le_refl _) x).cell (by show g < w3.heap.size; omega)).trans y2
    have HD := hide PD
    have Z0 := hide z0
    have Z1 := hide z1
    have Z2 := hide z2
    clear PD z0 z1 z2
    have Bq0 : (0 : Int) ≤ (p : Int) + 1 := by omega
    have Bq1 : (p : Int) + 1 < (n : Int) + 1 := by omega
    have Bq2 : (p : Int) < (n : Int) := by omega
    go_region_held3 (fun w' => w'.cell? ⟨w1.heap.size, 1, none⟩ = some (.int .i64 ((p : Int) + 1)) ∧ w'.cell? ⟨g, o' + (p + 1) * 3, none⟩ = some (.int .u8 k2) ∧ w'.cell? ⟨g, o' + (p + 1) * 3 + 1, none⟩ = some (.string s2) ∧ w'.cell? ⟨g, o' + (p + 1) * 3 + 2, none⟩ = some (.int .i64 l2))
      (first | (go_keep; done) | (go_split_ands; refine ⟨?_, ?_, ?_, ?_⟩ <;> (rw [hb4.cell (by simp; omega)]; assumption)))
      (first | (go_at_call 7; refine (peek_any w1.heap.size g o' (n + 1) cap (p + 1) k2 s2 l2 (by omega) (by omega) _ (by exact unhide HD _) (by omega) (by exact unhide Z0 _) (by exact unhide Z1 _) (by exact unhide Z2 _)).mono ?_; rintro e w4 ⟨rfl, hb4⟩))
    go_wp2
    go_ret
    refine ⟨rfl, Below.trans (b := _) ?_ (hb4.mono ?_)⟩
    · exact ((unhide HB3).alloc (by omega) _).drew
    · simp; omega
end Go.Proofs.Ybulkahrm
