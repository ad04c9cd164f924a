import Derived.Test.YbulkahouSeek
namespace Go.Proofs.Ybulkahou
open Go.RowKit
set_option linter.unusedVariables false

set_option maxHeartbeats 400000 in
theorem seek_none (ao : Option Addr) (c : Nat) (s : ByteArray) (w : World) :
    Calls Yba.prog 12 #[.slice ao 0 c, .string s] w fun e w' => e = .returned (.int .i64 0) ∧ w' = w := by
  go_enter Yba.func12, Yba.ntmps12
  go_wp2
  refine wp_loop_rounds 1 ?_
  rw [rounds_succ]
  go_wp2
  go_ret
  exact ⟨rfl, rfl⟩

theorem hide {p : Prop} (h : p) : Hid p := h
theorem unhide {p : Prop} (h : Hid p) : p := h
theorem ret_int {k : IntKind} {a b : Int} (h : a = b) : Ending.returned (.int k a) = .returned (.int k b) := by rw [h]

theorem Lies.mid {w : World} {g o : Nat} {es : List (Nat × Int)} (h : Lies w g o es) (lo hi : Nat) : Lies w g (o + lo * 2) ((es.drop lo).take (hi - lo)) := by
  intro i hi'
  have hlt : lo + i < es.length := by simp at hi'; omega
  have := h (lo + i) hlt
  have e : o + (lo + i) * 2 = o + lo * 2 + i * 2 := by omega
  rw [e] at this
  simpa using this

/-- The last step of the search, in the middle part. -/
theorem index_mid (g o n c : Nat) (es : List (Nat × Int)) (t : Nat) (hG : Good es) (hn : es.length = n) (hn' : n ≤ 676) (ht : t < 676) (w : World) (hL : Lies w g o es) (hg : g < w.heap.size)
    (lo hi : Nat) (h1 : lo ≤ cnt es t) (h2 : cnt es t ≤ hi) (h3 : hi ≤ n) :
    ∃ m : Nat, lo + m = cnt es t ∧ Calls Yba.prog 13 #[.agg #[.slice (some ⟨g, o + lo * 2, none⟩) (hi - lo) (c - lo)], .string (nm t)] w fun e w' => ∃ b, e = .returned (.tuple #[.int .i64 (m : Nat), .bool b]) ∧ Below w.heap.size w w' := by
  refine ⟨cnt es t - lo, by omega, ?_⟩
  have := index_any g (o + lo * 2) (hi - lo) (c - lo) ((es.drop lo).take (hi - lo)) t ((hG.drop lo).take _) (by simp; omega) (by omega) ht w (hL.mid lo hi) hg
  rw [cnt_mid hG t lo hi h1 h2 (by omega)] at this
  exact this

set_option maxHeartbeats 400000 in
theorem seek_some (g o n c : Nat) (es : List (Nat × Int)) (t : Nat) (hG : Good es) (hn : es.length = n) (hn' : n ≤ 676) (hnc : n ≤ c) (hc : c ≤ maxLen) (ht : t < 676) (w : World) (hL : Lies w g o es) (hg : g < w.heap.size) :
    Calls Yba.prog 12 #[.slice (some ⟨g, o, none⟩) n c, .string (nm t)] w fun e w' => e = .returned (.int .i64 (cnt es t)) ∧ Below w.heap.size w w' := by
  have hcl := cnt_le es t
  go_enter Yba.func12, Yba.ntmps12
  go_wp2
  go_loop [5, 6, 7] (fun l h s => ∃ lo hi st : Nat, lo ≤ cnt es t ∧ lo ≤ hi ∧ hi ≤ n ∧ 1 ≤ st ∧ st ≤ 2 * n + 2 ∧ (hi < n → st ≤ hi + 1) ∧ l = .int .i64 lo ∧ h = .int .i64 hi ∧ s = .int .i64 st) (fun _ h _ => n - (intOf h).toNat)
  case atStart => exact ⟨0, 0, 1, Nat.zero_le _, Nat.le_refl _, Nat.zero_le _, Nat.le_refl _, by omega, by omega, rfl, rfl, rfl⟩
  case round =>
    obtain ⟨lo, hi, st, h1, h2, h3, h4, h5, h6, rfl, rfl, rfl⟩ := hrel
    by_cases hlt : hi < n
    · have hm : hi < es.length := by omega
      have c0 := (hL _ hm).1
      have hkey := hG.key _ (List.getElem_mem hm)
      have hci := cnt_iff hG t _ hm
      generalize es[hi].1 = k at c0 hkey hci
      have hbl := nm_less k t hkey ht
      by_cases hkt : k < t
      · have hlt := hci.1 hkt
        have hbl' : Op.bytesLess (nm k).toList (nm t).toList = true := by rw [hbl]; simpa using hkt
        clear hbl hci hn hm
        go_wp2
        go_round
        case rel => exact ⟨hi + 1, min (hi + st) n, st * 2, by omega, by omega, by omega, by omega, by omega, by omega, by go_num, by go_num, by go_num⟩
        case measure => simp [intOf]; omega
      · have hbl' : Op.bytesLess (nm k).toList (nm t).toList = false := by rw [hbl]; simpa using hkt
        have hle : cnt es t ≤ hi := Nat.le_of_not_lt (fun h => hkt (hci.2 h))
        clear hbl hci hm
        by_cases hlh : lo < hi
        · have hlh' : (lo : Int) ≤ (hi : Int) := by omega
          obtain ⟨m, hm, hidx⟩ := index_mid g o n c es t hG hn hn' ht w hL hg lo hi h1 hle h3
          have HI := hide hidx
          have HM : Hid (lo + m = cnt es t) := hm
          have hm676 : (m : Int) ≤ 676 := by omega
          clear hidx hm hn hL
          go_wp2_with fail
          refine (unhide HI).mono ?_
          rintro e w1 ⟨b, rfl, hb⟩
          have HB : Hid (Below w.heap.size w w1) := hb
          clear hb
          go_wp2
          go_ret
          exact ⟨ret_int (by have := HM.out; omega), HB.out⟩
        · clear hL hn
          go_wp2
          go_ret
          exact ⟨ret_int (by omega), Below.refl _ _⟩
    · have hle : cnt es t ≤ hi := by omega
      by_cases hlh : lo < hi
      · have hlh' : (lo : Int) ≤ (hi : Int) := by omega
        obtain ⟨m, hm, hidx⟩ := index_mid g o n c es t hG hn hn' ht w hL hg lo hi h1 hle h3
        have HI := hide hidx
        have HM : Hid (lo + m = cnt es t) := hm
        have hm676 : (m : Int) ≤ 676 := by omega
        clear hidx hm hn hL
        go_wp2_with fail
        refine (unhide HI).mono ?_
        rintro e w1 ⟨b, rfl, hb⟩
        have HB : Hid (Below w.heap.size w w1) := hb
        clear hb
        go_wp2
        go_ret
        exact ⟨ret_int (by have := HM.out; omega), HB.out⟩
      · clear hL hn
        go_wp2
        go_ret
        exact ⟨ret_int (by omega), Below.refl _ _⟩

/-- seek: how many entries stand below the name sought. -/
theorem seek_any (ao : Option Addr) (g o n c : Nat) (es : List (Nat × Int)) (t : Nat) (hao : 0 < n → ao = some ⟨g, o, none⟩) (hG : Good es) (hn : es.length = n) (hn' : n ≤ 676) (hnc : n ≤ c) (hc : c ≤ maxLen) (ht : t < 676) (w : World) (hL : 0 < n → Lies w g o es) (hg : g < w.heap.size) :
    Calls Yba.prog 12 #[.slice ao n c, .string (nm t)] w fun e w' => e = .returned (.int .i64 (cnt es t)) ∧ Below w.heap.size w w' := by
  by_cases h0 : n = 0
  · subst h0
    have : es = [] := List.eq_nil_of_length_eq_zero hn
    subst this
    exact (seek_none ao c (nm t) w).mono fun e w' ⟨he, hw⟩ => ⟨he, by rw [hw]; exact Below.refl _ _⟩
  · rw [hao (by omega)]
    exact seek_some g o n c es t hG hn hn' hnc hc ht w (hL (by omega)) hg
end Go.Proofs.Ybulkahou
