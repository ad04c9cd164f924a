import Derived.Test.YbulkahrmDoorReader
import Derived.Laws.IdiomStrings
import Derived.Laws.BytesArg
import Derived.Laws.AppendOwnNone
import Derived.Deep.AppendLies
namespace Go.Proofs.YbulkahrmDoor
open Go.RowKit
set_option linter.unusedVariables false

theorem Ybad.info5 : (Ybad.prog.info? 5).map (fun i => (i.zero, i.size, i.bytes)) = some (some (.int .u8 0), 1, 1) := by kernel_rfl

theorem conv_bytes (ao : Option Addr) (n c g o : Nat) (t : List UInt8) (hl : t.length = n) (hao : 0 < n → ao = some ⟨g, o, none⟩) (w : World) (hb : Bytes w g o t) :
    (convert 23 9 (.slice ao n c)).run Ybad.prog w = .ok (.string ⟨t.toArray⟩) w := by
  subst hl
  rcases Nat.eq_zero_or_pos t.length with h0 | h0
  · have : t = [] := List.eq_nil_of_length_eq_zero h0
    subst this
    cases ao with
    | none => exact run_convert_bytes_nil w 23 5 Ybad.underlying23 Ybad.underlying5 0 c 9 Ybad.underlying9
    | some a => exact run_convert_bytes_back w 23 9 5 a c [] Ybad.underlying23 Ybad.underlying5 Ybad.underlying9 (by intro j hj; simp at hj)
  · rw [hao h0]
    exact run_convert_bytes_back w 23 9 5 ⟨g, o, none⟩ c t Ybad.underlying23 Ybad.underlying5 Ybad.underlying9 (fun j hj => by
      rw [show (⟨g, o, none⟩ : Addr).add j = ⟨g, o + j, none⟩ by unfold Addr.add; split <;> simp_all]
      exact hb j hj)

set_option maxHeartbeats 400000 in
theorem equal_same (a1 a2 : Option Addr) (n c1 c2 g1 o1 g2 o2 : Nat) (t : List UInt8) (hl : t.length = n) (h1 : 0 < n → a1 = some ⟨g1, o1, none⟩) (h2 : 0 < n → a2 = some ⟨g2, o2, none⟩) (w : World) (b1 : Bytes w g1 o1 t) (b2 : Bytes w g2 o2 t) :
    Calls Ybad.prog 8 #[.slice a1 n c1, .slice a2 n c2] w fun e w' => e = .returned (.bool true) ∧ w' = w := by
  have k1 := conv_bytes a1 n c1 g1 o1 t hl h1 w b1
  have k2 := conv_bytes a2 n c2 g2 o2 t hl h2 w b2
  generalize (⟨t.toArray⟩ : ByteArray) = s at k1 k2
  clear b1 b2 h1 h2 hl
  go_enter Ybad.func8, Ybad.ntmps8
  go_wp2
  go_ret
  exact ⟨rfl, rfl⟩

set_option maxHeartbeats 400000 in
theorem newReader_any (a : Option Addr) (n c : Nat) (w : World) :
    Calls Ybad.prog 6 #[.slice a n c] w fun e w' => e = .returned (.pointer (some ⟨w.heap.size, 0, none⟩)) ∧ w' = w.alloc (.cells #[.slice a n c, .nilIface] 38) := by
  go_enter Ybad.func6, Ybad.ntmps6
  go_wp2
  go_ret
  exact ⟨rfl, rfl⟩

/-- A byte slice that came in. -/
structure RowB (w : World) (a : Option Addr) (n b o : Nat) (t : List UInt8) : Prop where
  len : t.length = n
  at' : 0 < n → a = some ⟨b, o, none⟩
  lt : 0 < n → b < w.heap.size
  bytes : Bytes w b o t

set_option maxRecDepth 100000 in
set_option maxHeartbeats 400000 in
theorem trip_long (x : Int) (a : Option Addr) (n c : Nat) (w : World) (h : (1024 : Int) < (n : Int)) :
    Calls Ybad.prog 3 #[.int .u64 x, .slice a n c] w fun e w' => e = .returned (.bool true) ∧ Below w.heap.size w w' := by
  go_enter Ybad.func3, Ybad.ntmps3
  go_wp2
  go_ret
  exact ⟨rfl, Below.refl _ _⟩

theorem Bytes.below {B : Nat} {w w' : World} {g o : Nat} {l : List UInt8} (h : Bytes w g o l) (hb : Below B w w') (hg : 0 < l.length → g < B) : Bytes w' g o l :=
  fun j hj => (hb.cell (by exact hg (by omega))).trans (h j hj)

set_option maxHeartbeats 400000 in
theorem unread_any (rb : Nat) (v ev : Value) (w : World) (h : w.heap[rb]? = some (.cells #[v, ev] 38 (0, 0))) :
    Calls Ybad.prog 9 #[.pointer (some ⟨rb, 0, none⟩)] w fun e w' => e = .returned v ∧ w' = w := by
  have c0 : w.cell? ⟨rb, 0, none⟩ = some v := by simp [World.cell?, h]
  clear h
  go_enter Ybad.func9, Ybad.ntmps9
  go_wp2
  go_ret
  exact ⟨rfl, rfl⟩

set_option maxHeartbeats 400000 in
theorem err_any (rb : Nat) (v ev : Value) (w : World) (h : w.heap[rb]? = some (.cells #[v, ev] 38 (0, 0))) :
    Calls Ybad.prog 10 #[.pointer (some ⟨rb, 0, none⟩)] w fun e w' => e = .returned ev ∧ w' = w := by
  have c0 : w.cell? ⟨rb, 1, none⟩ = some ev := by simp [World.cell?, h]
  clear h
  go_enter Ybad.func10, Ybad.ntmps10
  go_wp2
  go_ret
  exact ⟨rfl, rfl⟩

theorem own_cap {w : World} {base g n cap : Nat} {v : Value} {xs : List Value} (h : w.ownsRow base 5 1 v n xs) (hv : v = .slice (some ⟨g, 0, none⟩) n cap) : n ≤ cap ∧ cap ≤ maxLen := by
  subst hv
  rcases h.2 with ⟨h, _⟩ | ⟨g', cap', cur, h, _, _, h1, h2, _⟩
  · cases h
  · injection h with _ _ hc
    subst hc
    exact ⟨h1, h2⟩

theorem own_bytes {w : World} {base g n cap : Nat} {v : Value} {l : List UInt8} (h : w.ownsRow base 5 1 v n (Lib.byteCells l)) (hv : v = .slice (some ⟨g, 0, none⟩) n cap) : Bytes w g 0 l := by
  subst hv
  intro j hj
  have := h.cells (g := g) rfl j (.int .u8 (l[j]).toNat) (by simp [Lib.byteCells, hj])
  rw [show (⟨g, 0, none⟩ : Addr).add j = ⟨g, 0 + j, none⟩ by simp [Addr.add]; omega] at this
  exact this

theorem news_bytes {w : World} {ad : Addr} {n b o : Nat} {t : List UInt8} (hl : t.length = n) (hat : 0 < n → some ad = some ⟨b, o, none⟩) (hb : Bytes w b o t) :
    ∀ j u, (Lib.byteCells t)[j]? = some u → w.cell? (ad.add j) = some u := by
  intro j u hu
  have hj : j < t.length := by have := (List.getElem?_eq_some_iff.1 hu).1; simpa [Lib.byteCells] using this
  have e := hat (by omega)
  injection e with e
  subst e
  rw [show (⟨b, o, none⟩ : Addr).add j = ⟨b, o + j, none⟩ by unfold Addr.add; split <;> simp_all, hb j hj]
  simp [Lib.byteCells, hj] at hu
  rw [← hu]

theorem byteCells_one (l : List UInt8) : ∀ v ∈ Lib.byteCells l, v.oneCell' = true := by
  intro v hv
  obtain ⟨_, _, rfl⟩ := List.mem_map.1 hv
  rfl

set_option maxRecDepth 100000 in
set_option maxHeartbeats 1000000 in
theorem trip_some (x : Nat) (hx : x < 18446744073709551616) (ad : Addr) (n c b o : Nat) (t : List UInt8) (w : World) (R : RowB w (some ad) n b o t) (hn : n ≤ 1024) :
    Calls Ybad.prog 3 #[.int .u64 x, .slice (some ad) n c] w fun e w' => e = .returned (.bool true) ∧ Below w.heap.size w w' := by
  obtain ⟨i0, hi, hz0, hz1, hz2⟩ := info_parts Ybad.info5
  have hp := Lib.uvarint_pos x
  have hl10 := Lib.uvarint_length64 hx
  have HD := hide (dec_enc0 x t hx)
  have hlt := R.len
  go_enter Ybad.func3, Ybad.ntmps3
  go_wp2_with fail
  refine (Ybad.binary_AppendUvarint w.heap.size 0 x hx (.slice none 0 0) [] w (World.ownsRow_nil _ _ _ _) (Nat.le_refl _) (by omega)).mono ?_
  rintro e w1 ⟨v1, rfl, hown, hb1⟩
  simp only [Nat.zero_add, List.nil_append] at hown
  have hnews := news_bytes (ad := ad) R.len R.at' (R.bytes.below hb1 (fun h => R.lt (by rw [← R.len]; exact h)))
  have hown0 := hown.lt
  have hw1 := hb1.size
  have hlb : (Lib.byteCells t).length = n * 1 := by simp [Lib.byteCells, hlt]
  go_wp2_with (at_builtin; refine wpList_append_own _ rfl _ _ 23 rfl w.heap.size 5 i0 (.int .u8 0) 1 1 Ybad.underlying23 hi hz0 hz1 hz2 rfl (by decide) v1 (Lib.uvarint x).length (Lib.byteCells (Lib.uvarint x)) rfl hown ad n c (Lib.byteCells t) rfl hlb hnews (byteCells_one t) (by unfold maxLen; omega) (by omega) hw1 ?_; intro v2 w2 hown2 hgr1 _)
  have hb2 : Below w.heap.size w w2 := hb1.grown hgr1 hw1 (fun k hk => (hown0 k hk).1)
  rw [show Lib.byteCells (Lib.uvarint x) ++ Lib.byteCells t = Lib.byteCells (Lib.uvarint x ++ t) by simp [Lib.byteCells]] at hown2
  clear hown hb1 hnews hown0 hw1 hlb hgr1
  have hw0 := hb2.size
  obtain ⟨g, cap, hv, hg0, hg1⟩ := hown2.form (by omega)
  have hcap := own_cap hown2 hv
  have hby : Bytes w2 g 0 (Lib.uvarint x ++ t) := own_bytes hown2 hv
  subst hv
  have hlen : (Lib.uvarint x ++ t).length = (Lib.uvarint x).length + n := by rw [List.length_append, R.len]
  have htb : Bytes w2 b o t := R.bytes.below hb2 (fun h => R.lt (by rw [← R.len]; exact h))
  have hblt : 0 < n → b < w.heap.size := R.lt
  have hat := R.at'
  have HOW := hide hcap
  have HBY := hide hby
  have HTB := hide htb
  have HB2 := hide hb2
  clear hown2 hcap hby htb hb2 R
  go_wp2_with fail
  refine (newReader_any _ _ _ _).mono ?_
  rintro e w3 ⟨rfl, hw3⟩
  have Rd3 : Rd w3 w2.heap.size g 0 (Lib.uvarint x ++ t) .nilIface := by
    subst hw3
    refine ⟨⟨some ⟨g, 0, none⟩, cap, by rw [hlen]; exact heap_alloc_new w2 _, fun _ => rfl, by rw [hlen]; exact (unhide HOW).1, (unhide HOW).2⟩, (unhide HBY).below ((Below.refl _ w2).alloc (Nat.le_refl _) _) (fun _ => hg1), by omega⟩
  have hb3 : Below w2.heap.size w2 w3 := by subst hw3; exact (Below.refl _ w2).alloc (Nat.le_refl _) _
  have htb3 : Bytes w3 b o t := (unhide HTB).below hb3 (fun h => by have := hblt (by omega); omega)
  have HB3 : Hid (Below w.heap.size w w3) := (unhide HB2).trans (hb3.mono hw0)
  have C7 := hide (rd_ok w2.heap.size g 0 (Lib.uvarint x ++ t) .nilIface x (Lib.uvarint x).length (unhide HD) hp (by omega) w3 Rd3)
  clear hw3 hb3 Rd3 HB2 HTB HBY HOW HD
  go_wp2_with fail
  refine (unhide C7).mono ?_
  rintro e w4 ⟨rfl, Rd4, hgr⟩
  rw [List.drop_left] at Rd4
  obtain ⟨⟨ao, c4, hh4, hao4, _, _⟩, hby4, _⟩ := Rd4
  have htb4 : Bytes w4 b o t := fun j hj => hgr.cell (htb3 j hj) (by have := hblt (by omega); simp; omega)
  have HB4 : Hid (Below w.heap.size w w4) := (unhide HB3).grown hgr (unhide HB3).size (by intro k' hk'; simp at hk'; omega)
  rw [hlt] at hh4 hao4
  have C9 := hide (unread_any w2.heap.size (.slice ao n c4) .nilIface w4 hh4)
  have C8 := hide (equal_same ao (some ad) n c4 c g (0 + (Lib.uvarint x).length) b o t hlt hao4 hat w4 hby4 htb4)
  have C10 := hide (err_any w2.heap.size (.slice ao n c4) .nilIface w4 hh4)
  clear hgr htb3 htb4 hby4 hao4 hh4 HB3 C7 hat
  go_wp2_with fail
  refine (unhide C9).mono ?_
  rintro e w5 ⟨rfl, rfl⟩
  go_wp2_with fail
  refine (unhide C8).mono ?_
  rintro e w6 ⟨rfl, rfl⟩
  go_wp2_with fail
  refine (unhide C10).mono ?_
  rintro e w7 ⟨rfl, rfl⟩
  go_wp2
  go_ret
  exact ⟨rfl, unhide HB4⟩

set_option maxRecDepth 100000 in
set_option maxHeartbeats 1000000 in
theorem trip_nil (x : Nat) (hx : x < 18446744073709551616) (w : World) :
    Calls Ybad.prog 3 #[.int .u64 x, .slice none 0 0] w fun e w' => e = .returned (.bool true) ∧ Below w.heap.size w w' := by
  obtain ⟨i0, hi, hz0, hz1, hz2⟩ := info_parts Ybad.info5
  have hp := Lib.uvarint_pos x
  have hl10 := Lib.uvarint_length64 hx
  have HD := hide (dec_enc0 x [] hx)
  rw [List.append_nil] at HD
  go_enter Ybad.func3, Ybad.ntmps3
  go_wp2_with fail
  refine (Ybad.binary_AppendUvarint w.heap.size 0 x hx (.slice none 0 0) [] w (World.ownsRow_nil _ _ _ _) (Nat.le_refl _) (by omega)).mono ?_
  rintro e w2 ⟨v2, rfl, hown2, hb2⟩
  simp only [Nat.zero_add, List.nil_append] at hown2
  go_wp2_with (at_builtin; refine wpList_append_own_none rfl _ _ 23 rfl w.heap.size 5 i0 1 Ybad.underlying23 hi v2 (Lib.uvarint x).length (Lib.byteCells (Lib.uvarint x)) rfl hown2 rfl ?_)
  have hw0 := hb2.size
  obtain ⟨g, cap, hv, hg0, hg1⟩ := hown2.form (by omega)
  have hcap := own_cap hown2 hv
  have hby : Bytes w2 g 0 (Lib.uvarint x) := own_bytes hown2 hv
  subst hv
  have hlen : (Lib.uvarint x).length = (Lib.uvarint x).length := rfl
  have HOW := hide hcap
  have HBY := hide hby
  have HB2 := hide hb2
  clear hown2 hcap hby hb2
  refine (newReader_any _ _ _ _).mono ?_
  rintro e w3 ⟨rfl, hw3⟩
  have Rd3 : Rd w3 w2.heap.size g 0 (Lib.uvarint x) .nilIface := by
    subst hw3
    refine ⟨⟨some ⟨g, 0, none⟩, cap, by exact heap_alloc_new w2 _, fun _ => rfl, by exact (unhide HOW).1, (unhide HOW).2⟩, (unhide HBY).below ((Below.refl _ w2).alloc (Nat.le_refl _) _) (fun _ => hg1), by omega⟩
  have hb3 : Below w2.heap.size w2 w3 := by subst hw3; exact (Below.refl _ w2).alloc (Nat.le_refl _) _
  have HB3 : Hid (Below w.heap.size w w3) := (unhide HB2).trans (hb3.mono hw0)
  have C7 := hide (rd_ok w2.heap.size g 0 (Lib.uvarint x) .nilIface x (Lib.uvarint x).length (unhide HD) hp (Nat.le_refl _) w3 Rd3)
  clear hw3 hb3 Rd3 HB2 HBY HOW HD
  go_wp2_with fail
  refine (unhide C7).mono ?_
  rintro e w4 ⟨rfl, Rd4, hgr⟩
  rw [List.drop_length] at Rd4
  obtain ⟨⟨ao, c4, hh4, hao4, _, _⟩, hby4, _⟩ := Rd4
  have HB4 : Hid (Below w.heap.size w w4) := (unhide HB3).grown hgr (unhide HB3).size (by intro k' hk'; simp at hk'; omega)
  simp only [List.length_nil] at hh4 hao4
  have C9 := hide (unread_any w2.heap.size (.slice ao 0 c4) .nilIface w4 hh4)
  have C8 := hide (equal_same ao none 0 c4 0 g (0 + (Lib.uvarint x).length) 0 0 [] rfl hao4 (by omega) w4 hby4 (by intro j hj; simp at hj))
  have C10 := hide (err_any w2.heap.size (.slice ao 0 c4) .nilIface w4 hh4)
  clear hgr hby4 hao4 hh4 HB3 C7
  go_wp2_with fail
  refine (unhide C9).mono ?_
  rintro e w5 ⟨rfl, rfl⟩
  go_wp2_with fail
  refine (unhide C8).mono ?_
  rintro e w6 ⟨rfl, rfl⟩
  go_wp2_with fail
  refine (unhide C10).mono ?_
  rintro e w7 ⟨rfl, rfl⟩
  go_wp2
  go_ret
  exact ⟨rfl, unhide HB4⟩
end Go.Proofs.YbulkahrmDoor
