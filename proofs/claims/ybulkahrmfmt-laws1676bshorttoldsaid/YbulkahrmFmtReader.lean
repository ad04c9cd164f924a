import Derived.Test.YbulkahrmFmtRows
import Derived.Test.YbulkahrmFmtShelf
import Derived.Test.YbulkahrmFmtVarint
import Derived.WalkKit
import Derived.Below
import Derived.WalkLawsBesides
import Derived.WalkSpells
import Derived.OwnWalk
namespace Go.Proofs.YbulkahrmFmt
open Go.RowKit
set_option linter.unusedVariables false

theorem hide {p : Prop} (h : p) : Hid p := h
theorem unhide {p : Prop} (h : Hid p) : p := h

/-- The bytes l lie in memory from block g, offset o on. -/
def Bytes (w : World) (g o : Nat) (l : List UInt8) : Prop := ∀ j (hj : j < l.length), w.cell? ⟨g, o + j, none⟩ = some (.int .u8 (l[j]).toNat)
theorem Bytes.drop {w : World} {g o : Nat} {l : List UInt8} (h : Bytes w g o l) (k : Nat) : Bytes w g (o + k) (l.drop k) := by
  intro j hj
  have hj' : k + j < l.length := by simp at hj; omega
  have := h (k + j) hj'
  rw [Nat.add_assoc]
  simpa using this

/-- A Reader at block rb: the bytes l are unread, from block g, offset o on; its error is ev. -/
structure Rd (w : World) (rb g o : Nat) (l : List UInt8) (ev : Value) : Prop where
  blk : ∃ ao c, w.heap[rb]? = some (.cells #[.slice ao l.length c, ev] 40 (0, 0)) ∧ (0 < l.length → ao = some ⟨g, o, none⟩) ∧ l.length ≤ c ∧ c ≤ maxLen
  bytes : Bytes w g o l
  ne : 0 < l.length → g ≠ rb

theorem set_blk {w : World} {rb : Nat} {u v ev : Value} (h : w.heap[rb]? = some (.cells #[u, ev] 40 (0, 0))) : (w.setCell ⟨rb, 0, none⟩ v).heap[rb]? = some (.cells #[v, ev] 40 (0, 0)) := by
  have hlt := lt_of_block h
  have h' : w.heap[rb] = .cells #[u, ev] 40 (0, 0) := by simpa [Array.getElem?_eq_getElem hlt] using h
  show (w.heap.modify rb _)[rb]? = _
  rw [Array.getElem?_eq_getElem (by simpa using hlt), Array.getElem_modify_self, h']
  rfl

theorem grown_setCell (w : World) (rb : Nat) (v : Value) : w.grownBy (w.setCell ⟨rb, 0, none⟩ v) (some rb) :=
  ⟨rfl, rfl, rfl, by simp [World.setCell], fun k hk hne => Below.heap_setCell _ _ _ _ (by simpa using hne)⟩

theorem rd_after {w : World} {rb g o : Nat} {l : List UInt8} {ev : Value} (ao : Option Addr) (c k : Nat) (hh : w.heap[rb]? = some (.cells #[.slice (some ⟨g, o, none⟩) l.length c, ev] 40 (0, 0)))
    (hb : Bytes w g o l) (hne : g ≠ rb) (hk : k ≤ l.length) (hc : l.length ≤ c) (hm : c ≤ maxLen) (hao : 0 < l.length - k → ao = some ⟨g, o + k, none⟩) :
    Rd (w.setCell ⟨rb, 0, none⟩ (.slice ao (l.length - k) (c - k))) rb g (o + k) (l.drop k) ev := by
  refine ⟨⟨ao, c - k, ?_, by simpa using hao, by simp; omega, by unfold maxLen at *; omega⟩, fun j hj => ?_, fun _ => hne⟩
  · rw [List.length_drop]; exact set_blk hh
  · exact (World.cell?_of_block (Below.heap_setCell _ _ _ _ (by exact hne))).trans (hb.drop k j hj)

set_option maxRecDepth 100000 in
set_option maxHeartbeats 1000000 in
/-- Reader.Uvarint where a number is there. -/
theorem rd_ok (rb g o : Nat) (l : List UInt8) (ev : Value) (x k : Nat) (hdec : Lib.uvarintDec l = (x, (k : Int))) (hk1 : 1 ≤ k) (hk : k ≤ l.length) (w : World) (R : Rd w rb g o l ev) :
    Calls Ybaf.prog 9 #[.pointer (some ⟨rb, 0, none⟩)] w fun e w' => e = .returned (.int .u64 x) ∧ Rd w' rb g (o + k) (l.drop k) ev ∧ w.grownBy w' (some rb) := by
  obtain ⟨⟨ao, c, hh, hao, hlc, hcm⟩, hb, hne⟩ := R
  have e1 := hao (by omega)
  have hne := hne (by omega)
  subst e1
  have c0 : w.cell? ⟨rb, 0, none⟩ = some (.slice (some ⟨g, o, none⟩) l.length c) := by simp [World.cell?, hh]
  have f0 : w.frozen? ⟨rb, 0, none⟩ = false := by simp [World.frozen?, hh]
  have C := Ybaf.binary_Uvarint g o l.length c l w rfl hb
  rw [hdec] at C
  have HA := fun ao h => hide (rd_after ao c k hh hb hne hk hlc hcm h)
  have HC := hide C
  have HH := hide hh
  have HBy := hide hb
  clear C hdec hao hh hb
  unfold maxLen at hcm
  generalize hn : l.length = n at *
  have HN := hide hn
  clear hn
  have B0 : ¬ (k : Int) ≤ 0 := by omega
  have B1 : (k : Int) ≤ (n : Int) := by omega
  by_cases hck : c = k
  · obtain rfl : n = k := by omega
    subst hck
    have HA' := unhide (HA (some ⟨g, o, none⟩) (by omega))
    simp only [Nat.sub_self] at HA'
    have HA2 := hide HA'
    clear HA HA'
    go_enter Ybaf.func9, Ybaf.ntmps9
    go_wp2_with (go_at_call 12; refine (unhide HC).mono ?_; rintro e w' ⟨rfl, rfl⟩)
    go_ret
    exact ⟨rfl, unhide HA2, grown_setCell _ _ _⟩
  · have HA2 := HA (some ⟨g, o + k, none⟩) (fun _ => rfl)
    clear HA
    go_enter Ybaf.func9, Ybaf.ntmps9
    go_wp2_with (go_at_call 12; refine (unhide HC).mono ?_; rintro e w' ⟨rfl, rfl⟩)
    go_ret
    exact ⟨rfl, unhide HA2, grown_setCell _ _ _⟩
end Go.Proofs.YbulkahrmFmt
