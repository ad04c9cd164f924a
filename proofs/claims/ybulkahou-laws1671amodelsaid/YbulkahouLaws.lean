import Derived.Test.YbulkahouCompare
namespace Go.Proofs.Ybulkahou
open Go.RowKit
set_option linter.unusedVariables false

theorem cellsE_at (A : List (Nat × Int)) (i : Nat) (hi : i < A.length) : (cellsE A)[i * 2]? = some (.string (nm A[i].1)) ∧ (cellsE A)[i * 2 + 1]? = some (.int .u64 A[i].2) := by
  induction A generalizing i with
  | nil => simp at hi
  | cons p A ih =>
    cases i with
    | zero => exact ⟨rfl, rfl⟩
    | succ i =>
      have := ih i (by simpa using hi)
      have e : (i + 1) * 2 = i * 2 + 2 := by omega
      rw [e]
      simpa [cellsE] using this

theorem Ents.below {B : Nat} {w w' : World} {a : Option Addr} {n c g o : Nat} {es : List (Nat × Int)} (h : Ents w a n c g o es) (hb : Below B w w') (hg : g < B) : Ents w' a n c g o es :=
  ⟨h.len, h.good, h.at', Nat.lt_of_lt_of_le h.lt hb.size, h.lies.below hb hg, h.n676, h.nc, h.cm⟩

theorem owns_ents {w : World} {base : Nat} {v : Value} {A : List (Nat × Int)} (h : w.ownsRow base 58 2 v A.length (cellsE A)) (hG : Good A) (hn : A.length ≤ 676) (h0 : 0 < w.heap.size) :
    ∃ a c g, v = .slice a A.length c ∧ Ents w a A.length c g 0 A := by
  have hcells := fun g hg => h.cells (g := g) hg
  rcases h.2 with ⟨rfl, hl⟩ | ⟨g, cap, cur, rfl, hb, hh, hle, hm, hcs, htake⟩
  · have : A = [] := List.eq_nil_of_length_eq_zero hl
    subst this
    exact ⟨none, 0, 0, rfl, ⟨rfl, hG, by simp, h0, fun i hi => by simp at hi, by simp, Nat.le_refl _, Nat.zero_le _⟩⟩
  · refine ⟨some ⟨g, 0, none⟩, cap, g, rfl, ⟨rfl, hG, fun _ => rfl, lt_of_block hh, fun i hi => ?_, hn, hle, hm⟩⟩
    have hc := hcells g rfl
    have e : ∀ j, (⟨g, 0, none⟩ : Addr).add j = ⟨g, 0 + j, none⟩ := fun j => by simp [Addr.add]; omega
    have a := cellsE_at A i hi
    have c0 := hc _ _ a.1
    have c1 := hc _ _ a.2
    rw [e] at c0 c1
    exact ⟨c0, c1⟩

/-- zzs1671aclock, as Compare wants it. -/
theorem clock_ents (a : Option Addr) (n c b o : Nat) (xs : List Int) (w : World) (R : RowU w a n b o xs) (hn : n ≤ 600) :
    Calls Yba.prog 7 #[.slice a n c] w fun e w' => ∃ a' c' g', e = .returned (.agg #[.slice a' (ent xs xs.length).length c']) ∧ Ents w' a' (ent xs xs.length).length c' g' 0 (ent xs xs.length) ∧ Below w.heap.size w w' ∧ w.heap.size < w'.heap.size := by
  refine (clock_any a n c b o xs w R hn).mono ?_
  rintro e w' ⟨v, rfl, hown, hb, hlt⟩
  rw [← R.len] at hown
  have hl := ent_len xs xs.length
  have hlen := R.len
  obtain ⟨a', c', g', rfl, hE⟩ := owns_ents hown (ent_good xs xs.length (by omega) R.pos) (by omega) (by omega)
  exact ⟨a', c', g', rfl, hE, hb, hlt⟩
end Go.Proofs.Ybulkahou
