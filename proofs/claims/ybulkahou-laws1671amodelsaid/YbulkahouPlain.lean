import Derived.Laws.Strings
import Derived.Lib.Bytealg
namespace Go.Proofs.Ybulkahou
set_option linter.unusedVariables false

/-! ### The names: the k-th two-letter name; they ascend with k -/
def nm (k : Nat) : ByteArray := ⟨#[(97 + k / 26).toUInt8, (97 + k % 26).toUInt8]⟩

theorem nm_data (k : Nat) : (nm k).data.toList = [(97 + k / 26).toUInt8, (97 + k % 26).toUInt8] := rfl
theorem nm_list (k : Nat) : (nm k).toList = [(97 + k / 26).toUInt8, (97 + k % 26).toUInt8] := by rw [ByteArray.toList_eq]; rfl

theorem u8_nat (a : Nat) (h : a < 256) : a.toUInt8.toNat = a := by simp [Nat.toUInt8]; omega
theorem u8_lt (a b : Nat) (ha : a < 256) (hb : b < 256) : (a.toUInt8 < b.toUInt8) = (a < b) := by
  rw [UInt8.lt_iff_toNat_lt, u8_nat a ha, u8_nat b hb]
theorem u8_eq (a b : Nat) (ha : a < 256) (hb : b < 256) : (a.toUInt8 = b.toUInt8) = (a = b) := by
  rw [← UInt8.toNat_inj, u8_nat a ha, u8_nat b hb]

theorem nm_less (i j : Nat) (hi : i < 676) (hj : j < 676) : Op.bytesLess (nm i).toList (nm j).toList = decide (i < j) := by
  rw [nm_list, nm_list]
  simp only [Op.bytesLess, Bool.and_false, Bool.or_false, u8_lt (97 + i / 26) (97 + j / 26) (by omega) (by omega), u8_lt (97 + i % 26) (97 + j % 26) (by omega) (by omega)]
  rw [Bool.eq_iff_iff]
  simp only [Bool.or_eq_true, Bool.and_eq_true, decide_eq_true_eq, beq_iff_eq, u8_eq (97 + i / 26) (97 + j / 26) (by omega) (by omega)]
  omega
theorem nm_eq (i j : Nat) (hi : i < 676) (hj : j < 676) : ((nm i).toList == (nm j).toList) = decide (i = j) := by
  rw [nm_list, nm_list, Bool.eq_iff_iff]
  simp only [beq_iff_eq, decide_eq_true_eq, List.cons.injEq, and_true, u8_eq (97 + i / 26) (97 + j / 26) (by omega) (by omega), u8_eq (97 + i % 26) (97 + j % 26) (by omega) (by omega)]
  omega
theorem nm_cmp (i j : Nat) (hi : i < 676) (hj : j < 676) : Lib.compareBytes (nm i).data.toList (nm j).data.toList = if i < j then -1 else if j < i then 1 else 0 := by
  rw [nm_data, nm_data]
  simp only [Lib.compareBytes, u8_lt (97 + i / 26) (97 + j / 26) (by omega) (by omega), u8_lt (97 + j / 26) (97 + i / 26) (by omega) (by omega), u8_lt (97 + i % 26) (97 + j % 26) (by omega) (by omega), u8_lt (97 + j % 26) (97 + i % 26) (by omega) (by omega)]
  split <;> rename_i h1
  · rw [if_pos (by omega)]
  · split <;> rename_i h2
    · rw [if_neg (by omega), if_pos (by omega)]
    · split <;> rename_i h3
      · rw [if_pos (by omega)]
      · split <;> rename_i h4
        · rw [if_neg (by omega), if_pos (by omega)]
        · rw [if_neg (by omega), if_neg (by omega)]

/-! ### A clock's entries: keys with values -/
structure Good (es : List (Nat × Int)) : Prop where
  srt : es.Pairwise (fun p q => p.1 < q.1)
  key : ∀ p ∈ es, p.1 < 676
  pos : ∀ p ∈ es, 0 < p.2

theorem Good.nil : Good [] := ⟨List.Pairwise.nil, by simp, by simp⟩
theorem Good.drop {es : List (Nat × Int)} (h : Good es) (i : Nat) : Good (es.drop i) :=
  ⟨h.srt.sublist (List.drop_sublist i es), fun p hp => h.key p (List.mem_of_mem_drop hp), fun p hp => h.pos p (List.mem_of_mem_drop hp)⟩
theorem Good.take {es : List (Nat × Int)} (h : Good es) (i : Nat) : Good (es.take i) :=
  ⟨h.srt.sublist (List.take_sublist i es), fun p hp => h.key p (List.mem_of_mem_take hp), fun p hp => h.pos p (List.mem_of_mem_take hp)⟩
theorem Good.tail {p : Nat × Int} {es : List (Nat × Int)} (h : Good (p :: es)) : Good es := h.drop 1

/-- How many entries stand below t. -/
def cnt (es : List (Nat × Int)) (t : Nat) : Nat := (es.takeWhile (fun p => decide (p.1 < t))).length

theorem cnt_cons (p : Nat × Int) (es : List (Nat × Int)) (t : Nat) : cnt (p :: es) t = if p.1 < t then cnt es t + 1 else 0 := by
  unfold cnt; by_cases h : p.1 < t <;> simp [h]

theorem cnt_le (es : List (Nat × Int)) (t : Nat) : cnt es t ≤ es.length := by
  induction es with
  | nil => simp [cnt]
  | cons p es ih => rw [cnt_cons]; split <;> simp <;> omega

/-- Among sorted entries just the first 'cnt' stand below t. -/
theorem cnt_iff {es : List (Nat × Int)} (h : Good es) (t : Nat) (i : Nat) (hi : i < es.length) : es[i].1 < t ↔ i < cnt es t := by
  induction es generalizing i with
  | nil => simp at hi
  | cons p es ih =>
    rw [cnt_cons]
    have hs := List.pairwise_cons.1 h.srt
    cases i with
    | zero => simp only [List.getElem_cons_zero]; split <;> omega
    | succ i =>
      simp only [List.getElem_cons_succ]
      have hi' : i < es.length := by simpa using hi
      have := ih h.tail i hi'
      have hlt := hs.1 _ (List.getElem_mem hi')
      split <;> omega

/-- What stands in the middle. -/
theorem cnt_mid {es : List (Nat × Int)} (h : Good es) (t lo hi : Nat) (h1 : lo ≤ cnt es t) (h2 : cnt es t ≤ hi) (hh : hi ≤ es.length) : cnt ((es.drop lo).take (hi - lo)) t = cnt es t - lo := by
  have hg : Good ((es.drop lo).take (hi - lo)) := (h.drop lo).take _
  have hlen : ((es.drop lo).take (hi - lo)).length = hi - lo := by simp; omega
  have hle := cnt_le ((es.drop lo).take (hi - lo)) t
  have key : ∀ i, i < hi - lo → (i < cnt ((es.drop lo).take (hi - lo)) t ↔ lo + i < cnt es t) := by
    intro i hi1
    have a := cnt_iff hg t i (by omega)
    have b := cnt_iff h t (lo + i) (by omega)
    simp only [List.getElem_take, List.getElem_drop] at a
    exact a.symm.trans b
  by_cases c1 : cnt ((es.drop lo).take (hi - lo)) t < cnt es t - lo
  · have := (key (cnt ((es.drop lo).take (hi - lo)) t) (by omega)).2 (by omega); omega
  · by_cases c2 : cnt es t - lo < cnt ((es.drop lo).take (hi - lo)) t
    · have := (key (cnt es t - lo) (by omega)).1 c2; omega
    · omega

/-! ### The counter at a key, and the order of two clocks -/
def val : List (Nat × Int) → Nat → Int
  | [], _ => 0
  | p :: r, k => if p.1 = k then p.2 else val r k

def lsB (A B : List (Nat × Int)) : Bool := B.any (fun p => decide (val A p.1 < p.2))

def ordB : Bool → Bool → Int
  | true, true => 4
  | true, false => 1
  | false, true => 2
  | false, false => 3

theorem val_far {A : List (Nat × Int)} (k : Nat) (h : ∀ p ∈ A, p.1 ≠ k) : val A k = 0 := by
  induction A with
  | nil => rfl
  | cons p A ih =>
    have h0 := h p (by simp)
    simp only [val, h0, if_false]
    exact ih (fun q hq => h q (by simp [hq]))

theorem lsB_congr {A A' B : List (Nat × Int)} (h : ∀ p ∈ B, val A p.1 = val A' p.1) : lsB A B = lsB A' B := by
  unfold lsB
  rw [Bool.eq_iff_iff]
  simp only [List.any_eq_true, decide_eq_true_eq]
  exact ⟨fun ⟨p, hp, hl⟩ => ⟨p, hp, by rw [← h p hp]; exact hl⟩, fun ⟨p, hp, hl⟩ => ⟨p, hp, by rw [h p hp]; exact hl⟩⟩

theorem lsB_nil_right (A : List (Nat × Int)) : lsB A [] = false := rfl
theorem lsB_nil_left {B : List (Nat × Int)} (h : Good B) : lsB [] B = decide (0 < B.length) := by
  cases B with
  | nil => rfl
  | cons p B => have := h.pos p (by simp); simp [lsB, val, this]

theorem val_drop {A : List (Nat × Int)} (m k : Nat) (h : ∀ p ∈ A.take m, p.1 ≠ k) : val (A.drop m) k = val A k := by
  induction A generalizing m with
  | nil => simp
  | cons p A ih =>
    cases m with
    | zero => rfl
    | succ m =>
      have h0 := h p (by simp)
      simp only [List.drop_succ_cons, val, h0, if_false]
      exact ih m (fun q hq => h q (by simp [hq]))

/-- Both clocks hold the next name. -/
theorem lsB_both {k : Nat} {x y : Int} {A B : List (Nat × Int)} (hA : Good ((k, x) :: A)) (hB : Good ((k, y) :: B)) : lsB ((k, x) :: A) ((k, y) :: B) = (decide (x < y) || lsB A B) := by
  have hs := List.pairwise_cons.1 hB.srt
  have : lsB ((k, x) :: A) B = lsB A B := lsB_congr (fun p hp => by have := hs.1 p hp; simp only [val]; rw [if_neg (by omega)])
  rw [← this]
  simp [lsB, val]

/-- Names that the first clock alone holds ahead of the second's next name: passing them turns nothing for 'less'. -/
theorem lsB_pass {A B : List (Nat × Int)} {k : Nat} {y : Int} (hA : Good A) (hB : Good ((k, y) :: B)) (m : Nat) (hm : m ≤ cnt A k) : lsB (A.drop m) ((k, y) :: B) = lsB A ((k, y) :: B) := by
  have hs := List.pairwise_cons.1 hB.srt
  refine lsB_congr (fun p hp => val_drop m p.1 (fun q hq => ?_))
  obtain ⟨i, hi, rfl⟩ := List.mem_iff_getElem.1 hq
  have hi' : i < m ∧ i < A.length := by simp at hi; omega
  have := (cnt_iff hA k i hi'.2).2 (by omega)
  simp only [List.getElem_take]
  rcases List.mem_cons.1 hp with rfl | hp
  · simp only at *; omega
  · have := hs.1 p hp; omega

/-- .. and 'greater' holds. -/
theorem lsB_above {A B : List (Nat × Int)} {j k : Nat} {x y : Int} (hA : Good ((j, x) :: A)) (hB : Good ((k, y) :: B)) (h : j < k) : lsB ((k, y) :: B) ((j, x) :: A) = true := by
  have hs := List.pairwise_cons.1 hB.srt
  have hx := hA.pos (j, x) (by simp)
  have : val ((k, y) :: B) j = 0 := val_far j (fun p hp => by
    rcases List.mem_cons.1 hp with rfl | hp
    · simp only; omega
    · have := hs.1 p hp; simp only at this; omega)
  simp only [lsB, List.any_cons, this, Bool.or_eq_true, decide_eq_true_eq]
  exact Or.inl hx

/-! ### The clock out of a row of counters -/
def ent (xs : List Int) : Nat → List (Nat × Int)
  | 0 => []
  | k + 1 => if xs.getD k 0 = 0 then ent xs k else ent xs k ++ [(k, xs.getD k 0)]

theorem ent_key (xs : List Int) (n : Nat) : ∀ p ∈ ent xs n, p.1 < n ∧ p.2 = xs.getD p.1 0 ∧ p.2 ≠ 0 := by
  induction n with
  | zero => simp [ent]
  | succ n ih =>
    intro p hp
    simp only [ent] at hp
    split at hp
    · have := ih p hp; exact ⟨by omega, this.2⟩
    · rename_i h
      rcases List.mem_append.1 hp with hp | hp
      · have := ih p hp; exact ⟨by omega, this.2⟩
      · simp at hp; subst hp; exact ⟨Nat.lt_succ_self _, rfl, h⟩

theorem ent_len (xs : List Int) (n : Nat) : (ent xs n).length ≤ n := by
  induction n with
  | zero => simp [ent]
  | succ n ih => simp only [ent]; split <;> (try simp) <;> omega

theorem ent_good (xs : List Int) (n : Nat) (hn : n ≤ 676) (hp : ∀ x ∈ xs, 0 ≤ x) : Good (ent xs n) := by
  have hget : ∀ k, 0 ≤ xs.getD k 0 := fun k => by
    by_cases h : k < xs.length
    · rw [List.getD_eq_getElem?_getD, List.getElem?_eq_getElem h]; exact hp _ (List.getElem_mem h)
    · rw [List.getD_eq_getElem?_getD, List.getElem?_eq_none (by omega)]; simp
  refine ⟨?_, fun p h => by have := (ent_key xs n p h).1; omega, fun p h => ?_⟩
  · clear hn
    induction n with
    | zero => simp [ent]
    | succ n ih =>
      simp only [ent]
      split
      · exact ih
      · rw [List.pairwise_append]
        refine ⟨ih, by simp, fun p hp q hq => ?_⟩
        simp at hq; subst hq
        exact (ent_key xs n p hp).1
  · have h1 := (ent_key xs n p h).2
    have := hget p.1
    omega

theorem val_append {A B : List (Nat × Int)} (k : Nat) : (∀ p ∈ A, p.1 ≠ k) → val (A ++ B) k = val B k := by
  intro h
  induction A with
  | nil => rfl
  | cons p A ih =>
    have h0 := h p (by simp)
    simp only [List.cons_append, val, h0, if_false]
    exact ih (fun q hq => h q (by simp [hq]))

theorem val_append_left {A : List (Nat × Int)} (k j : Nat) (x : Int) (h : j ≠ k) : val (A ++ [(j, x)]) k = val A k := by
  induction A with
  | nil => simp [val, h]
  | cons p A ih => simp only [List.cons_append, val, ih]

theorem val_ent (xs : List Int) (n k : Nat) : val (ent xs n) k = if k < n then xs.getD k 0 else 0 := by
  induction n with
  | zero => simp [ent, val]
  | succ n ih =>
    simp only [ent]
    by_cases h0 : xs.getD n 0 = 0
    · rw [if_pos h0, ih]
      by_cases hk : k = n
      · subst hk; rw [if_neg (by omega), if_pos (by omega), h0]
      · by_cases h : k < n
        · rw [if_pos h, if_pos (by omega)]
        · rw [if_neg h, if_neg (by omega)]
    · rw [if_neg h0]
      by_cases hk : k = n
      · subst hk
        rw [val_append k (fun p hp => by have := (ent_key xs k p hp).1; omega), if_pos (by omega)]
        simp [val]
      · rw [val_append_left k n _ (by omega), ih]
        by_cases h : k < n
        · rw [if_pos h, if_pos (by omega)]
        · rw [if_neg h, if_neg (by omega)]

/-- The pointwise comparison, up to k. -/
def mB (xs ys : List Int) (k : Nat) : Bool := (List.range k).any (fun i => decide (xs.getD i 0 < ys.getD i 0))
theorem mB_zero (xs ys : List Int) : mB xs ys 0 = false := rfl
theorem mB_succ (xs ys : List Int) (k : Nat) : mB xs ys (k + 1) = (mB xs ys k || decide (xs.getD k 0 < ys.getD k 0)) := by
  unfold mB; rw [List.range_succ, List.any_append]; simp

theorem getD_far (xs : List Int) (k : Nat) (h : xs.length ≤ k) : xs.getD k 0 = 0 := by
  rw [List.getD_eq_getElem?_getD, List.getElem?_eq_none h]; rfl

theorem lsB_ent (xs ys : List Int) (n : Nat) (hx : xs.length ≤ n) (hy : ys.length ≤ n) (hp : ∀ x ∈ xs, 0 ≤ x) (hq : ∀ x ∈ ys, 0 ≤ x) :
    lsB (ent xs xs.length) (ent ys ys.length) = mB xs ys n := by
  have pos : ∀ l : List Int, (∀ x ∈ l, 0 ≤ x) → ∀ k, 0 ≤ l.getD k 0 := fun l hl k => by
    by_cases h : k < l.length
    · rw [List.getD_eq_getElem?_getD, List.getElem?_eq_getElem h]; exact hl _ (List.getElem_mem h)
    · rw [getD_far l k (by omega)]; simp
  have vx : ∀ k, val (ent xs xs.length) k = xs.getD k 0 := fun k => by
    rw [val_ent]; split
    · rfl
    · rw [getD_far xs k (by omega)]
  rw [Bool.eq_iff_iff]
  simp only [lsB, mB, List.any_eq_true, decide_eq_true_eq, List.mem_range]
  constructor
  · rintro ⟨p, hpm, hl⟩
    have := ent_key ys ys.length p hpm
    exact ⟨p.1, by omega, by rw [← vx, ← this.2.1]; exact hl⟩
  · rintro ⟨k, hk, hl⟩
    have h0 := pos xs hp k
    have hkl : k < ys.length := by
      by_cases h : k < ys.length
      · exact h
      · rw [getD_far ys k (by omega)] at hl; omega
    have hv : val (ent ys ys.length) k = ys.getD k 0 := by rw [val_ent, if_pos hkl]
    -- the key k stands among the entries
    have mem : ∀ A : List (Nat × Int), val A k ≠ 0 → ∃ p ∈ A, p.1 = k ∧ p.2 = val A k := by
      intro A
      induction A with
      | nil => intro h; exact absurd rfl h
      | cons q A ih =>
        intro h
        by_cases hq : q.1 = k
        · exact ⟨q, by simp, hq, by simp [val, hq]⟩
        · simp only [val, hq, if_false] at h ⊢
          obtain ⟨p, h1, h2⟩ := ih h
          exact ⟨p, by simp [h1], h2⟩
    obtain ⟨p, h1, h2, h3⟩ := mem (ent ys ys.length) (by rw [hv]; omega)
    exact ⟨p, h1, by rw [vx, h2, h3, hv]; exact hl⟩

/-- A clock is not below itself. -/
theorem lsB_self (xs : List Int) (hp : ∀ x ∈ xs, 0 ≤ x) : lsB (ent xs xs.length) (ent xs xs.length) = false := by
  rw [lsB_ent xs xs xs.length (Nat.le_refl _) (Nat.le_refl _) hp hp]
  simp [mB]

end Go.Proofs.Ybulkahou
