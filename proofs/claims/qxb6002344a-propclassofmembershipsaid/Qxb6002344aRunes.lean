/-
  PLAIN MATHEMATICS (no Go in it): sets of runes as lists of ranges.
-/
namespace Go.Proofs.Qxb6002344a.Rune

def M : Int := 1114111

/-- Canonical from lo on: even, ordered, within [lo, M], no two ranges touch. -/
def cn : Int → List Int → Bool
  | _, [] => true
  | _, [_] => false
  | lo, a :: b :: r => decide (lo ≤ a) && decide (a ≤ b) && decide (b ≤ M) && cn (b + 2) r

/-- c lies in one of the ranges. -/
def inP : List Int → Int → Bool
  | [], _ => false
  | [_], _ => false
  | a :: b :: r, c => (decide (a ≤ c) && decide (c ≤ b)) || inP r c

/-- The complement from 'next' on. -/
def cf : Int → List Int → List Int
  | n, [] => if n ≤ M then [n, M] else []
  | _, [_] => []
  | n, a :: b :: r => if n < a then n :: (a - 1) :: cf (b + 1) r else cf (b + 1) r

theorem cn_cons {lo a b : Int} {r : List Int} : cn lo (a :: b :: r) = true ↔ lo ≤ a ∧ a ≤ b ∧ b ≤ M ∧ cn (b + 2) r = true := by
  show (decide (lo ≤ a) && decide (a ≤ b) && decide (b ≤ M) && cn (b + 2) r) = true ↔ _
  simp [Bool.and_eq_true, and_assoc]
theorem cf_cons (n a b : Int) (r : List Int) : cf n (a :: b :: r) = if n < a then n :: (a - 1) :: cf (b + 1) r else cf (b + 1) r := rfl
theorem cf_nil (n : Int) : cf n [] = if n ≤ M then [n, M] else [] := rfl
theorem inP_cons (a b c : Int) (r : List Int) : inP (a :: b :: r) c = ((decide (a ≤ c) && decide (c ≤ b)) || inP r c) := rfl

/-- Two at a time. -/
theorem pairs_ind {p : List Int → Prop} (h0 : p []) (h1 : ∀ a, p [a]) (h2 : ∀ a b r, p r → p (a :: b :: r)) : ∀ l, p l
  | [] => h0
  | [a] => h1 a
  | a :: b :: r => h2 a b r (pairs_ind h0 h1 h2 r)

theorem cn_mono {l : List Int} {lo lo' : Int} (h : lo' ≤ lo) (hl : cn lo l = true) : cn lo' l = true := by
  cases l with
  | nil => rfl
  | cons a t =>
    cases t with
    | nil => exact hl
    | cons b r => rw [cn_cons] at hl ⊢; exact ⟨by omega, hl.2⟩

/-- Below the first range nothing lies. -/
theorem inP_below : ∀ (l : List Int) (lo c : Int), cn lo l = true → c < lo → inP l c = false := by
  intro l
  induction l using pairs_ind with
  | h0 => intro lo c _ _; rfl
  | h1 a => intro lo c h _; cases h
  | h2 a b r ih =>
    intro lo c h hc
    rw [cn_cons] at h
    rw [inP_cons, ih (b + 2) c h.2.2.2 (by omega)]
    have : ¬ a ≤ c := by omega
    simp [this]

theorem cf_below : ∀ (l : List Int) (n c : Int), cn n l = true → c < n → inP (cf n l) c = false := by
  intro l
  induction l using pairs_ind with
  | h0 =>
    intro n c _ hc
    rw [cf_nil]
    split
    · rw [inP_cons]
      have : ¬ n ≤ c := by omega
      simp [this, inP]
    · rfl
  | h1 a => intro n c h _; cases h
  | h2 a b r ih =>
    intro n c h hc
    rw [cn_cons] at h
    rw [cf_cons]
    have ihr := ih (b + 1) c (cn_mono (by omega) h.2.2.2) (by omega)
    split
    · rw [inP_cons, ihr]
      have : ¬ n ≤ c := by omega
      simp [this]
    · exact ihr

/-- THE COMPLEMENT HOLDS WHAT THE SET DOES NOT. -/
theorem cf_inP : ∀ (l : List Int) (n c : Int), cn n l = true → n ≤ c → c ≤ M → inP (cf n l) c = !inP l c := by
  intro l
  induction l using pairs_ind with
  | h0 =>
    intro n c _ hn hM
    rw [cf_nil, if_pos (by omega), inP_cons]
    simp [hn, hM, inP]
  | h1 a => intro n c h _ _; cases h
  | h2 a b r ih =>
    intro n c h hn hM
    rw [cn_cons] at h
    have hr := cn_mono (lo' := b + 1) (by omega) h.2.2.2
    rw [cf_cons, inP_cons]
    by_cases hc : c ≤ b
    · have e1 := cf_below r (b + 1) c hr (by omega)
      have e2 := inP_below r (b + 2) c h.2.2.2 (by omega)
      split
      · rw [inP_cons, e1, e2]
        by_cases ha : a ≤ c
        · have : ¬ c ≤ a - 1 := by omega
          simp [ha, hc, this]
        · have : c ≤ a - 1 := by omega
          simp [ha, hn, this]
      · rw [e1, e2]
        have : a ≤ c := by omega
        simp [this, hc]
    · have e := ih (b + 1) c hr (by omega) hM
      split
      · rw [inP_cons, e]
        have : ¬ c ≤ a - 1 := by omega
        simp [hc, this]
      · rw [e]
        simp [hc]

/-- THE COMPLEMENT IS CANONICAL. -/
theorem cn_cf : ∀ (l : List Int) (n k : Int), cn n l = true → k ≤ n → cn k (cf n l) = true := by
  intro l
  induction l using pairs_ind with
  | h0 =>
    intro n k _ hk
    rw [cf_nil]
    split
    · rw [cn_cons]; exact ⟨hk, by assumption, Int.le_refl _, rfl⟩
    · rfl
  | h1 a => intro n k h _; cases h
  | h2 a b r ih =>
    intro n k h hk
    rw [cn_cons] at h
    have hr := cn_mono (lo' := b + 1) (by omega) h.2.2.2
    rw [cf_cons]
    split
    · rw [cn_cons]
      exact ⟨hk, by omega, by omega, ih (b + 1) (a - 1 + 2) hr (by omega)⟩
    · exact ih (b + 1) k hr (by omega)

/-- Twice, from a gap on. -/
theorem cf_cf_gap : ∀ (r : List Int) (m n : Int), cn (n + 1) r = true → m < n → n ≤ M + 1 → cf m (cf n r) = m :: (n - 1) :: r := by
  intro r
  induction r using pairs_ind with
  | h0 =>
    intro m n _ hm hn
    rw [cf_nil]
    split
    · rw [cf_cons, if_pos hm, cf_nil, if_neg (by omega)]
    · rw [cf_nil, if_pos (by omega)]
      have : M = n - 1 := by omega
      rw [this]
  | h1 a => intro m n h _ _; cases h
  | h2 a b r ih =>
    intro m n h hm hn
    rw [cn_cons] at h
    rw [cf_cons, if_pos (by omega), cf_cons, if_pos hm]
    have e : a - 1 + 1 = a := by omega
    rw [e, ih a (b + 1) (by have := h.2.2.2; exact cn_mono (by omega) this) (by omega) (by omega)]
    have e2 : b + 1 - 1 = b := by omega
    rw [e2]

/-- THE COMPLEMENT IS ITS OWN INVERSE. -/
theorem cf_cf (l : List Int) (h : cn 0 l = true) : cf 0 (cf 0 l) = l := by
  cases l with
  | nil =>
    rw [cf_nil, if_pos (by decide), cf_cons, if_neg (by omega), cf_nil, if_neg (by omega)]
  | cons a t =>
    cases t with
    | nil => cases h
    | cons b r =>
      rw [cn_cons] at h
      rw [cf_cons]
      have hr : cn (b + 1 + 1) r = true := cn_mono (by omega) h.2.2.2
      split
      · rw [cf_cons, if_neg (by omega)]
        have e : a - 1 + 1 = a := by omega
        rw [e, cf_cf_gap r a (b + 1) hr (by omega) (by omega)]
        have e2 : b + 1 - 1 = b := by omega
        rw [e2]
      · rw [cf_cf_gap r 0 (b + 1) hr (by omega) (by omega)]
        have e2 : b + 1 - 1 = b := by omega
        have e3 : a = 0 := by omega
        rw [e2, e3]

/-! ### The binary search -/
/-- The end of range i. -/
def en (l : List Int) (i : Nat) : Int := l.getD (2 * i + 1) 0
def before (l : List Int) (c : Int) : Nat := (List.range (l.length / 2)).countP (fun i => !decide (c ≤ en l i))
/-- What (runeSet).holds computes. -/
def hol (l : List Int) (c : Int) : Bool := decide (before l c < l.length / 2) && decide (l.getD (2 * before l c) 0 ≤ c)

theorem cn_even : ∀ (l : List Int) (lo : Int), cn lo l = true → l.length % 2 = 0 := by
  intro l
  induction l using pairs_ind with
  | h0 => intro _ _; rfl
  | h1 a => intro lo h; cases h
  | h2 a b r ih =>
    intro lo h
    rw [cn_cons] at h
    have := ih _ h.2.2.2
    simp only [List.length_cons]
    omega

theorem getD_two (a b : Int) (r : List Int) (i : Nat) : (a :: b :: r).getD (i + 2) 0 = r.getD i 0 := by simp

/-- Every element lies from lo to M; the ends ascend. -/
theorem cn_range : ∀ (l : List Int) (lo : Int), cn lo l = true → ∀ i, i < l.length → lo ≤ l.getD i 0 ∧ l.getD i 0 ≤ M := by
  intro l
  induction l using pairs_ind with
  | h0 => intro _ _ i hi; simp at hi
  | h1 a => intro lo h; cases h
  | h2 a b r ih =>
    intro lo h i hi
    rw [cn_cons] at h
    match i, hi with
    | 0, _ => show lo ≤ a ∧ a ≤ M; omega
    | 1, _ => show lo ≤ b ∧ b ≤ M; omega
    | i + 2, hi =>
      rw [getD_two]
      have := ih _ h.2.2.2 i (by simp at hi; omega)
      omega

theorem en_cons_zero (a b : Int) (r : List Int) : en (a :: b :: r) 0 = b := rfl
theorem en_cons_succ (a b : Int) (r : List Int) (i : Nat) : en (a :: b :: r) (i + 1) = en r i := by
  unfold en
  have : 2 * (i + 1) + 1 = (2 * i + 1) + 2 := by omega
  rw [this, getD_two]

theorem en_low : ∀ (l : List Int) (lo : Int), cn lo l = true → ∀ i, i < l.length / 2 → lo ≤ en l i := by
  intro l lo h i hi
  exact (cn_range l lo h (2 * i + 1) (by omega)).1

theorem en_mono : ∀ (l : List Int) (lo : Int), cn lo l = true → ∀ i j, i ≤ j → j < l.length / 2 → en l i ≤ en l j := by
  intro l
  induction l using pairs_ind with
  | h0 => intro _ _ i j _ hj; simp at hj
  | h1 a => intro lo h; cases h
  | h2 a b r ih =>
    intro lo h i j hij hj
    rw [cn_cons] at h
    have hl : (a :: b :: r).length / 2 = r.length / 2 + 1 := by simp only [List.length_cons]; omega
    rw [hl] at hj
    match i, j with
    | 0, 0 => exact Int.le_refl _
    | 0, j + 1 =>
      rw [en_cons_zero, en_cons_succ]
      have := en_low r _ h.2.2.2 j (by omega)
      omega
    | i + 1, j + 1 =>
      rw [en_cons_succ, en_cons_succ]
      exact ih _ h.2.2.2 i j (by omega) (by omega)

theorem countP_range_succ (p : Nat → Bool) (n : Nat) : (List.range (n + 1)).countP p = (if p 0 then 1 else 0) + (List.range n).countP (fun i => p (i + 1)) := by
  rw [List.range_succ_eq_map, List.countP_cons, List.countP_map]
  have : (p ∘ Nat.succ) = fun i => p (i + 1) := rfl
  rw [this]
  omega

theorem before_cons (a b c : Int) (r : List Int) : before (a :: b :: r) c = (if c ≤ b then 0 else 1) + (List.range (r.length / 2)).countP (fun i => !decide (c ≤ en r i)) := by
  unfold before
  have hl : (a :: b :: r).length / 2 = r.length / 2 + 1 := by simp only [List.length_cons]; omega
  rw [hl, countP_range_succ]
  congr 1
  rw [en_cons_zero]
  by_cases h : c ≤ b <;> simp [h]

theorem countP_zero {p : Nat → Bool} {n : Nat} (h : ∀ i, i < n → p i = false) : (List.range n).countP p = 0 := by
  rw [List.countP_eq_zero]
  intro i hi
  rw [h i (List.mem_range.1 hi)]
  simp

theorem hol_inP : ∀ (l : List Int) (lo c : Int), cn lo l = true → hol l c = inP l c := by
  intro l
  induction l using pairs_ind with
  | h0 => intro _ _ _; rfl
  | h1 a => intro lo c h; cases h
  | h2 a b r ih =>
    intro lo c h
    rw [cn_cons] at h
    have hl : (a :: b :: r).length / 2 = r.length / 2 + 1 := by simp only [List.length_cons]; omega
    unfold hol
    rw [hl, before_cons, inP_cons]
    by_cases hc : c ≤ b
    · have e2 := inP_below r (b + 2) c h.2.2.2 (by omega)
      have e0 : (List.range (r.length / 2)).countP (fun i => !decide (c ≤ en r i)) = 0 := by
        refine countP_zero fun i hi => ?_
        have := en_low r _ h.2.2.2 i hi
        have : c ≤ en r i := by omega
        simp [this]
      rw [e0, e2, if_pos hc]
      simp [hc]
    · have ihr := ih (b + 2) c h.2.2.2
      rw [if_neg hc]
      have hb : (List.range (r.length / 2)).countP (fun i => !decide (c ≤ en r i)) = before r c := rfl
      rw [hb, ← ihr]
      unfold hol
      have e : 2 * (1 + before r c) = 2 * before r c + 2 := by omega
      rw [e, getD_two]
      have e3 : decide (1 + before r c < r.length / 2 + 1) = decide (before r c < r.length / 2) := by
        apply decide_eq_decide.2; omega
      rw [e3]
      simp [hc]

end Go.Proofs.Qxb6002344a.Rune
