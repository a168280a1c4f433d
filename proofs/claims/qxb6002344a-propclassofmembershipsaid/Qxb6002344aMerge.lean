/-
  PLAIN MATHEMATICS (no Go in it): the union of ranges.
-/
import Derived.Test.Qxb6002344aRunes
namespace Go.Proofs.Qxb6002344a.Rune

/-- c lies in one of the pairs. -/
def inQ (qs : List (Int × Int)) (c : Int) : Bool := qs.any fun p => decide (p.1 ≤ c) && decide (c ≤ p.2)

/-- The merging loop's result: what is closed, the open range, the pairs to come. -/
def mg (pre : List Int) (s e : Int) : List (Int × Int) → List Int
  | [] => pre ++ [s, e]
  | p :: r => if p.1 ≤ e + 1 then mg pre s (if e < p.2 then p.2 else e) r else mg (pre ++ [s, e]) p.1 p.2 r
def merge : List (Int × Int) → List Int
  | [] => []
  | p :: r => mg [] p.1 p.2 r

theorem inP_append : ∀ (l r : List Int) (c : Int), l.length % 2 = 0 → inP (l ++ r) c = (inP l c || inP r c) := by
  intro l
  induction l using pairs_ind with
  | h0 => intro r c _; simp [inP]
  | h1 a => intro r c h; simp at h
  | h2 a b t ih =>
    intro r c h
    simp only [List.length_cons] at h
    rw [List.cons_append, List.cons_append, inP_cons, inP_cons, ih r c (by omega), Bool.or_assoc]

theorem cn_extend : ∀ (pre : List Int) (lo s e e' : Int), cn lo (pre ++ [s, e]) = true → e ≤ e' → e' ≤ M → cn lo (pre ++ [s, e']) = true := by
  intro pre
  induction pre using pairs_ind with
  | h0 =>
    intro lo s e e' h h1 h2
    rw [List.nil_append, cn_cons] at h ⊢
    exact ⟨h.1, by omega, h2, rfl⟩
  | h1 a =>
    intro lo s e e' h _ _
    have := cn_even _ _ h
    simp at this
  | h2 a b t ih =>
    intro lo s e e' h h1 h2
    rw [List.cons_append, List.cons_append, cn_cons] at h ⊢
    exact ⟨h.1, h.2.1, h.2.2.1, ih _ _ _ _ h.2.2.2 h1 h2⟩

theorem cn_more : ∀ (pre : List Int) (lo s e a b : Int), cn lo (pre ++ [s, e]) = true → e + 2 ≤ a → a ≤ b → b ≤ M → cn lo (pre ++ [s, e] ++ [a, b]) = true := by
  intro pre
  induction pre using pairs_ind with
  | h0 =>
    intro lo s e a b h h1 h2 h3
    rw [List.nil_append, cn_cons] at h
    show cn lo (s :: e :: [a, b]) = true
    rw [cn_cons, cn_cons]
    exact ⟨h.1, h.2.1, h.2.2.1, h1, h2, h3, rfl⟩
  | h1 a =>
    intro lo s e a b h _ _ _
    have := cn_even _ _ h
    simp at this
  | h2 x y t ih =>
    intro lo s e a b h h1 h2 h3
    rw [List.cons_append, List.cons_append, cn_cons] at h
    rw [List.cons_append, List.cons_append, List.cons_append, List.cons_append, cn_cons]
    exact ⟨h.1, h.2.1, h.2.2.1, ih _ _ _ _ _ h.2.2.2 h1 h2 h3⟩

/-- Ascending firsts from s on; each a range within [0, M]. -/
def asc : Int → List (Int × Int) → Prop
  | _, [] => True
  | s, p :: r => s ≤ p.1 ∧ p.1 ≤ p.2 ∧ p.2 ≤ M ∧ asc p.1 r
theorem asc_mono {s s' : Int} {qs : List (Int × Int)} (h : s' ≤ s) (hq : asc s qs) : asc s' qs := by
  cases qs with
  | nil => trivial
  | cons p r => exact ⟨by have := hq.1; omega, hq.2⟩

theorem mg_law : ∀ (qs : List (Int × Int)) (pre : List Int) (s e c : Int), cn 0 (pre ++ [s, e]) = true → asc s qs →
    cn 0 (mg pre s e qs) = true ∧ inP (mg pre s e qs) c = (inP (pre ++ [s, e]) c || inQ qs c) := by
  intro qs
  induction qs with
  | nil => intro pre s e c h _; exact ⟨h, by simp [mg, inQ]⟩
  | cons p r ih =>
    intro pre s e c h ha
    obtain ⟨h1, h2, h3, h4⟩ := ha
    have hev : pre.length % 2 = 0 := by have := cn_even _ _ h; simp at this; omega
    unfold mg
    by_cases hm : p.1 ≤ e + 1
    · rw [if_pos hm]
      have he : cn 0 (pre ++ [s, if e < p.2 then p.2 else e]) = true := by
        split
        · exact cn_extend pre 0 s e p.2 h (by omega) h3
        · exact h
      have := ih pre s (if e < p.2 then p.2 else e) c he (asc_mono h1 h4)
      refine ⟨this.1, ?_⟩
      rw [this.2, inP_append _ _ _ hev, inP_append _ _ _ hev]
      show (inP pre c || inP [s, if e < p.2 then p.2 else e] c || inQ r c) = (inP pre c || inP [s, e] c || inQ (p :: r) c)
      have e1 : inQ (p :: r) c = ((decide (p.1 ≤ c) && decide (c ≤ p.2)) || inQ r c) := rfl
      rw [e1, inP_cons, inP_cons]
      have e2 : ((decide (s ≤ c) && decide (c ≤ if e < p.2 then p.2 else e)) || inP [] c) = (((decide (s ≤ c) && decide (c ≤ e)) || inP [] c) || (decide (p.1 ≤ c) && decide (c ≤ p.2))) := by
        show (_ || false) = ((_ || false) || _)
        rw [Bool.eq_iff_iff]
        simp only [Bool.or_false, Bool.or_eq_true, Bool.and_eq_true, decide_eq_true_eq]
        split <;> omega
      rw [e2]
      simp [Bool.or_assoc]
    · rw [if_neg hm]
      have := ih (pre ++ [s, e]) p.1 p.2 c (cn_more pre 0 s e p.1 p.2 h (by omega) h2 h3) h4
      refine ⟨this.1, ?_⟩
      rw [this.2, inP_append (pre ++ [s, e]) _ _ (by simp; omega)]
      have e1 : inQ (p :: r) c = ((decide (p.1 ≤ c) && decide (c ≤ p.2)) || inQ r c) := rfl
      rw [e1, inP_cons]
      show (inP (pre ++ [s, e]) c || ((decide (p.1 ≤ c) && decide (c ≤ p.2)) || false) || inQ r c) = _
      simp [Bool.or_assoc]

theorem merge_law (qs : List (Int × Int)) (c : Int) (h : asc 0 qs) : cn 0 (merge qs) = true ∧ inP (merge qs) c = inQ qs c := by
  cases qs with
  | nil => exact ⟨rfl, rfl⟩
  | cons p r =>
    obtain ⟨h1, h2, h3, h4⟩ := h
    have h0 : cn 0 ([] ++ [p.1, p.2]) = true := by rw [List.nil_append, cn_cons]; exact ⟨h1, h2, h3, rfl⟩
    have := mg_law r [] p.1 p.2 c h0 h4
    refine ⟨this.1, ?_⟩
    show inP (mg [] p.1 p.2 r) c = _
    rw [this.2]
    show ((_ || inP [] c) || inQ r c) = _
    rw [Bool.or_assoc]
    rfl

theorem mg_len : ∀ (qs : List (Int × Int)) (pre : List Int) (s e : Int), (mg pre s e qs).length ≤ pre.length + 2 + 2 * qs.length := by
  intro qs
  induction qs with
  | nil => intro pre s e; simp [mg]
  | cons p r ih =>
    intro pre s e
    unfold mg
    split
    · have := ih pre s (if e < p.2 then p.2 else e); simp only [List.length_cons]; omega
    · have := ih (pre ++ [s, e]) p.1 p.2; simp only [List.length_cons, List.length_append, List.length_nil] at this ⊢; omega
theorem merge_len (qs : List (Int × Int)) : (merge qs).length ≤ 2 * qs.length := by
  cases qs with
  | nil => simp [merge]
  | cons p r => have := mg_len r [] p.1 p.2; unfold merge; simp only [List.length_cons, List.length_nil] at this ⊢; omega

/-- Membership does not hang on the order. -/
theorem inQ_perm {qs ps : List (Int × Int)} (h : qs.Perm ps) (c : Int) : inQ qs c = inQ ps c := by
  unfold inQ
  rw [Bool.eq_iff_iff, List.any_eq_true, List.any_eq_true]
  constructor
  · rintro ⟨x, hx, h2⟩; exact ⟨x, h.mem_iff.1 hx, h2⟩
  · rintro ⟨x, hx, h2⟩; exact ⟨x, h.mem_iff.2 hx, h2⟩

/-- The flat list's pairs. -/
def prs : List Int → List (Int × Int)
  | [] => []
  | [_] => []
  | a :: b :: r => (a, b) :: prs r
theorem inQ_prs : ∀ (l : List Int) (c : Int), inQ (prs l) c = inP l c := by
  intro l
  induction l using pairs_ind with
  | h0 => intro c; rfl
  | h1 a => intro c; rfl
  | h2 a b r ih => intro c; show (_ || inQ (prs r) c) = _; rw [ih c, inP_cons]

end Go.Proofs.Qxb6002344a.Rune
