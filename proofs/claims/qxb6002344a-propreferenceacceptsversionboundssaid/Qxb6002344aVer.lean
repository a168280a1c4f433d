/-
  PLAIN MATHEMATICS (no Go in it): version patterns.
-/
import Derived.Test.Qxb6002344aDec
namespace Go.Proofs.Qxb6002344a.Dec

def star : List UInt8 := [42]
def plus : List UInt8 := [43]

theorem star_num : isNum star = false := by decide
theorem plus_num : isNum plus = false := by decide

/-- The part i of a pattern is '*', or '+' at the end, or a numeral. -/
def partOK (P : List (List UInt8)) (i : Nat) : Bool := P.getD i [] == star || (P.getD i [] == plus && decide (i + 1 = P.length)) || isNum (P.getD i [])
def validP (P : List (List UInt8)) : Bool := decide (0 < P.length) && (List.range P.length).all (partOK P)
def validV (V : List (List UInt8)) : Bool := decide (0 < V.length) && (List.range V.length).all (fun i => isNum (V.getD i []))

/-- The parts i of pattern and version agree. -/
def agree (P V : List (List UInt8)) (i : Nat) : Bool := P.getD i [] == star || P.getD i [] == V.getD i []

/-- THE MEANING: does V lie in what P denotes? -/
def mB (P V : List (List UInt8)) : Bool :=
  if P.getD (P.length - 1) [] = plus then decide (P.length ≤ V.length) && (List.range (P.length - 1)).all (agree P V)
  else decide (V.length = P.length) && (List.range P.length).all (agree P V)

/-- Up to k all hold. -/
def upTo (f : Nat → Bool) (k : Nat) : Prop := (List.range k).all f = true
theorem upTo_zero (f : Nat → Bool) : upTo f 0 := by simp [upTo]
theorem upTo_succ {f : Nat → Bool} {k : Nat} (h : upTo f k) (hk : f k = true) : upTo f (k + 1) := by
  unfold upTo at h ⊢
  rw [List.range_succ, List.all_append, h]
  simp [hk]
theorem upTo_at {f : Nat → Bool} {k i : Nat} (h : upTo f k) (hi : i < k) : f i = true := by
  unfold upTo at h
  rw [List.all_eq_true] at h
  exact h i (List.mem_range.2 hi)
theorem not_upTo {f : Nat → Bool} {n i : Nat} (hi : i < n) (h : f i = false) : (List.range n).all f = false := by
  cases hx : (List.range n).all f with
  | false => rfl
  | true => have := upTo_at (f := f) hx hi; rw [h] at this; cases this

theorem validP_pos {P : List (List UInt8)} (h : validP P = true) : 0 < P.length := by
  unfold validP at h; simp at h; exact h.1
theorem validP_at {P : List (List UInt8)} (h : validP P = true) {i : Nat} (hi : i < P.length) : partOK P i = true := by
  unfold validP at h
  rw [Bool.and_eq_true] at h
  exact upTo_at (f := partOK P) h.2 hi
theorem validV_pos {P : List (List UInt8)} (h : validV P = true) : 0 < P.length := by
  unfold validV at h; simp at h; exact h.1
theorem validV_at {V : List (List UInt8)} (h : validV V = true) {i : Nat} (hi : i < V.length) : isNum (V.getD i []) = true := by
  unfold validV at h
  rw [Bool.and_eq_true] at h
  exact upTo_at (f := fun i => isNum (V.getD i [])) h.2 hi

theorem validP_yes {P : List (List UInt8)} (h0 : 0 < P.length) (h : upTo (partOK P) P.length) : validP P = true := by
  unfold validP
  unfold upTo at h
  rw [h]; simp [h0]
theorem validP_no {P : List (List UInt8)} {i : Nat} (hi : i < P.length) (h : partOK P i = false) : validP P = false := by
  unfold validP
  rw [not_upTo hi h]; simp
theorem validP_nil {P : List (List UInt8)} (h0 : P.length = 0) : validP P = false := by
  unfold validP; simp [h0]
theorem validV_yes {V : List (List UInt8)} (h0 : 0 < V.length) (h : upTo (fun i => isNum (V.getD i [])) V.length) : validV V = true := by
  unfold validV
  unfold upTo at h
  rw [h]; simp [h0]
theorem validV_no {V : List (List UInt8)} {i : Nat} (hi : i < V.length) (h : isNum (V.getD i []) = false) : validV V = false := by
  unfold validV
  rw [not_upTo (f := fun i => isNum (V.getD i [])) hi h]; simp
theorem validV_nil {V : List (List UInt8)} (h0 : V.length = 0) : validV V = false := by
  unfold validV; simp [h0]

theorem partOK_star {P : List (List UInt8)} {i : Nat} (h : P.getD i [] = star) : partOK P i = true := by
  unfold partOK; rw [h]; rfl
theorem partOK_plus {P : List (List UInt8)} {i : Nat} (h : P.getD i [] = plus) (hi : i + 1 = P.length) : partOK P i = true := by
  unfold partOK; rw [h]; simp [hi]
theorem partOK_num {P : List (List UInt8)} {i : Nat} (h : isNum (P.getD i []) = true) : partOK P i = true := by
  unfold partOK; rw [h]; simp
theorem partOK_no {P : List (List UInt8)} {i : Nat} (h1 : P.getD i [] ≠ star) (h2 : P.getD i [] ≠ plus ∨ i + 1 ≠ P.length) (h3 : isNum (P.getD i []) = false) : partOK P i = false := by
  unfold partOK
  rw [h3]
  have e1 : (P.getD i [] == star) = false := by rw [beq_eq_false_iff_ne]; exact h1
  rw [e1]
  rcases h2 with h2 | h2
  · have e2 : (P.getD i [] == plus) = false := by rw [beq_eq_false_iff_ne]; exact h2
    rw [e2]; rfl
  · have e2 : decide (i + 1 = P.length) = false := decide_eq_false h2
    rw [e2, Bool.and_false]; rfl

/-- A part of a valid pattern that is not '*' and not the closing '+' is a numeral. -/
theorem part_num {P : List (List UInt8)} (h : validP P = true) {i : Nat} (hi : i < P.length) (h1 : P.getD i [] ≠ star) (h2 : i + 1 < P.length ∨ P.getD i [] ≠ plus) : isNum (P.getD i []) = true := by
  have := validP_at h hi
  unfold partOK at this
  simp only [Bool.or_eq_true, Bool.and_eq_true, beq_iff_eq, decide_eq_true_eq] at this
  rcases this with (h3 | ⟨h3, h4⟩) | h3
  · exact absurd h3 h1
  · rcases h2 with h2 | h2
    · omega
    · exact absurd h3 h2
  · exact h3

/-- '+' stands at the end alone. -/
theorem plus_last {P : List (List UInt8)} (h : validP P = true) {i : Nat} (hi : i < P.length) (h1 : P.getD i [] = plus) : i + 1 = P.length := by
  have := validP_at h hi
  unfold partOK at this
  rw [h1] at this
  simp only [Bool.or_eq_true, Bool.and_eq_true, beq_iff_eq, decide_eq_true_eq, plus_num] at this
  rcases this with (h3 | ⟨_, h4⟩) | h3
  · exact absurd h3 (by decide)
  · exact h4
  · cases h3

theorem agree_star {P V : List (List UInt8)} {i : Nat} (h : P.getD i [] = star) : agree P V i = true := by unfold agree; rw [h]; rfl
theorem agree_eq {P V : List (List UInt8)} {i : Nat} (h : P.getD i [] = V.getD i []) : agree P V i = true := by unfold agree; rw [h]; simp
theorem agree_no {P V : List (List UInt8)} {i : Nat} (h1 : P.getD i [] ≠ star) (h2 : P.getD i [] ≠ V.getD i []) : agree P V i = false := by
  unfold agree
  rw [Bool.or_eq_false_iff]
  exact ⟨by simpa using h1, by simpa using h2⟩

/-! ### matches -/
/-- The loop's invariant at k: all parts ahead are no '+', and agree. -/
def noPlus (P : List (List UInt8)) (k : Nat) : Prop := ∀ j, j < k → P.getD j [] ≠ plus
theorem noPlus_zero (P : List (List UInt8)) : noPlus P 0 := fun j h => by omega
theorem noPlus_succ {P : List (List UInt8)} {k : Nat} (h : noPlus P k) (h1 : P.getD k [] ≠ plus) : noPlus P (k + 1) := fun j hj => by
  by_cases e : j = k
  · rw [e]; exact h1
  · exact h j (by omega)

theorem m_plus {P V : List (List UInt8)} {k : Nat} (h : validP P = true) (hk : k < P.length) (h1 : P.getD k [] = plus) (ha : upTo (agree P V) k) : mB P V = decide (k < V.length) := by
  have hl := plus_last h hk h1
  unfold mB
  have e : P.length - 1 = k := by omega
  rw [e, if_pos h1]
  unfold upTo at ha
  rw [ha, ← hl, Bool.and_true]
  rfl
theorem m_short {P V : List (List UInt8)} (hk : V.length < P.length) : mB P V = false := by
  unfold mB
  have h1 : ¬ P.length ≤ V.length := by omega
  have h2 : ¬ V.length = P.length := by omega
  split <;> simp [h1, h2]
theorem m_part {P V : List (List UInt8)} {k : Nat} (hk : k < P.length) (h1 : P.getD k [] ≠ plus) (h2 : P.getD k [] ≠ star) (h3 : P.getD k [] ≠ V.getD k []) : mB P V = false := by
  have ha := agree_no (V := V) h2 h3
  unfold mB
  split
  · rename_i hp
    have hk' : k < P.length - 1 := by
      by_cases e : k = P.length - 1
      · rw [e] at h1; exact absurd hp h1
      · omega
    rw [not_upTo hk' ha]; simp
  · rw [not_upTo hk ha]; simp
theorem m_end {P V : List (List UInt8)} (h0 : 0 < P.length) (hn : noPlus P P.length) (ha : upTo (agree P V) P.length) : mB P V = decide (V.length = P.length) := by
  unfold mB
  rw [if_neg (hn (P.length - 1) (by omega))]
  unfold upTo at ha
  rw [ha, Bool.and_true]

/-! ### zzc5Denotes -/
theorem d_plus {P V : List (List UInt8)} (hp : P.getD (P.length - 1) [] = plus) (hl : P.length ≤ V.length) (ha : upTo (agree P V) (P.length - 1)) : mB P V = true := by
  unfold mB
  unfold upTo at ha
  rw [if_pos hp, ha]; simp [hl]
theorem d_no {P V : List (List UInt8)} (hp : P.getD (P.length - 1) [] ≠ plus) (hl : V.length ≠ P.length) : mB P V = false := by
  unfold mB
  rw [if_neg hp]; simp [hl]
theorem d_all {P V : List (List UInt8)} (hp : P.getD (P.length - 1) [] ≠ plus) (hl : V.length = P.length) (ha : upTo (agree P V) P.length) : mB P V = true := by
  unfold mB
  unfold upTo at ha
  rw [if_neg hp, ha]; simp [hl]

end Go.Proofs.Qxb6002344a.Dec
