/-
  PLAIN MATHEMATICS (no Go in it): version bounds.
-/
import Derived.Test.Qxb6002344aVer
namespace Go.Proofs.Qxb6002344a.Dec

/-- A part that is a wildcard. -/
def wild (p : List UInt8) : Bool := p == star || p == plus
def zed : List UInt8 := [48]
theorem zed_num : isNum zed = true := by decide
/-- The part with a wildcard read as 0. -/
def low (p : List UInt8) : List UInt8 := if wild p = true then zed else p

/-- What versionPattern.compare computes. -/
def cmpV (g : Bool) : List (List UInt8) → List (List UInt8) → Int
  | [], [] => 0
  | [], _ :: _ => -1
  | p :: _, [] => if (wild p && g) = true then 1 else 1
  | p :: P, x :: V => if (wild p && g) = true then 1 else if cmpNum (low p) x = 0 then cmpV g P V else cmpNum (low p) x

/-- What zzc5LeastCmp computes. -/
def leastC : List (List UInt8) → List (List UInt8) → Int
  | [], [] => 0
  | [], _ :: _ => -1
  | _ :: _, [] => 1
  | p :: P, x :: V => if decSign (low p) x = 0 then leastC P V else decSign (low p) x

/-- What zzc5LeqGreatest computes (of l, v). -/
def leG : List (List UInt8) → List (List UInt8) → Bool
  | [], [] => true
  | [], _ :: _ => false
  | p :: _, [] => if wild p = true then true else true
  | p :: P, x :: V => if wild p = true then true else if decSign p x = 0 then leG P V else decide (0 < decSign p x)

def okP (P : List (List UInt8)) : Prop := ∀ p ∈ P, wild p = true ∨ isNum p = true
def okV (V : List (List UInt8)) : Prop := ∀ x ∈ V, isNum x = true

theorem getD_mem' {P : List (List UInt8)} {p : List UInt8} (h : p ∈ P) : ∃ i, i < P.length ∧ P.getD i [] = p := by
  obtain ⟨i, hi, e⟩ := List.mem_iff_getElem.1 h
  exact ⟨i, hi, by rw [List.getD_eq_getElem?_getD, List.getElem?_eq_getElem hi]; exact e⟩

theorem okP_of {P : List (List UInt8)} (h : validP P = true) : okP P := by
  intro p hp
  obtain ⟨i, hi, rfl⟩ := getD_mem' hp
  have := validP_at h hi
  unfold partOK at this
  simp only [Bool.or_eq_true, Bool.and_eq_true] at this
  unfold wild
  rw [Bool.or_eq_true]
  rcases this with (h1 | h1) | h1
  · exact .inl (.inl h1)
  · exact .inl (.inr h1.1)
  · exact .inr h1
theorem okV_of {V : List (List UInt8)} (h : validV V = true) : okV V := by
  intro p hp
  obtain ⟨i, hi, rfl⟩ := getD_mem' hp
  exact validV_at h hi

theorem low_num {p : List UInt8} (h : wild p = true ∨ isNum p = true) : isNum (low p) = true := by
  unfold low
  split
  · exact zed_num
  · rcases h with h | h
    · contradiction
    · exact h

theorem cmpNum_zero {a b : List UInt8} (ha : isNum a = true) (hb : isNum b = true) : cmpNum a b = 0 ↔ decSign a b = 0 := by
  have h := sgn_cmpNum ha hb
  rw [← h]
  unfold sgn
  constructor
  · intro e; rw [e]; rfl
  · intro e
    split at e
    · omega
    · split at e <;> omega

theorem cmpNum_le {a b : List UInt8} (ha : isNum a = true) (hb : isNum b = true) : (cmpNum a b ≤ 0 ↔ decSign a b ≤ 0) ∧ (0 ≤ cmpNum a b ↔ 0 ≤ decSign a b) := by
  have h := sgn_cmpNum ha hb
  rw [← h]
  unfold sgn
  split
  · omega
  · split <;> omega

theorem least_law : ∀ (P V : List (List UInt8)), okP P → okV V → (cmpV false P V ≤ 0 ↔ leastC P V ≤ 0)
  | [], [], _, _ => by simp [cmpV, leastC]
  | [], _ :: _, _, _ => by simp [cmpV, leastC]
  | _ :: _, [], _, _ => by simp [cmpV, leastC]
  | p :: P, x :: V, hP, hV => by
    have ih := least_law P V (fun q hq => hP q (by simp [hq])) (fun q hq => hV q (by simp [hq]))
    have hp := low_num (hP p (by simp))
    have hx := hV x (by simp)
    have h0 := cmpNum_zero hp hx
    have hle := (cmpNum_le hp hx).1
    unfold cmpV leastC
    rw [if_neg (by simp)]
    by_cases e : cmpNum (low p) x = 0
    · rw [if_pos e, if_pos (h0.1 e)]; exact ih
    · rw [if_neg e, if_neg (fun h => e (h0.2 h))]; exact hle

theorem great_law : ∀ (P V : List (List UInt8)), okP P → okV V → decide (0 ≤ cmpV true P V) = leG P V
  | [], [], _, _ => by simp [cmpV, leG]
  | [], _ :: _, _, _ => by simp [cmpV, leG]
  | _ :: _, [], _, _ => by simp [cmpV, leG]
  | p :: P, x :: V, hP, hV => by
    have ih := great_law P V (fun q hq => hP q (by simp [hq])) (fun q hq => hV q (by simp [hq]))
    unfold cmpV leG
    by_cases w : wild p = true
    · rw [if_pos (by simp [w]), if_pos w]; rfl
    · have hp : isNum p = true := (hP p (by simp)).resolve_left w
      have hx := hV x (by simp)
      have el : low p = p := by unfold low; rw [if_neg w]
      have h0 := cmpNum_zero hp hx
      have hle := (cmpNum_le hp hx).2
      rw [if_neg (by simp [w]), if_neg w, el]
      by_cases e : cmpNum p x = 0
      · rw [if_pos e, if_pos (h0.1 e)]; exact ih
      · have e' : ¬ decSign p x = 0 := fun h => e (h0.2 h)
        rw [if_neg e, if_neg e']
        have : (0 ≤ cmpNum p x) ↔ (0 < decSign p x) := by rw [hle]; omega
        exact decide_eq_decide.2 this

/-! ### The loops' steps, by the tails -/
theorem drop_at {P : List (List UInt8)} {k : Nat} (h : k < P.length) : P.drop k = P.getD k [] :: P.drop (k + 1) := by
  rw [List.drop_eq_getElem_cons h, List.getD_eq_getElem?_getD, List.getElem?_eq_getElem h]; rfl

theorem cv_wild {P V : List (List UInt8)} {k : Nat} (h : k < P.length) (hw : wild (P.getD k []) = true) : cmpV true (P.drop k) (V.drop k) = 1 := by
  rw [drop_at h]
  cases V.drop k with
  | nil => unfold cmpV; simp
  | cons x W => unfold cmpV; rw [if_pos (by rw [hw]; rfl)]
theorem cv_short {g : Bool} {P V : List (List UInt8)} {k : Nat} (h : k < P.length) (hv : V.length ≤ k) : cmpV g (P.drop k) (V.drop k) = 1 := by
  rw [drop_at h, List.drop_eq_nil_of_le hv]
  unfold cmpV; simp
theorem cv_here {g : Bool} {P V : List (List UInt8)} {k : Nat} (h : k < P.length) (hv : k < V.length) (hw : (wild (P.getD k []) && g) = false) (hc : cmpNum (low (P.getD k [])) (V.getD k []) ≠ 0) :
    cmpV g (P.drop k) (V.drop k) = cmpNum (low (P.getD k [])) (V.getD k []) := by
  rw [drop_at h, drop_at hv]
  unfold cmpV
  rw [if_neg (by rw [hw]; simp), if_neg hc]
theorem cv_next {g : Bool} {P V : List (List UInt8)} {k : Nat} (h : k < P.length) (hv : k < V.length) (hw : (wild (P.getD k []) && g) = false) (hc : cmpNum (low (P.getD k [])) (V.getD k []) = 0) :
    cmpV g (P.drop k) (V.drop k) = cmpV g (P.drop (k + 1)) (V.drop (k + 1)) := by
  rw [drop_at h, drop_at hv]
  conv => lhs; unfold cmpV
  rw [if_neg (by rw [hw]; simp), if_pos hc]
theorem cv_end {g : Bool} {P V : List (List UInt8)} {k : Nat} (h : P.length ≤ k) : cmpV g (P.drop k) (V.drop k) = if k < V.length then -1 else 0 := by
  rw [List.drop_eq_nil_of_le h]
  split
  · rename_i hv
    rw [drop_at hv]; rfl
  · rw [List.drop_eq_nil_of_le (by omega)]; rfl

theorem lc_here {P V : List (List UInt8)} {k : Nat} (h : k < P.length) (hv : k < V.length) (hc : decSign (low (P.getD k [])) (V.getD k []) ≠ 0) :
    leastC (P.drop k) (V.drop k) = decSign (low (P.getD k [])) (V.getD k []) := by
  rw [drop_at h, drop_at hv]
  unfold leastC
  rw [if_neg hc]
theorem lc_next {P V : List (List UInt8)} {k : Nat} (h : k < P.length) (hv : k < V.length) (hc : decSign (low (P.getD k [])) (V.getD k []) = 0) :
    leastC (P.drop k) (V.drop k) = leastC (P.drop (k + 1)) (V.drop (k + 1)) := by
  rw [drop_at h, drop_at hv]
  conv => lhs; unfold leastC
  rw [if_pos hc]
theorem lc_end {P V : List (List UInt8)} {k : Nat} (h : P.length ≤ k ∨ V.length ≤ k) (hp : k ≤ P.length) (hv : k ≤ V.length) : leastC (P.drop k) (V.drop k) = if P.length < V.length then -1 else if V.length < P.length then 1 else 0 := by
  by_cases h1 : k < P.length
  · have h2 : V.length ≤ k := by omega
    rw [drop_at h1, List.drop_eq_nil_of_le h2, if_neg (by omega), if_pos (by omega)]; rfl
  · rw [List.drop_eq_nil_of_le (by omega)]
    by_cases h2 : k < V.length
    · rw [drop_at h2, if_pos (by omega)]; rfl
    · rw [List.drop_eq_nil_of_le (by omega), if_neg (by omega), if_neg (by omega)]; rfl

theorem lg_wild {P V : List (List UInt8)} {k : Nat} (h : k < P.length) (hw : wild (P.getD k []) = true) : leG (P.drop k) (V.drop k) = true := by
  rw [drop_at h]
  cases V.drop k with
  | nil => unfold leG; simp
  | cons x W => unfold leG; rw [if_pos hw]
theorem lg_short {P V : List (List UInt8)} {k : Nat} (h : k < P.length) (hv : V.length ≤ k) : leG (P.drop k) (V.drop k) = true := by
  rw [drop_at h, List.drop_eq_nil_of_le hv]
  unfold leG; simp
theorem lg_here {P V : List (List UInt8)} {k : Nat} (h : k < P.length) (hv : k < V.length) (hw : wild (P.getD k []) = false) (hc : decSign (P.getD k []) (V.getD k []) ≠ 0) :
    leG (P.drop k) (V.drop k) = decide (0 < decSign (P.getD k []) (V.getD k [])) := by
  rw [drop_at h, drop_at hv]
  unfold leG
  rw [if_neg (by rw [hw]; simp), if_neg hc]
theorem lg_next {P V : List (List UInt8)} {k : Nat} (h : k < P.length) (hv : k < V.length) (hw : wild (P.getD k []) = false) (hc : decSign (P.getD k []) (V.getD k []) = 0) :
    leG (P.drop k) (V.drop k) = leG (P.drop (k + 1)) (V.drop (k + 1)) := by
  rw [drop_at h, drop_at hv]
  conv => lhs; unfold leG
  rw [if_neg (by rw [hw]; simp), if_pos hc]
theorem lg_end {P V : List (List UInt8)} {k : Nat} (h : P.length ≤ k) : leG (P.drop k) (V.drop k) = decide (V.length ≤ k) := by
  rw [List.drop_eq_nil_of_le h]
  by_cases hv : k < V.length
  · rw [drop_at hv]
    have : ¬ V.length ≤ k := by omega
    simp [leG, this]
  · rw [List.drop_eq_nil_of_le (by omega)]
    have : V.length ≤ k := by omega
    simp [leG, this]
end Go.Proofs.Qxb6002344a.Dec
