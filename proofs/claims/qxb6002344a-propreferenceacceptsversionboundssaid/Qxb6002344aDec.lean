/-
  PLAIN MATHEMATICS (no Go in it): digit strings, the schoolbook subtraction's sign, canonical numerals.
-/
namespace Go.Proofs.Qxb6002344a.Dec

/-- The digit of l at place k from the end (0 beyond). -/
def dg (l : List UInt8) (k : Nat) : Int := if k < l.length then ((l.getD (l.length - 1 - k) 48).toNat : Int) - 48 else 0

/-- The sign of the subtraction of the lowest k digits. -/
def cmpLow (a b : List UInt8) : Nat → Int
  | 0 => 0
  | k + 1 => if dg a k < dg b k then -1 else if dg b k < dg a k then 1 else cmpLow a b k

/-- What zzc5DecSign computes. -/
def decSign (a b : List UInt8) : Int := cmpLow a b (if a.length < b.length then b.length else a.length)

def isDig (c : UInt8) : Bool := decide (48 ≤ (c.toNat : Int)) && decide ((c.toNat : Int) ≤ 57)
def allDig (l : List UInt8) : Bool := l.all isDig

/-- What zzc5IsNum computes. -/
def isNum (l : List UInt8) : Bool := !l.isEmpty && l.all isDig && (decide (l.length = 1) || decide ((l.getD 0 48).toNat ≠ 48))

theorem cmpLow_range (a b : List UInt8) : ∀ k, cmpLow a b k = -1 ∨ cmpLow a b k = 0 ∨ cmpLow a b k = 1
  | 0 => by simp [cmpLow]
  | k + 1 => by
    have := cmpLow_range a b k
    unfold cmpLow
    split
    · simp
    · split
      · simp
      · exact this

theorem isDig_iff (c : UInt8) : isDig c = true ↔ 48 ≤ c.toNat ∧ c.toNat ≤ 57 := by
  unfold isDig; simp; omega

theorem getD_mem {l : List UInt8} {i : Nat} (h : i < l.length) (d : UInt8) : l.getD i d ∈ l := by
  rw [List.getD_eq_getElem?_getD, List.getElem?_eq_getElem h]; simp

theorem allDig_getD {l : List UInt8} (h : allDig l = true) {i : Nat} (hi : i < l.length) : 48 ≤ (l.getD i 48).toNat ∧ (l.getD i 48).toNat ≤ 57 := by
  unfold allDig at h
  rw [List.all_eq_true] at h
  exact (isDig_iff _).1 (h _ (getD_mem hi 48))

theorem dg_range {l : List UInt8} (h : allDig l = true) (k : Nat) : 0 ≤ dg l k ∧ dg l k ≤ 9 := by
  unfold dg
  split
  · have := allDig_getD h (i := l.length - 1 - k) (by omega)
    omega
  · omega

theorem isNum_allDig {l : List UInt8} (h : isNum l = true) : allDig l = true := by
  unfold isNum at h
  simp only [Bool.and_eq_true] at h
  exact h.1.2

theorem isNum_pos {l : List UInt8} (h : isNum l = true) : 0 < l.length := by
  unfold isNum at h; simp at h
  cases l with
  | nil => simp at h
  | cons _ _ => simp

theorem isNum_head {l : List UInt8} (h : isNum l = true) (h2 : 2 ≤ l.length) : (l.getD 0 48).toNat ≠ 48 := by
  unfold isNum at h
  simp only [Bool.and_eq_true, Bool.or_eq_true, decide_eq_true_eq] at h
  rcases h.2 with h3 | h3
  · omega
  · exact h3

theorem dg_top {l : List UInt8} (h : isNum l = true) (h2 : 2 ≤ l.length) : 0 < dg l (l.length - 1) := by
  have h1 := isNum_head h h2
  have h3 := allDig_getD (isNum_allDig h) (i := 0) (by omega)
  unfold dg
  rw [if_pos (by omega)]
  have : l.length - 1 - (l.length - 1) = 0 := by omega
  rw [this]
  omega

theorem dg_beyond {l : List UInt8} {k : Nat} (h : l.length ≤ k) : dg l k = 0 := by
  unfold dg; rw [if_neg (by omega)]

/-- The shorter canonical numeral is the lesser. -/
theorem decSign_lt {a b : List UInt8} (ha : isNum a = true) (hb : isNum b = true) (h : a.length < b.length) : decSign a b = -1 := by
  have hp := isNum_pos ha
  unfold decSign
  rw [if_pos h]
  obtain ⟨n, hn⟩ : ∃ n, b.length = n + 1 := ⟨b.length - 1, by omega⟩
  have ht := dg_top hb (by omega)
  rw [hn] at ht ⊢
  unfold cmpLow
  rw [if_pos]
  rw [dg_beyond (l := a) (by omega)]
  simpa using ht

theorem decSign_gt {a b : List UInt8} (ha : isNum a = true) (hb : isNum b = true) (h : b.length < a.length) : decSign a b = 1 := by
  have hp := isNum_pos hb
  unfold decSign
  rw [if_neg (by omega)]
  obtain ⟨n, hn⟩ : ∃ n, a.length = n + 1 := ⟨a.length - 1, by omega⟩
  have ht := dg_top ha (by omega)
  rw [hn] at ht ⊢
  have hz : dg b n = 0 := dg_beyond (by omega)
  have ht' : 0 < dg a n := by simpa using ht
  unfold cmpLow
  rw [if_neg (by omega), if_pos (by omega)]

theorem dg_cons (x : UInt8) (l : List UInt8) (k : Nat) (h : k < l.length) : dg (x :: l) k = dg l k := by
  unfold dg
  rw [if_pos (by simp; omega), if_pos h]
  have : (x :: l).length - 1 - k = (l.length - 1 - k) + 1 := by simp; omega
  rw [this]
  simp

theorem dg_cons_top (x : UInt8) (l : List UInt8) : dg (x :: l) l.length = (x.toNat : Int) - 48 := by
  unfold dg
  rw [if_pos (by simp)]
  have : (x :: l).length - 1 - l.length = 0 := by simp
  rw [this]
  simp

theorem cmpLow_cons (x y : UInt8) (a b : List UInt8) (hl : a.length = b.length) : ∀ k, k ≤ a.length → cmpLow (x :: a) (y :: b) k = cmpLow a b k
  | 0, _ => rfl
  | k + 1, h => by
    unfold cmpLow
    rw [dg_cons x a k (by omega), dg_cons y b k (by omega), cmpLow_cons x y a b hl k (by omega)]

/-- The three-way comparison of byte lists of one length. -/
def lex : List UInt8 → List UInt8 → Int
  | [], [] => 0
  | [], _ :: _ => -1
  | _ :: _, [] => 1
  | a :: as, b :: bs => if a < b then -1 else if b < a then 1 else lex as bs

theorem lex_cons (a b : UInt8) (as bs : List UInt8) : lex (a :: as) (b :: bs) = if a < b then -1 else if b < a then 1 else lex as bs := rfl

theorem decSign_lex : ∀ (a b : List UInt8), a.length = b.length → decSign a b = lex a b
  | [], [], _ => rfl
  | x :: a, y :: b, h => by
    have hl : a.length = b.length := by simpa using h
    have ih := decSign_lex a b hl
    unfold decSign at ih ⊢
    rw [if_neg (by omega)] at ih
    rw [if_neg (by simp; omega)]
    rw [List.length_cons]
    unfold cmpLow
    have e1 := dg_cons_top x a
    have e2 : dg (y :: b) a.length = (y.toNat : Int) - 48 := by rw [hl]; exact dg_cons_top y b
    rw [e1, e2, cmpLow_cons x y a b hl _ (Nat.le_refl _), ih]
    rw [lex_cons]
    simp only [UInt8.lt_iff_toNat_lt]
    by_cases h1 : x.toNat < y.toNat
    · rw [if_pos (by omega), if_pos h1]
    · rw [if_neg (by omega), if_neg h1]
      by_cases h2 : y.toNat < x.toNat
      · rw [if_pos (by omega), if_pos h2]
      · rw [if_neg (by omega), if_neg h2]

theorem lex_zero : ∀ (a b : List UInt8), lex a b = 0 ↔ a = b
  | [], [] => by simp [lex]
  | [], _ :: _ => by simp [lex]
  | _ :: _, [] => by simp [lex]
  | x :: a, y :: b => by
    unfold lex
    by_cases h1 : x < y
    · have hne : x ≠ y := UInt8.ne_of_lt h1
      simp [h1, hne]
    · by_cases h2 : y < x
      · have hne : x ≠ y := (UInt8.ne_of_lt h2).symm
        simp [h1, h2, hne]
      · have he : x = y := UInt8.le_antisymm (UInt8.not_lt.1 h2) (UInt8.not_lt.1 h1)
        subst he
        simp [h1, lex_zero a b]

theorem lex_range : ∀ (a b : List UInt8), lex a b = -1 ∨ lex a b = 0 ∨ lex a b = 1
  | [], [] => by simp [lex]
  | [], _ :: _ => by simp [lex]
  | _ :: _, [] => by simp [lex]
  | x :: a, y :: b => by
    have := lex_range a b
    unfold lex
    split
    · simp
    · split
      · simp
      · exact this

theorem decSign_range (a b : List UInt8) : decSign a b = -1 ∨ decSign a b = 0 ∨ decSign a b = 1 := cmpLow_range a b _

/-- Of two canonical numerals the difference is 0 just where they are one. -/
theorem decSign_zero {a b : List UInt8} (ha : isNum a = true) (hb : isNum b = true) : decSign a b = 0 ↔ a = b := by
  by_cases h1 : a.length < b.length
  · rw [decSign_lt ha hb h1]
    constructor
    · intro h; omega
    · intro h; subst h; omega
  · by_cases h2 : b.length < a.length
    · rw [decSign_gt ha hb h2]
      constructor
      · intro h; omega
      · intro h; subst h; omega
    · rw [decSign_lex a b (by omega)]
      exact lex_zero a b

/-- What compareNumbers computes. -/
def cmpNum (a b : List UInt8) : Int := if a.length ≠ b.length then (a.length : Int) - (b.length : Int) else lex a b

/-- What zzc5Sign computes. -/
def sgn (x : Int) : Int := if x < 0 then -1 else if 0 < x then 1 else 0

theorem sgn_cmpNum {a b : List UInt8} (ha : isNum a = true) (hb : isNum b = true) : sgn (cmpNum a b) = decSign a b := by
  unfold cmpNum
  by_cases h : a.length = b.length
  · rw [if_neg (by omega), decSign_lex a b h]
    unfold sgn
    rcases lex_range a b with e | e | e <;> rw [e] <;> simp
  · rw [if_pos h]
    unfold sgn
    by_cases h1 : a.length < b.length
    · rw [decSign_lt ha hb h1, if_pos (by omega)]
    · rw [decSign_gt ha hb (by omega), if_neg (by omega), if_pos (by omega)]

/-- The walk's state: the borrow and 'nonzero', out of the sign. -/
def bor (s : Int) : Int := if s = -1 then 1 else 0
def nz (s : Int) : Bool := decide (s ≠ 0)

/-- The first k bytes are digits. -/
def digTo (l : List UInt8) (k : Nat) : Prop := (l.take k).all isDig = true
theorem digTo_zero (l : List UInt8) : digTo l 0 := by simp [digTo]
theorem digTo_succ {l : List UInt8} {k : Nat} (h : k < l.length) (hp : digTo l k) (h1 : 48 ≤ (l.getD k 48).toNat) (h2 : (l.getD k 48).toNat ≤ 57) : digTo l (k + 1) := by
  unfold digTo at hp ⊢
  rw [List.take_succ_eq_append_getElem h, List.all_append, hp]
  have e : l.getD k 48 = l[k] := by rw [List.getD_eq_getElem?_getD, List.getElem?_eq_getElem h]; rfl
  rw [e] at h1 h2
  simp [(isDig_iff l[k]).2 ⟨h1, h2⟩]
theorem digTo_all {l : List UInt8} {k : Nat} (hp : digTo l k) (h : l.length ≤ k) : allDig l = true := by
  unfold digTo at hp
  rw [List.take_of_length_le h] at hp
  exact hp
theorem not_allDig {l : List UInt8} {k : Nat} (h : k < l.length) (h1 : (l.getD k 48).toNat < 48 ∨ 57 < (l.getD k 48).toNat) : allDig l = false := by
  cases hx : allDig l with
  | false => rfl
  | true => have := allDig_getD hx h; omega
theorem isNum_bad {l : List UInt8} (h : allDig l = false) : isNum l = false := by
  unfold allDig at h
  unfold isNum
  rw [h]; simp
theorem isNum_nil {l : List UInt8} (h : l.length = 0) : isNum l = false := by
  have : l = [] := List.eq_nil_of_length_eq_zero h
  subst this; rfl
theorem isNum_one {l : List UInt8} (h : allDig l = true) (h1 : l.length = 1) : isNum l = true := by
  unfold isNum
  unfold allDig at h
  rw [h]
  cases l with
  | nil => simp at h1
  | cons _ _ => simp at h1; simp [h1]
theorem isNum_more {l : List UInt8} (h : allDig l = true) (h1 : 0 < l.length) : (((l.length : Int) == 1) || (((l.getD 0 48).toNat : Int) != 48)) = isNum l := by
  have e : ((l.length : Int) == 1) = decide (l.length = 1) := by
    by_cases hh : l.length = 1
    · simp [hh]
    · have : ¬ ((l.length : Int) = 1) := by omega
      simp [hh, this]
  rw [e]
  unfold isNum
  unfold allDig at h
  rw [h]
  cases l with
  | nil => simp at h1
  | cons a b =>
    simp
    by_cases hh : a.toNat = 48
    · simp [hh]
    · have : ¬ ((a.toNat : Int) = 48) := by omega
      simp [hh, this]

theorem bor_range (c : Int) : 0 ≤ bor c ∧ bor c ≤ 1 := by unfold bor; split <;> omega

/-- One round of the subtraction, d the difference ahead of the mending. -/
theorem step {A B : List UInt8} {k : Nat} {c x y : Int} (hc : c = cmpLow A B k) (hx : x = dg A k) (hy : y = dg B k) (x0 : 0 ≤ x) (x9 : x ≤ 9) (y0 : 0 ≤ y) (y9 : y ≤ 9) :
    (x - y - bor c < 0 → bor (cmpLow A B (k + 1)) = 1 ∧ (x - y - bor c + 10 ≠ 0 → nz (cmpLow A B (k + 1)) = true) ∧ (x - y - bor c + 10 = 0 → nz (cmpLow A B (k + 1)) = nz c)) ∧
    (0 ≤ x - y - bor c → bor (cmpLow A B (k + 1)) = 0 ∧ (x - y - bor c ≠ 0 → nz (cmpLow A B (k + 1)) = true) ∧ (x - y - bor c = 0 → nz (cmpLow A B (k + 1)) = nz c)) := by
  have e : cmpLow A B (k + 1) = if x < y then -1 else if y < x then 1 else c := by rw [hx, hy, hc]; rfl
  have r := cmpLow_range A B k
  rw [← hc] at r
  rw [e]
  clear e hc hx hy
  rcases r with rfl | rfl | rfl
  all_goals
    by_cases h1 : x < y
    · rw [if_pos h1]; simp [bor, nz]; omega
    · rw [if_neg h1]
      by_cases h2 : y < x
      · rw [if_pos h2]; simp [bor, nz]; omega
      · rw [if_neg h2]; simp [bor, nz]; omega

end Go.Proofs.Qxb6002344a.Dec
