/-
  PLAIN MATHEMATICS: decimal values, the 128-bit product (no Go in it).
-/
import Derived.Lib.ParseIntB
namespace Go.Proofs.Qxb6002344aDoor.Units

def digit (c : UInt8) : Bool := decide (48 ≤ c.toNat) && decide (c.toNat ≤ 57)
def allDigits (l : List UInt8) : Bool := l.all digit
theorem digit_iff {c : UInt8} : digit c = true ↔ 48 ≤ c.toNat ∧ c.toNat ≤ 57 := by unfold digit; simp
/-- What the digits spell, 'acc' being ahead of them. -/
def val (acc : Nat) : List UInt8 → Nat
  | [] => acc
  | c :: r => val (acc * 10 + (c.toNat - 48)) r
theorem val_cons (a : Nat) (c : UInt8) (r : List UInt8) : val a (c :: r) = val (a * 10 + (c.toNat - 48)) r := by
  have e : val a (c :: r) = val (a * 10 + (c.toNat - 48)) r := rfl
  exact e
theorem val_ge : ∀ (l : List UInt8) (acc : Nat), acc ≤ val acc l := by
  intro l
  induction l with
  | nil => intro acc; exact Nat.le_refl _
  | cons c r ih => intro acc; exact Nat.le_trans (by omega) (ih _)

theorem puM : ∀ (l : List UInt8) (acc : Nat), allDigits l = true → acc ≤ 18446744073709551615 →
    Lib.parseUintM 18446744073709551615 acc l = if val acc l ≤ 18446744073709551615 then .ok (val acc l) else .range := by
  intro l
  induction l with
  | nil => intro acc _ h; rw [show val acc [] = acc from rfl, if_pos h]; rfl
  | cons c r ih =>
    intro acc h ha
    have h' : digit c = true ∧ allDigits r = true := by simpa [allDigits] using h
    have hd := digit_iff.1 h'.1
    unfold Lib.parseUintM
    rw [if_pos hd]
    have hge := val_ge r (acc * 10 + (c.toNat - 48))
    have e : val acc (c :: r) = val (acc * 10 + (c.toNat - 48)) r := rfl
    rw [e]
    by_cases h1 : 1844674407370955162 ≤ acc
    · rw [if_pos h1, if_neg (by omega)]
    · rw [if_neg h1]
      by_cases h2 : 18446744073709551615 < acc * 10 + (c.toNat - 48)
      · rw [if_pos h2, if_neg (by omega)]
      · rw [if_neg h2, ih _ h'.2 (by omega)]

theorem pI {l : List UInt8} (hne : l ≠ []) (h : allDigits l = true) : Lib.parseIntB 64 l = if val 0 l ≤ 9223372036854775807 then .ok (val 0 l : Int) else .range := by
  cases l with
  | nil => exact absurd rfl hne
  | cons c r =>
    have h' : digit c = true ∧ allDigits r = true := by simpa [allDigits] using h
    have hd := digit_iff.1 h'.1
    have e1 : ¬ (c.toNat = 43 ∨ c.toNat = 45) := by omega
    have e2 : ¬ c.toNat = 45 := by omega
    have hp : Lib.parseUintB 64 (c :: r) = if val 0 (c :: r) ≤ 18446744073709551615 then .ok (val 0 (c :: r)) else .range := by
      unfold Lib.parseUintB
      rw [if_neg (by simp)]
      exact puM (c :: r) 0 h (by omega)
    have hh : Lib.parseIntB 64 (c :: r) = match Lib.parseUintB 64 (c :: r) with
        | .syntax => .syntax
        | .range => .range
        | .ok u => if 2 ^ (64 - 1) ≤ u then .range else .ok (u : Int) := by
      unfold Lib.parseIntB
      simp only [if_neg e1]
      cases Lib.parseUintB 64 (c :: r) <;> simp [e2]
    rw [hh, hp]
    by_cases h1 : val 0 (c :: r) ≤ 18446744073709551615
    · rw [if_pos h1]
      by_cases h2 : val 0 (c :: r) ≤ 9223372036854775807
      · rw [if_pos h2]
        have h3 : ¬ (2 ^ (64 - 1) ≤ val 0 (c :: r)) := by simp; omega
        simp only [if_neg h3]
      · rw [if_neg h2]
        have h3 : 2 ^ (64 - 1) ≤ val 0 (c :: r) := by simp; omega
        simp only [if_pos h3]
    · rw [if_neg h1, if_neg (by omega)]

/-- addUnits' answer: the sum and whether it fits. -/
theorem fits {t u V : Int} (hu : 0 < u) : V ≤ (9223372036854775807 - t) / u ↔ V * u + t ≤ 9223372036854775807 := by
  rw [Int.le_ediv_iff_mul_le hu]
  omega
theorem fits_val {t u V : Int} (h0 : 0 ≤ t) (hu : 0 < u) (hV : 0 ≤ V) (h : V * u + t ≤ 9223372036854775807) : V ≤ 9223372036854775807 := by
  have : V * 1 ≤ V * u := Int.mul_le_mul_of_nonneg_left (by omega) hV
  omega

/-- The product in halves. -/
theorem halves (x y : Int) : x * y = (x / 4294967296) * (y / 4294967296) * 18446744073709551616 + ((x / 4294967296) * (y % 4294967296) + (x % 4294967296) * (y / 4294967296)) * 4294967296 + (x % 4294967296) * (y % 4294967296) := by
  have hx := Int.mul_ediv_add_emod x 4294967296
  have hy := Int.mul_ediv_add_emod y 4294967296
  generalize x / 4294967296 = a at *
  generalize x % 4294967296 = b at *
  generalize y / 4294967296 = c at *
  generalize y % 4294967296 = d at *
  subst hx
  subst hy
  grind

/-- math/bits' way to the high half. -/
theorem high {x0 x1 y0 y1 P : Int}
    (hP : P = x1 * y1 * 18446744073709551616 + (x1 * y0 + x0 * y1) * 4294967296 + x0 * y0) :
    x1 * y1 + (x1 * y0 + x0 * y0 / 4294967296) / 4294967296 + ((x1 * y0 + x0 * y0 / 4294967296) % 4294967296 + x0 * y1) / 4294967296 = P / 18446744073709551616 := by
  generalize x1 * y1 = p11 at *
  generalize x1 * y0 = p10 at *
  generalize x0 * y1 = p01 at *
  generalize x0 * y0 = p00 at *
  omega

theorem prod_bound {a b : Int} (ha : 0 ≤ a ∧ a < 4294967296) (hb : 0 ≤ b ∧ b < 4294967296) : 0 ≤ a * b ∧ a * b ≤ 18446744065119617025 := by
  refine ⟨Int.mul_nonneg ha.1 hb.1, ?_⟩
  have h1 : a * b ≤ 4294967295 * b := Int.mul_le_mul_of_nonneg_right (by omega) hb.1
  omega
end Go.Proofs.Qxb6002344aDoor.Units
