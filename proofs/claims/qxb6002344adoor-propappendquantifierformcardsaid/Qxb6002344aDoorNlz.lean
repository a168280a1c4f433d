/-
  PLAIN MATHEMATICS: no leading zeros (no Go in it).
-/
import Derived.Lib.ItoaNum
namespace Go.Proofs.Qxb6002344aDoor.App

def dig (c : UInt8) : Bool := decide (48 ≤ c.toNat) && decide (c.toNat ≤ 57)
def headDig : List UInt8 → Bool
  | [] => false
  | c :: _ => dig c
/-- p: the byte ahead is a digit. -/
def nlz : Bool → List UInt8 → Bool
  | _, [] => true
  | p, c :: r => !(dig c && !p && decide (c.toNat = 48) && headDig r) && nlz (dig c) r

theorem nlz_cons (p : Bool) (c : UInt8) (r : List UInt8) : nlz p (c :: r) = (!(dig c && !p && decide (c.toNat = 48) && headDig r) && nlz (dig c) r) := rfl
theorem nlz_non {p : Bool} {c : UInt8} {r : List UInt8} (h : dig c = false) : nlz p (c :: r) = nlz false r := by rw [nlz_cons, h]; simp
theorem nlz_run {c : UInt8} {r : List UInt8} (h : dig c = true) : nlz true (c :: r) = nlz true r := by rw [nlz_cons, h]; simp
theorem nlz_digs : ∀ (ds r : List UInt8), (∀ c ∈ ds, dig c = true) → nlz true (ds ++ r) = nlz true r
  | [], _, _ => rfl
  | c :: ds, r, h => by
    rw [List.cons_append, nlz_run (h c (by simp))]
    exact nlz_digs ds r (fun d hd => h d (by simp [hd]))
theorem nlz_start {c : UInt8} {r : List UInt8} (h : dig c = true) (h2 : c.toNat ≠ 48 ∨ headDig r = false) : nlz false (c :: r) = nlz true r := by
  rw [nlz_cons, h]
  rcases h2 with h2 | h2 <;> simp [h2]

/-- A numeral's digits: all digits; the first is not 0, unless it is alone. -/
theorem dec_digits : ∀ (u : Nat), (∀ c ∈ Lib.decDigits u, dig c = true) ∧ ∃ c ds, Lib.decDigits u = c :: ds ∧ (c.toNat ≠ 48 ∨ ds = []) ∧ (0 < u → c.toNat ≠ 48) := by
  intro u
  induction u using Nat.strongRecOn with
  | _ u ih =>
    by_cases h : u < 10
    · rw [Lib.decDigits_one h]
      have e : (UInt8.ofNat (48 + u)).toNat = 48 + u := by simp; omega
      refine ⟨?_, _, [], rfl, .inr rfl, ?_⟩
      · intro c hc
        simp only [List.mem_singleton] at hc
        subst hc
        unfold dig
        rw [e]
        simp; omega
      · intro h0; rw [e]; omega
    · have hb : Lib.decDigits u = Lib.decDigits (u / 10) ++ [UInt8.ofNat (48 + u % 10)] := by rw [Lib.decDigits, dif_neg h]
      obtain ⟨h1, c, ds, h2, h3, h4⟩ := ih (u / 10) (by omega)
      have e : (UInt8.ofNat (48 + u % 10)).toNat = 48 + u % 10 := by simp; omega
      rw [hb]
      refine ⟨?_, c, ds ++ [UInt8.ofNat (48 + u % 10)], by rw [h2]; rfl, .inl (h4 (by omega)), fun _ => h4 (by omega)⟩
      intro d hd
      rw [List.mem_append, List.mem_singleton] at hd
      rcases hd with hd | rfl
      · exact h1 d hd
      · unfold dig
        rw [e]
        simp; omega

theorem nlz_dec (u : Nat) (r : List UInt8) (hr : headDig r = false) : nlz false (Lib.decDigits u ++ r) = nlz true r := by
  obtain ⟨h1, c, ds, h2, h3, _⟩ := dec_digits u
  rw [h2] at h1 ⊢
  rw [List.cons_append, nlz_start (h1 c (by simp)) ?_]
  · exact nlz_digs ds r (fun d hd => h1 d (by simp [hd]))
  · rcases h3 with h3 | h3
    · exact .inl h3
    · right; rw [h3]; exact hr

theorem nlz_itoa (n : Int) (r : List UInt8) (hr : headDig r = false) : nlz false (Lib.itoa n ++ r) = nlz true r := by
  unfold Lib.itoa
  split
  · rw [List.cons_append, nlz_non (by decide)]; exact nlz_dec _ r hr
  · exact nlz_dec _ r hr

end Go.Proofs.Qxb6002344aDoor.App
