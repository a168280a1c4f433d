/- THE WALKS OF zzc4Canonical, zzc4EqualRunes, zzc4InPairs (seat b6002344a). -/
import Derived.Test.Qxb6002344aProg
import Derived.Test.Qxb6002344aRunes
import Derived.WalkKit
import Derived.Below
import Derived.LoopTactic
import Derived.Deep.QuietTactic
import Derived.BigQuiet

set_option linter.unusedVariables false
namespace Go.Proofs.Qxb6002344a.Rune
open Go.RowKit

theorem ret_bool {a b : Bool} (h : a = b) : Ending.returned (.bool a) = .returned (.bool b) := by rw [h]

/-- A row of runes in the world. -/
def RS (w : World) (a : Option Addr) (n : Nat) (l : List Int) : Prop :=
  n = l.length ∧ (n = 0 ∨ ∃ b off, a = some ⟨b, off, none⟩ ∧ ∀ j, j < n → w.cell? ⟨b, off + j, none⟩ = some (.int .i32 (l.getD j 0)))

theorem drop_two {l : List Int} {k : Nat} (h : k + 1 < l.length) : l.drop k = l.getD k 0 :: l.getD (k + 1) 0 :: l.drop (k + 2) := by
  rw [List.drop_eq_getElem_cons (by omega), List.drop_eq_getElem_cons h, List.getD_eq_getElem?_getD, List.getD_eq_getElem?_getD, List.getElem?_eq_getElem (by omega), List.getElem?_eq_getElem h]; rfl

theorem cn_no {lo a b : Int} {r : List Int} (h : ¬ (lo ≤ a ∧ a ≤ b ∧ b ≤ 1114111)) : cn lo (a :: b :: r) = false := by
  cases hx : cn lo (a :: b :: r) with
  | false => rfl
  | true => rw [cn_cons] at hx; exact absurd ⟨hx.1, hx.2.1, hx.2.2.1⟩ h
theorem cn_yes {lo a b : Int} {r : List Int} (h1 : lo ≤ a) (h2 : a ≤ b) (h3 : b ≤ 1114111) : cn lo (a :: b :: r) = cn (b + 2) r := by
  show (decide (lo ≤ a) && decide (a ≤ b) && decide (b ≤ M) && cn (b + 2) r) = _
  have h3' : b ≤ M := h3
  simp [h1, h2, h3']
theorem cn_odd : ∀ (l : List Int) (lo : Int), l.length % 2 = 1 → cn lo l = false := by
  intro l lo h
  cases hx : cn lo l with
  | false => rfl
  | true => have := cn_even l lo hx; omega

set_option maxHeartbeats 1000000 in
theorem canon_any (a : Option Addr) (n c : Nat) (l : List Int) (w : World) (hn : n ≤ 65536) (hp : RS w a n l) :
    Calls Try.prog 16 #[.slice a n c] w fun e w' => e = .returned (.bool (cn 0 l)) ∧ ∃ q, w' = w.drewN q := by
  obtain ⟨hl, h0 | ⟨b, off, rfl, hc⟩⟩ := hp
  · subst h0
    obtain rfl : l = [] := List.eq_nil_of_length_eq_zero hl.symm
    clear hn hl
    go_enter Try.func16, Try.ntmps16
    go_wp2
    go_loop [3] (fun i => i = .int .i64 0) (fun _ => 0)
    case atStart => rfl
    case round =>
      obtain rfl := hrel
      go_wp2
      go_ret
      exact ⟨rfl, 0, rfl⟩
  have HL : Hid (n = l.length) := hl
  clear hl
  by_cases hev : n % 2 = 0
  case neg =>
    have hev' : (n : Int) % 2 = 1 := by omega
    have HN : Hid (false = cn 0 l) := (cn_odd l 0 (by rw [← HL.out]; omega)).symm
    clear hc
    go_enter Try.func16, Try.ntmps16
    go_wp2
    go_ret
    exact ⟨ret_bool HN.out, 0, rfl⟩
  have hev' : (n : Int) % 2 = 0 := by omega
  have HE : Hid (n % 2 = 0) := hev
  clear hev
  go_enter Try.func16, Try.ntmps16
  go_wp2
  clear hev'
  go_loopw [3] (fun i wr => ∃ (k q : Nat) (lo : Int), k ≤ n ∧ Hid (k % 2 = 0) ∧ i = .int .i64 k ∧ Hid (cn lo (l.drop k) = cn 0 l) ∧ Hid (k = 0 ∧ lo = 0 ∨ 0 < k ∧ lo = l.getD (k - 1) 0 + 2 ∧ 0 ≤ l.getD (k - 1) 0 ∧ l.getD (k - 1) 0 ≤ 1114111) ∧ wr = w.drewN q) (fun i _ => n - (intOf i).toNat)
  case atStart => exact ⟨0, 0, 0, Nat.zero_le _, rfl, rfl, rfl, .inl ⟨rfl, rfl⟩, rfl⟩
  case round =>
    obtain ⟨k, q, lo, hk, KE, rfl, H, HLo, hwr⟩ := hrel
    have HW : Hid (wr = w.drewN q) := hwr
    clear hwr
    by_cases hlt : k + 1 < n
    · have g0 : wr.cell? ⟨b, off + k, none⟩ = some (.int .i32 (l.getD k 0)) := by rw [HW.out]; exact hc k (by omega)
      have g1 : wr.cell? ⟨b, off + (k + 1), none⟩ = some (.int .i32 (l.getD (k + 1) 0)) := by rw [HW.out]; exact hc (k + 1) (by omega)
      have HD : Hid _ := drop_two (l := l) (k := k) (by rw [← HL.out]; exact hlt)
      generalize l.getD k 0 = x at g0 HD
      generalize hy : l.getD (k + 1) 0 = y at g1 HD
      have HY : Hid (l.getD (k + 1) 0 = y) := hy
      clear hy
      have b1 : (0 : Int) ≤ (k : Int) := by omega
      have b2 : (k : Int) < (n : Int) := by omega
      have b3 : (k : Int) + 1 < (n : Int) := by omega
      by_cases h1 : x < 0
      · have HN : Hid (false = cn 0 l) := by
          show _ = _
          rw [← H.out, HD.out, cn_no]
          rcases HLo.out with h | h <;> omega
        clear hc
        go_wp2
        go_quiet (fail)
        go_wp2
        go_ret
        exact ⟨ret_bool HN.out, _, by rw [HW.out]; exact World.drewN_drewN _ _ _⟩
      have d1 : decide (x < 0) = false := decide_eq_false h1
      by_cases h2 : y < x
      · have HN : Hid (false = cn 0 l) := by
          show _ = _
          rw [← H.out, HD.out, cn_no]
          omega
        clear hc
        go_wp2
        go_quiet (fail)
        go_wp2
        go_ret
        exact ⟨ret_bool HN.out, _, by rw [HW.out]; exact World.drewN_drewN _ _ _⟩
      have d2 : decide (y < x) = false := decide_eq_false h2
      by_cases h3 : 1114111 < y
      · have HN : Hid (false = cn 0 l) := by
          show _ = _
          rw [← H.out, HD.out, cn_no]
          omega
        clear hc
        go_wp2
        go_quiet (fail)
        go_wp2
        go_ret
        exact ⟨ret_bool HN.out, _, by rw [HW.out]; exact World.drewN_drewN _ _ _⟩
      have d3 : decide (1114111 < y) = false := decide_eq_false h3
      by_cases hk0 : k = 0
      · have d4 : decide (0 < k) = false := decide_eq_false (by omega)
        have HN : Hid (cn (y + 2) (l.drop (k + 2)) = cn 0 l) := by
          show _ = _
          rw [← H.out, HD.out, cn_yes (by rcases HLo.out with h | h <;> omega) (by omega) (by omega)]
        have HN2 : Hid (k + 2 = 0 ∧ y + 2 = 0 ∨ 0 < k + 2 ∧ y + 2 = l.getD (k + 2 - 1) 0 + 2 ∧ 0 ≤ l.getD (k + 2 - 1) 0 ∧ l.getD (k + 2 - 1) 0 ≤ 1114111) := by
          right
          have e : k + 2 - 1 = k + 1 := by omega
          rw [e, HY.out]
          omega
        clear hc hk0
        go_wp2
        go_quiet (fail)
        go_wp2
        go_quiet (fail)
        go_wp2
        go_roundw
        case rel => exact ⟨k + 2, _, _, by have := HE.out; have := KE.out; omega, by have := KE.out; show _ = _; omega, by go_num, HN, HN2, by rw [HW.out]; first | exact World.drewN_drewN _ _ _ | (rw [World.drewN_drewN]; exact World.drewN_drewN _ _ _)⟩
        case measure => simp [intOf]; omega
      · have hk1 : (0 : Int) < (k : Int) := by omega
        have hk1' : 0 < k := by omega
        have gp : wr.cell? ⟨b, off + (k - 1), none⟩ = some (.int .i32 (l.getD (k - 1) 0)) := by rw [HW.out]; exact hc (k - 1) (by omega)
        generalize l.getD (k - 1) 0 = z at gp HLo
        have hz : 0 ≤ z ∧ z ≤ 1114111 := by rcases HLo.out with h | h <;> omega
        have hlo : Hid (lo = z + 2) := HLo.out.elim (fun h => absurd h.1 hk0) (fun h => h.2.1)
        have b5 : (0 : Int) ≤ (k : Int) - 1 := by omega
        have b6 : (k : Int) - 1 < (n : Int) := by omega
        clear hc hk0
        by_cases h5 : x ≤ z + 1
        · have HN : Hid (false = cn 0 l) := by
            show _ = _
            rw [← H.out, HD.out, cn_no]
            have := hlo.out
            omega
          go_wp2
          go_quiet (fail)
          go_wp2
          go_quiet (fail)
          go_wp2
          go_ret
          exact ⟨ret_bool HN.out, _, by rw [HW.out]; first | exact World.drewN_drewN _ _ _ | (rw [World.drewN_drewN]; exact World.drewN_drewN _ _ _)⟩
        · have d5 : decide (x ≤ z + 1) = false := decide_eq_false h5
          have HN : Hid (cn (y + 2) (l.drop (k + 2)) = cn 0 l) := by
            show _ = _
            rw [← H.out, HD.out, cn_yes (by have := hlo.out; omega) (by omega) (by omega)]
          have HN2 : Hid (k + 2 = 0 ∧ y + 2 = 0 ∨ 0 < k + 2 ∧ y + 2 = l.getD (k + 2 - 1) 0 + 2 ∧ 0 ≤ l.getD (k + 2 - 1) 0 ∧ l.getD (k + 2 - 1) 0 ≤ 1114111) := by
            right
            have e : k + 2 - 1 = k + 1 := by omega
            rw [e, HY.out]
            omega
          go_wp2
          go_quiet (fail)
          go_wp2
          go_quiet (fail)
          go_wp2
          go_roundw
          case rel => exact ⟨k + 2, _, _, by have := HE.out; have := KE.out; omega, by have := KE.out; show _ = _; omega, by go_num, HN, HN2, by rw [HW.out]; first | exact World.drewN_drewN _ _ _ | (rw [World.drewN_drewN]; exact World.drewN_drewN _ _ _)⟩
          case measure => simp [intOf]; omega
    · have HN : Hid (true = cn 0 l) := by
        show _ = _
        rw [← H.out, List.drop_eq_nil_of_le (by rw [← HL.out]; have := HE.out; have := KE.out; omega)]
        rfl
      clear hc
      go_wp2
      go_ret
      exact ⟨ret_bool HN.out, _, HW.out⟩
end Go.Proofs.Qxb6002344a.Rune
