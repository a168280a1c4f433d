/- THE LAW PropClassOfMembership (seat b6002344a). -/
import Derived.Test.Qxb6002344aClassOf
set_option linter.unusedVariables false
namespace Go.Proofs.Qxb6002344a.Rune
open Go.RowKit

theorem same_bool (a b : Bool) (h : a = b) : (a == b) = true := by rw [h]; simp

set_option maxHeartbeats 2000000 in
theorem law10_yes (a1 a2 : Option Addr) (n1 c1 n2 c2 : Nat) (neg : Bool) (x : Int) (l1 l2 : List Int) (w : World) (h1 : n1 ≤ 65536) (h2 : n2 ≤ 65536) (hx0 : 0 ≤ x) (hx1 : x ≤ 1114111) (k1 : cn 0 l1 = true) (k2 : cn 0 l2 = true)
    (hp1 : RS w a1 n1 l1) (hp2 : RS w a2 n2 l2) (hn1 : a1 = none → n1 = 0 ∧ c1 = 0) (hn2 : a2 = none → n2 = 0 ∧ c2 = 0) :
    Calls Try.prog 10 #[.slice a1 n1 c1, .bool neg, .slice a2 n2 c2, .int .i32 x] w fun e w' => e = .returned (.bool true) ∧ Below w.heap.size w w' := by
  have HP1 : Hid (RS w a1 n1 l1) := hp1
  have HP2 : Hid (RS w a2 n2 l2) := hp2
  have HN1 : Hid (a1 = none → n1 = 0 ∧ c1 = 0) := hn1
  have HN2 : Hid (a2 = none → n2 = 0 ∧ c2 = 0) := hn2
  have K1 : Hid (cn 0 l1 = true) := k1
  have K2 : Hid (cn 0 l2 = true) := k2
  have HE : Hid (n1 % 2 = 0 ∧ n2 % 2 = 0) := ⟨by rw [hp1.1]; exact cn_even _ _ k1, by rw [hp2.1]; exact cn_even _ _ k2⟩
  have C16 : Hid (∀ w1, Below w.heap.size w w1 → Calls Try.prog 16 #[.slice a1 n1 c1] w1 fun e w' => e = .returned (.bool true) ∧ ∃ q, w' = w1.drewN q) := fun w1 hb => by
    have h := canon_any a1 n1 c1 l1 w1 h1 (HP1.out.later hb)
    rw [K1.out] at h; exact h
  have C16' : Hid (∀ w1, Below w.heap.size w w1 → Calls Try.prog 16 #[.slice a2 n2 c2] w1 fun e w' => e = .returned (.bool true) ∧ ∃ q, w' = w1.drewN q) := fun w1 hb => by
    have h := canon_any a2 n2 c2 l2 w1 h2 (HP2.out.later hb)
    rw [K2.out] at h; exact h
  clear hp1 hp2 hn1 hn2 k1 k2
  go_enter Try.func10, Try.ntmps10
  go_wp2_with (go_at_call 38; go_in)
  refine (C16.out w (Below.refl _ _)).mono ?_
  rintro e w1 ⟨rfl, q, hw1⟩
  have B1 : Hid (Below w.heap.size w w1) := by rw [hw1]; exact later_drewN (Below.refl _ _) q
  clear hw1 C16
  go_wp2_with fail
  refine (C16'.out w1 B1.out).mono ?_
  rintro e w2 ⟨rfl, q2, hw2⟩
  have B2 : Hid (Below w.heap.size w w2) := by rw [hw2]; exact later_drewN B1.out q2
  clear hw2 C16' B1
  go_wp2_with fail
  refine (copy_any a1 n1 c1 l1 w2 (by omega) (HP1.out.later B2.out) HN1.out).mono ?_
  rintro e w3 ⟨a3, rfl, hr3, hb3, hn3⟩
  have R3 : Hid (RS w3 a3 n1 l1) := hr3
  have B3 : Hid (Below w.heap.size w w3) := B2.out.trans (hb3.mono B2.out.size)
  clear hr3 hb3 hn3 B2
  go_wp2_with fail
  refine (copy_any a2 n2 c2 l2 w3 (by omega) (HP2.out.later B3.out) HN2.out).mono ?_
  rintro e w4 ⟨a4, rfl, hr4, hb4, hn4⟩
  have R4 : Hid (RS w4 a4 n2 l2 ∧ RS w4 a3 n1 l1) := ⟨hr4, R3.out.later hb4⟩
  have B4 : Hid (Below w.heap.size w w4) := B3.out.trans (hb4.mono B3.out.size)
  have HN4 : Hid (a4 = none → n2 = 0) := fun h => (HN2.out (hn4.1 h)).1
  clear hr4 hb4 hn4 B3 R3
  go_wp2_with fail
  refine (zzclassOf_any neg a3 a4 n1 n1 n2 n2 l1 l2 w4 h1 h2 K1.out K2.out R4.out.2 R4.out.1 HN4.out).mono ?_
  rintro e w5 ⟨a5, c5, u, rfl, hr5, hb5, hc5⟩
  have R5 : Hid (RS w5 a5 u.length u ∧ Cls l1 l2 neg u) := ⟨hr5, hc5⟩
  have B5 : Hid (Below w.heap.size w w5) := B4.out.trans (hb5.mono B4.out.size)
  have hu : u.length ≤ 262144 := hc5.2.1
  clear hr5 hb5 hc5 B4 R4 HN4
  go_wp2_with fail
  refine (inP_any a1 n1 c1 x l1 w5 (by omega) HE.out.1 (HP1.out.later B5.out)).mono ?_
  rintro e w6 ⟨rfl, rfl⟩
  have HX : Hid (inP u x = ((inP l1 x != neg) && !inP l2 x)) := R5.out.2.2.2 x hx0 hx1
  have C37 : Hid (Calls Try.prog 37 #[.slice a2 n2 c2, .int .i32 x] w6 fun e w' => e = .returned (.bool (inP l2 x)) ∧ w' = w6) := inP_any a2 n2 c2 x l2 w6 (by omega) HE.out.2 (HP2.out.later B5.out)
  have C20 : Hid (Calls Try.prog 20 #[.slice a5 u.length c5, .int .i32 x] w6 fun e w' => e = .returned (.bool (inP u x)) ∧ Below w6.heap.size w6 w') := zzholds_any a5 u.length c5 x u w6 (by omega) R5.out.2.1 R5.out.1
  clear R5 HP1 HP2 HN1 HN2 K1 K2
  generalize inP u x = pu at *
  generalize inP l1 x = p1 at *
  generalize inP l2 x = p2 at *
  by_cases hb : p1 = neg
  · have hb1 : (p1 != neg) = false := by simp [hb]
    go_wp2_with fail
    refine C20.out.mono ?_
    rintro e w7 ⟨rfl, hb7⟩
    have B7 : Hid (Below w.heap.size w w7) := B5.out.trans (hb7.mono B5.out.size)
    clear hb7 C20 C37
    go_wp2
    go_ret
    exact ⟨ret_bool (by have h := HX.out; rw [hb1] at h; rw [h]; rfl), B7.out⟩
  · have hb1 : (p1 != neg) = true := by simp [hb]
    go_wp2_with fail
    refine C37.out.mono ?_
    rintro e w7 ⟨rfl, rfl⟩
    go_wp2_with fail
    refine C20.out.mono ?_
    rintro e w8 ⟨rfl, hb8⟩
    have B8 : Hid (Below w.heap.size w w8) := B5.out.trans (hb8.mono B5.out.size)
    clear hb8 C20 C37
    go_wp2
    go_ret
    exact ⟨ret_bool (by have h := HX.out; rw [h]; cases p1 <;> cases neg <;> cases p2 <;> rfl), B8.out⟩

set_option maxHeartbeats 2000000 in
theorem law10 (a1 a2 : Option Addr) (n1 c1 n2 c2 : Nat) (neg : Bool) (x : Int) (l1 l2 : List Int) (w : World) (m1 : n1 ≤ maxLen) (m2 : n2 ≤ maxLen)
    (hp1 : RS w a1 n1 l1) (hp2 : RS w a2 n2 l2) (hn1 : a1 = none → n1 = 0 ∧ c1 = 0) (hn2 : a2 = none → n2 = 0 ∧ c2 = 0) :
    Calls Try.prog 10 #[.slice a1 n1 c1, .bool neg, .slice a2 n2 c2, .int .i32 x] w fun e w' => e = .returned (.bool true) ∧ Below w.heap.size w w' := by
  unfold maxLen at m1 m2
  by_cases g1 : n1 ≤ 1048576
  case neg =>
    clear hp1 hp2 hn1 hn2
    go_enter Try.func10, Try.ntmps10
    go_wp2_with (go_at_call 38; go_in)
    go_ret
    exact ⟨rfl, Below.refl _ _⟩
  by_cases g2 : n2 ≤ 1048576
  case neg =>
    clear hp1 hp2 hn1 hn2
    go_enter Try.func10, Try.ntmps10
    go_wp2_with (go_at_call 38; go_in)
    go_ret
    exact ⟨rfl, Below.refl _ _⟩
  by_cases g3 : n1 + n2 ≤ 1048576
  case neg =>
    clear hp1 hp2 hn1 hn2
    go_enter Try.func10, Try.ntmps10
    go_wp2_with (go_at_call 38; go_in)
    go_ret
    exact ⟨rfl, Below.refl _ _⟩
  by_cases g4 : n1 ≤ 65536
  case neg =>
    clear hp1 hp2 hn1 hn2
    go_enter Try.func10, Try.ntmps10
    go_wp2_with (go_at_call 38; go_in)
    go_ret
    exact ⟨rfl, Below.refl _ _⟩
  by_cases g5 : n2 ≤ 65536
  case neg =>
    clear hp1 hp2 hn1 hn2
    go_enter Try.func10, Try.ntmps10
    go_wp2_with (go_at_call 38; go_in)
    go_ret
    exact ⟨rfl, Below.refl _ _⟩
  by_cases g6 : x < 0
  case pos =>
    clear hp1 hp2 hn1 hn2
    go_enter Try.func10, Try.ntmps10
    go_wp2_with (go_at_call 38; go_in)
    go_ret
    exact ⟨rfl, Below.refl _ _⟩
  by_cases g7 : 1114111 < x
  case pos =>
    clear hp1 hp2 hn1 hn2
    go_enter Try.func10, Try.ntmps10
    go_wp2_with (go_at_call 38; go_in)
    go_ret
    exact ⟨rfl, Below.refl _ _⟩
  cases e1 : cn 0 l1 with
  | false =>
    have C16 : Hid (Calls Try.prog 16 #[.slice a1 n1 c1] w fun e w' => e = .returned (.bool false) ∧ ∃ q, w' = w.drewN q) := by
      have h := canon_any a1 n1 c1 l1 w g4 hp1
      rw [e1] at h; exact h
    clear hp1 hp2 hn1 hn2 e1
    go_enter Try.func10, Try.ntmps10
    go_wp2_with (go_at_call 38; go_in)
    refine C16.out.mono ?_
    rintro e w1 ⟨rfl, q, rfl⟩
    go_wp2
    go_ret
    exact ⟨rfl, later_drewN (Below.refl _ _) q⟩
  | true =>
    cases e2 : cn 0 l2 with
    | true => exact law10_yes a1 a2 n1 c1 n2 c2 neg x l1 l2 w g4 g5 (by omega) (by omega) e1 e2 hp1 hp2 hn1 hn2
    | false =>
      have C16 : Hid (Calls Try.prog 16 #[.slice a1 n1 c1] w fun e w' => e = .returned (.bool true) ∧ ∃ q, w' = w.drewN q) := by
        have h := canon_any a1 n1 c1 l1 w g4 hp1
        rw [e1] at h; exact h
      have C16' : Hid (∀ w1, Below w.heap.size w w1 → Calls Try.prog 16 #[.slice a2 n2 c2] w1 fun e w' => e = .returned (.bool false) ∧ ∃ q, w' = w1.drewN q) := fun w1 hb => by
        have h := canon_any a2 n2 c2 l2 w1 g5 (hp2.later hb)
        rw [e2] at h; exact h
      clear hp1 hp2 hn1 hn2 e1 e2
      go_enter Try.func10, Try.ntmps10
      go_wp2_with (go_at_call 38; go_in)
      refine C16.out.mono ?_
      rintro e w1 ⟨rfl, q, hw1⟩
      have B1 : Hid (Below w.heap.size w w1) := by rw [hw1]; exact later_drewN (Below.refl _ _) q
      clear hw1 C16
      go_wp2_with fail
      refine (C16'.out w1 B1.out).mono ?_
      rintro e w2 ⟨rfl, q2, hw2⟩
      have B2 : Hid (Below w.heap.size w w2) := by rw [hw2]; exact later_drewN B1.out q2
      clear hw2 C16' B1
      go_wp2
      go_ret
      exact ⟨rfl, B2.out⟩
end Go.Proofs.Qxb6002344a.Rune
