/- THE LAW PropRuneSetOfCanonicalUnion (seat b6002344a). -/
import Derived.Test.Qxb6002344aSetOf
import Derived.Test.Qxb6002344aComplLaw
set_option linter.unusedVariables false
namespace Go.Proofs.Qxb6002344a.Rune
open Go.RowKit

/-- ZZruneSetOf. -/
theorem zzrso_any (a : Option Addr) (n c : Nat) (l : List Int) (w : World) (hn : n ≤ 1048576) (hev : n % 2 = 0) (hok : ∀ p ∈ prs l, okP p) (hp : RS w a n l) :
    Calls Try.prog 36 #[.slice a n c] w fun e w' => ∃ a' c' u, e = .returned (.slice a' u.length c') ∧ RS w' a' u.length u ∧ Below w.heap.size w w' ∧ cn 0 u = true ∧ (∀ x, inP u x = inP l x) ∧ u.length ≤ l.length := by
  have C : Hid (Calls Try.prog 47 #[.slice a n c] w fun e w' => ∃ v u, e = .returned v ∧ w'.ownsRow w.heap.size 21 1 v u.length (ri u) ∧ Below w.heap.size w w' ∧ cn 0 u = true ∧ (∀ x, inP u x = inP l x) ∧ u.length ≤ l.length) := rso_any a n c l w hn hev hok hp
  clear hp hn hok hev
  go_enter Try.func36, Try.ntmps36
  go_wp2_with fail
  refine C.out.mono ?_
  rintro e w' ⟨v, u, rfl, hown, hbel, h1, h2, h3⟩
  obtain ⟨a', c', rfl, hrs, _⟩ := rs_of_owns hown
  have H : Hid (RS w' a' u.length u ∧ Below w.heap.size w w' ∧ cn 0 u = true ∧ (∀ x, inP u x = inP l x) ∧ u.length ≤ l.length) := ⟨hrs, hbel, h1, h2, h3⟩
  clear hown hbel hrs h1 h2 h3
  go_wp2
  go_ret
  exact ⟨a', c', u, rfl, H.out⟩

/-- Behind the loop: every pair is in order. -/
theorem prs_nil_drop {l : List Int} {k : Nat} (h : l.length ≤ k + 1) (hk : l.length % 2 = 0) (h2 : k % 2 = 0) : prs (l.drop k) = [] := by
  rw [List.drop_eq_nil_of_le (by omega)]; rfl

set_option maxHeartbeats 2000000 in
theorem law9 (a : Option Addr) (n c : Nat) (x : Int) (l : List Int) (w : World) (hm : n ≤ maxLen) (hp : RS w a n l) (hnil : a = none → n = 0 ∧ c = 0) :
    Calls Try.prog 9 #[.slice a n c, .int .i32 x] w fun e w' => e = .returned (.bool true) ∧ Below w.heap.size w w' := by
  unfold maxLen at hm
  by_cases h1 : n ≤ 1048576
  case neg =>
    clear hp hnil
    go_enter Try.func9, Try.ntmps9
    go_wp2_with (go_at_call 35; go_in)
    go_ret
    exact ⟨rfl, Below.refl _ _⟩
  by_cases h2 : n ≤ 65536
  case neg =>
    clear hp hnil
    go_enter Try.func9, Try.ntmps9
    go_wp2_with (go_at_call 35; go_in)
    go_ret
    exact ⟨rfl, Below.refl _ _⟩
  by_cases hev : n % 2 = 0
  case neg =>
    have hev' : (n : Int) % 2 = 1 := by omega
    clear hp hnil
    go_enter Try.func9, Try.ntmps9
    go_wp2_with (go_at_call 35; go_in)
    go_ret
    exact ⟨rfl, Below.refl _ _⟩
  have hev' : (n : Int) % 2 = 0 := by omega
  by_cases h3 : x < 0
  case pos =>
    clear hp hnil
    go_enter Try.func9, Try.ntmps9
    go_wp2_with (go_at_call 35; go_in)
    go_ret
    exact ⟨rfl, Below.refl _ _⟩
  by_cases h4 : 1114111 < x
  case pos =>
    clear hp hnil
    go_enter Try.func9, Try.ntmps9
    go_wp2_with (go_at_call 35; go_in)
    go_ret
    exact ⟨rfl, Below.refl _ _⟩
  have HP : Hid (RS w a n l) := hp
  have HNil : Hid (a = none → n = 0 ∧ c = 0) := hnil
  have HL : Hid (n = l.length) := hp.1
  have HE : Hid (n % 2 = 0) := hev
  clear hp hnil hev
  go_enter Try.func9, Try.ntmps9
  go_wp2_with (go_at_call 35; go_in)
  go_loopw [5] (fun i wr => ∃ (k q : Nat), k ≤ n ∧ Hid (k % 2 = 0) ∧ i = .int .i64 k ∧ wr = w.drewN q ∧ Hid ((∀ p ∈ prs (l.drop k), okP p) → ∀ p ∈ prs l, okP p)) (fun i _ => n - (intOf i).toNat)
  case atStart => exact ⟨0, 0, Nat.zero_le _, rfl, rfl, rfl, fun h => h⟩
  case round =>
    obtain ⟨k, q, hk, KE, rfl, hwr, H⟩ := hrel
    have HW : Hid (wr = w.drewN q) := hwr
    clear hwr hev'
    by_cases hlt : k + 1 < n
    · obtain ⟨b, off, rfl, hc⟩ := HP.out.2.resolve_left (by omega)
      have g0 : wr.cell? ⟨b, off + k, none⟩ = some (.int .i32 (l.getD k 0)) := by rw [HW.out]; exact hc k (by omega)
      have g1 : wr.cell? ⟨b, off + (k + 1), none⟩ = some (.int .i32 (l.getD (k + 1) 0)) := by rw [HW.out]; exact hc (k + 1) (by omega)
      have HD : Hid _ := drop_prs (l := l) (k := k) (by rw [← HL.out]; exact hlt)
      generalize l.getD k 0 = y at g0 HD
      generalize l.getD (k + 1) 0 = z at g1 HD
      have b1 : (0 : Int) ≤ (k : Int) := by omega
      have b2 : (k : Int) < (n : Int) := by omega
      have b3 : (k : Int) + 1 < (n : Int) := by omega
      clear hc
      by_cases t1 : y < 0
      · go_wp2
        go_quiet (fail)
        go_wp2
        go_ret
        exact ⟨rfl, by rw [HW.out]; exact later_drewN (later_drewN (Below.refl _ _) _) _⟩
      have d1 : decide (y < 0) = false := decide_eq_false t1
      by_cases t2 : z < y
      · go_wp2
        go_quiet (fail)
        go_wp2
        go_ret
        exact ⟨rfl, by rw [HW.out]; exact later_drewN (later_drewN (Below.refl _ _) _) _⟩
      have d2 : decide (z < y) = false := decide_eq_false t2
      by_cases t3 : 1114111 < z
      · go_wp2
        go_quiet (fail)
        go_wp2
        go_ret
        exact ⟨rfl, by rw [HW.out]; exact later_drewN (later_drewN (Below.refl _ _) _) _⟩
      have d3 : decide (1114111 < z) = false := decide_eq_false t3
      have HN : Hid ((∀ p ∈ prs (l.drop (k + 2)), okP p) → ∀ p ∈ prs l, okP p) := by
        intro h
        refine H.out ?_
        rw [HD.out]
        intro p hp
        rcases List.mem_cons.1 hp with rfl | hp
        · exact ⟨by omega, by omega, by omega⟩
        · exact h p hp
      clear H HD
      go_wp2
      go_quiet (fail)
      go_wp2
      go_roundw
      case rel => exact ⟨k + 2, _, by have := HE.out; have := KE.out; omega, by have := KE.out; show _ = _; omega, by go_num, by rw [HW.out]; exact World.drewN_drewN _ _ _, HN⟩
      case measure => simp [intOf]; omega
    · have hok : Hid (∀ p ∈ prs l, okP p) := by
        refine H.out ?_
        rw [prs_nil_drop (by rw [← HL.out]; omega) (by rw [← HL.out]; exact HE.out) KE.out]
        intro p hp; cases hp
      have B1 : Hid (Below w.heap.size w wr) := by rw [HW.out]; exact later_drewN (Below.refl _ _) q
      clear H HW
      go_wp2_with fail
      refine (copy_any a n c l wr (by omega) (HP.out.later B1.out) HNil.out).mono ?_
      rintro e w2 ⟨a2, rfl, hr2, hb2, hn2⟩
      have R2 : Hid (RS w2 a2 n l) := hr2
      have B2 : Hid (Below w.heap.size w w2) := B1.out.trans (hb2.mono B1.out.size)
      clear hr2 hb2 hn2
      go_wp2_with fail
      refine (zzrso_any a2 n n l w2 (by omega) HE.out hok.out R2.out).mono ?_
      rintro e w3 ⟨a3, c3, u, rfl, hr3, hb3, hcn, hin, hul⟩
      have R3 : Hid (RS w3 a3 u.length u ∧ cn 0 u = true ∧ (∀ x, inP u x = inP l x)) := ⟨hr3, hcn, hin⟩
      have B3 : Hid (Below w.heap.size w w3) := B2.out.trans (hb3.mono B2.out.size)
      have hu : u.length ≤ 65536 := by rw [← HL.out] at hul; omega
      clear hr3 hb3 hcn hin hul
      have C16 : Hid (Calls Try.prog 16 #[.slice a3 u.length c3] w3 fun e w' => e = .returned (.bool true) ∧ ∃ q, w' = w3.drewN q) := by
        have h := canon_any a3 u.length c3 u w3 hu R3.out.1
        rw [R3.out.2.1] at h; exact h
      go_wp2_with fail
      refine C16.out.mono ?_
      rintro e w4 ⟨rfl, q4, hw4⟩
      have B34 : Hid (Below w3.heap.size w3 w4) := by rw [hw4]; exact later_drewN (Below.refl _ _) q4
      have B4 : Hid (Below w.heap.size w w4) := B3.out.trans (B34.out.mono B3.out.size)
      clear hw4 C16
      go_wp2_with fail
      refine (inP_any a n c x l w4 (by omega) HE.out (HP.out.later B4.out)).mono ?_
      rintro e w5 ⟨rfl, rfl⟩
      go_wp2_with fail
      refine (inP_any a3 u.length c3 x u w5 (by omega) (cn_even u 0 R3.out.2.1) (R3.out.1.later B34.out)).mono ?_
      rintro e w6 ⟨rfl, rfl⟩
      go_wp2
      go_ret
      exact ⟨ret_bool (by rw [R3.out.2.2]; simp), B4.out⟩

end Go.Proofs.Qxb6002344a.Rune
