/- THE WALKS OF zzc4EqualBytes, zzc4NoLeadingZeros (seat b6002344aD). -/
import Derived.Test.Qxb6002344aDoorNlz
import Derived.Test.Qxb6002344aDoorProg
import Derived.WalkKit
import Derived.Below
import Derived.LoopTactic
import Derived.Deep.QuietTactic
import Derived.BigQuiet
set_option linter.unusedVariables false
namespace Go.Proofs.Qxb6002344aDoor.App
open Go.RowKit

theorem ret_bool {a b : Bool} (h : a = b) : Ending.returned (.bool a) = .returned (.bool b) := by rw [h]
theorem byte_lt (c : UInt8) : 0 ≤ (c.toNat : Int) ∧ (c.toNat : Int) ≤ 255 := by have := c.toNat_lt; omega

/-- The answer: some bool, true where the two are one. -/
def EqAns (l1 l2 : List UInt8) (e : Ending) : Prop := ∃ r, e = .returned (.bool r) ∧ (l1 = l2 → r = true)
theorem eq_no {l1 l2 : List UInt8} (h : l1 ≠ l2) : EqAns l1 l2 (.returned (.bool false)) := ⟨false, rfl, fun e => absurd e h⟩
theorem eq_yes {l1 l2 : List UInt8} : EqAns l1 l2 (.returned (.bool true)) := ⟨true, rfl, fun _ => rfl⟩

set_option maxHeartbeats 1000000 in
theorem eqB_any (b off c b2 off2 c2 n m : Nat) (l1 l2 : List UInt8) (w : World) (hn : n ≤ 1000) (hm : m ≤ 1000) (hl1 : n = l1.length) (hl2 : m = l2.length)
    (hc : ∀ j, j < n → w.cell? ⟨b, off + j, none⟩ = some (.int .u8 ((l1.getD j 0).toNat : Int))) (hc2 : ∀ j, j < m → w.cell? ⟨b2, off2 + j, none⟩ = some (.int .u8 ((l2.getD j 0).toNat : Int))) :
    Calls Tryd.prog 7 #[.slice (some ⟨b, off, none⟩) n c, .slice (some ⟨b2, off2, none⟩) m c2] w fun e w' => EqAns l1 l2 e ∧ ∃ q, w' = w.drewN q := by
  have HL : Hid (n = l1.length ∧ m = l2.length) := ⟨hl1, hl2⟩
  clear hl1 hl2
  by_cases hnm : n = m
  case neg =>
    have t : ((n : Int) != (m : Int)) = true := by rw [bne_iff_ne]; omega
    have HN : Hid (l1 ≠ l2) := by intro e; apply hnm; rw [HL.out.1, HL.out.2, e]
    clear hnm hc hc2
    go_enter Tryd.func7, Tryd.ntmps7
    go_wp2
    go_ret
    exact ⟨eq_no HN.out, 0, rfl⟩
  subst hnm
  have t : ((n : Int) != (n : Int)) = false := by simp
  go_enter Tryd.func7, Tryd.ntmps7
  go_wp2
  go_loopw [5] (fun i wr => ∃ (k q : Nat), k ≤ n ∧ i = .int .i64 k ∧ wr = w.drewN q) (fun i _ => n - (intOf i).toNat)
  case atStart => exact ⟨0, 0, Nat.zero_le _, rfl, rfl⟩
  case round =>
    obtain ⟨k, q, hk, rfl, hwr⟩ := hrel
    have HW : Hid (wr = w.drewN q) := hwr
    clear hwr
    by_cases hlt : k < n
    · have g0 : wr.cell? ⟨b, off + k, none⟩ = some (.int .u8 ((l1.getD k 0).toNat : Int)) := by rw [HW.out]; exact hc k hlt
      have g1 : wr.cell? ⟨b2, off2 + k, none⟩ = some (.int .u8 ((l2.getD k 0).toNat : Int)) := by rw [HW.out]; exact hc2 k hlt
      have HK : Hid (l1 = l2 → (l1.getD k 0).toNat = (l2.getD k 0).toNat) := fun e => by rw [e]
      generalize (l1.getD k 0).toNat = x at g0 HK
      generalize (l2.getD k 0).toNat = y at g1 HK
      have b1 : (0 : Int) ≤ (k : Int) := by omega
      have b2' : (k : Int) < (n : Int) := by omega
      clear hc hc2
      by_cases hxy : x = y
      · have h4 : ((x : Int) != (y : Int)) = false := by rw [hxy]; simp
        clear hxy
        go_wp2
        go_quiet (fail)
        go_wp2
        go_roundw
        case rel => exact ⟨k + 1, _, by omega, by go_num, by rw [HW.out]; exact World.drewN_drewN _ _ _⟩
        case measure => simp [intOf]; omega
      · have h4 : ((x : Int) != (y : Int)) = true := by rw [bne_iff_ne]; omega
        have HN : Hid (l1 ≠ l2) := fun e => hxy (HK.out e)
        clear hxy
        go_wp2
        go_quiet (fail)
        go_wp2
        go_ret
        exact ⟨eq_no HN.out, _, by rw [HW.out]; exact World.drewN_drewN _ _ _⟩
    · clear hc hc2
      go_wp2
      go_ret
      exact ⟨eq_yes, _, HW.out⟩

theorem drop_one {l : List UInt8} {k : Nat} (h : k < l.length) : l.drop k = l.getD k 0 :: l.drop (k + 1) := by
  rw [List.drop_eq_getElem_cons h, List.getD_eq_getElem?_getD, List.getElem?_eq_getElem h]; rfl
theorem head_next {l : List UInt8} {k : Nat} (h : k + 1 < l.length) : headDig (l.drop (k + 1)) = dig (l.getD (k + 1) 0) := by rw [drop_one h]; rfl

theorem hy_of {x y z k n : Nat} (HX : (decide (48 ≤ x) && decide (x ≤ 57)) = true → (k = 0 ∨ (decide (48 ≤ y) && decide (y ≤ 57)) = false) → x = 48 → k + 1 < n → (decide (48 ≤ z) && decide (z ≤ 57)) = false) :
    48 ≤ x → x ≤ 57 → (k = 0 ∨ y < 48 ∨ 57 < y) → x = 48 → k + 1 < n → z < 48 ∨ 57 < z := by
  intro h1 h2 h3 h4 h5
  have h6 : k = 0 ∨ (decide (48 ≤ y) && decide (y ≤ 57)) = false := by
    rcases h3 with h | h
    · exact .inl h
    · right
      rw [Bool.and_eq_false_iff]
      rcases h with h | h
      · exact .inl (decide_eq_false (by omega))
      · exact .inr (decide_eq_false (by omega))
  have h7 := HX (by simp [h1, h2]) h6 h4 h5
  rw [Bool.and_eq_false_iff] at h7
  rcases h7 with h | h
  · have := of_decide_eq_false h; omega
  · have := of_decide_eq_false h; omega

set_option maxHeartbeats 2000000 in
theorem nlz_any (b off c n : Nat) (l : List UInt8) (w : World) (hn : n ≤ 1000) (hl : n = l.length) (hz : nlz false l = true)
    (hc : ∀ j, j < n → w.cell? ⟨b, off + j, none⟩ = some (.int .u8 ((l.getD j 0).toNat : Int))) :
    Calls Tryd.prog 8 #[.slice (some ⟨b, off, none⟩) n c] w fun e w' => e = .returned (.bool true) ∧ w' = w := by
  have HL : Hid (n = l.length) := hl
  have HZ : Hid (nlz false l = true) := hz
  clear hl hz
  go_enter Tryd.func8, Tryd.ntmps8
  go_wp2
  go_loop [3] (fun i => ∃ (k : Nat), k ≤ n ∧ i = .int .i64 k ∧ Hid (nlz (decide (0 < k) && dig (l.getD (k - 1) 0)) (l.drop k) = true)) (fun i => n - (intOf i).toNat)
  case atStart => exact ⟨0, Nat.zero_le _, rfl, HZ⟩
  case round =>
    obtain ⟨k, hk, rfl, H⟩ := hrel
    by_cases hlt : k < n
    · have g0 := hc k hlt
      have HD : Hid _ := drop_one (l := l) (k := k) (by rw [← HL.out]; exact hlt)
      have HC := H.out
      rw [HD.out, nlz_cons, Bool.and_eq_true] at HC
      have HN : Hid (nlz (decide (0 < k + 1) && dig (l.getD (k + 1 - 1) 0)) (l.drop (k + 1)) = true) := by
        show _ = _
        have : k + 1 - 1 = k := by omega
        rw [this]
        simpa using HC.2
      have HX : Hid (dig (l.getD k 0) = true → (k = 0 ∨ dig (l.getD (k - 1) 0) = false) → (l.getD k 0).toNat = 48 → k + 1 < n → dig (l.getD (k + 1) 0) = false) := by
        intro h1 h2 h3 h4
        have h5 := HC.1
        rw [head_next (by rw [← HL.out]; exact h4), h1] at h5
        have h6 : (decide (0 < k) && dig (l.getD (k - 1) 0)) = false := by
          rcases h2 with h2 | h2
          · simp [h2]
          · rw [h2]; simp
        rw [h6] at h5
        have h7 : decide ((l.getD k 0).toNat = 48) = true := decide_eq_true h3
        rw [h7] at h5
        simpa using h5
      clear HC H
      have HP : Hid (0 < k → w.cell? ⟨b, off + (k - 1), none⟩ = some (.int .u8 ((l.getD (k - 1) 0).toNat : Int))) := fun h => hc (k - 1) (by omega)
      have HNx : Hid (k + 1 < n → w.cell? ⟨b, off + (k + 1), none⟩ = some (.int .u8 ((l.getD (k + 1) 0).toNat : Int))) := fun h => hc (k + 1) h
      have HDg : Hid (∀ d : UInt8, dig d = (decide (48 ≤ d.toNat) && decide (d.toNat ≤ 57))) := fun _ => rfl
      rw [HDg.out, HDg.out, HDg.out] at HX
      clear hc HDg HD
      generalize (l.getD k 0).toNat = x at g0 HX
      generalize (l.getD (k - 1) 0).toNat = y at HP HX
      generalize (l.getD (k + 1) 0).toNat = z at HNx HX
      have HY : Hid (48 ≤ x → x ≤ 57 → (k = 0 ∨ y < 48 ∨ 57 < y) → x = 48 → k + 1 < n → z < 48 ∨ 57 < z) := hy_of HX.out
      clear HX
      by_cases h1 : x < 48
      · go_wp2
        go_round
        case rel => exact ⟨k + 1, by omega, by go_num, HN⟩
        case measure => simp [intOf]; omega
      by_cases h2 : 57 < x
      · go_wp2
        go_round
        case rel => exact ⟨k + 1, by omega, by go_num, HN⟩
        case measure => simp [intOf]; omega
      by_cases hpd : 0 < k ∧ 48 ≤ y ∧ y ≤ 57
      · obtain ⟨p1, p2, p3⟩ := hpd
        have gp := HP.out p1
        have b1 : (0 : Int) ≤ (k : Int) - 1 := by omega
        have b2 : (k : Int) - 1 < (n : Int) := by omega
        go_wp2
        go_round
        case rel => exact ⟨k + 1, by omega, by go_num, HN⟩
        case measure => simp [intOf]; omega
      · by_cases hk0 : k = 0
        · have HQ : Hid (k = 0 ∨ y < 48 ∨ 57 < y) := .inl hk0
          have HQ2 : Hid (48 ≤ x → x ≤ 57 → x = 48 → 1 < n → z < 48 ∨ 57 < z) := fun h1 h2 h3 h4 => HY.out h1 h2 HQ.out h3 (by omega)
          have HG : Hid (1 < n → w.cell? ⟨b, off + 1, none⟩ = some (.int .u8 (z : Int))) := fun h => by have := HNx.out (by omega); rw [hk0] at this; exact this
          have g0' : w.cell? ⟨b, off, none⟩ = some (.int .u8 (x : Int)) := by rw [hk0] at g0; exact g0
          clear hpd g0 HQ HY HNx HP
          subst hk0
          by_cases hx : x = 48
          · have tx : ((x : Int) == 48) = true := by rw [beq_iff_eq]; omega
            by_cases hkn : 1 < n
            · have hz := HQ2.out (by omega) (by omega) hx hkn
              have gn := HG.out hkn
              have b5 : (1 : Int) < (n : Int) := by omega
              clear hx
              by_cases hz1 : z < 48
              · clear hz
                go_wp2
                go_round
                case rel => exact ⟨1, by omega, by go_num, HN⟩
                case measure => simp [intOf]; omega
              · have hz2 : 57 < z := by omega
                clear hz
                go_wp2
                go_round
                case rel => exact ⟨1, by omega, by go_num, HN⟩
                case measure => simp [intOf]; omega
            · have b5 : ¬ (1 : Int) < (n : Int) := by omega
              clear hx
              go_wp2
              go_round
              case rel => exact ⟨1, by omega, by go_num, HN⟩
              case measure => simp [intOf]; omega
          · have tx : ((x : Int) == 48) = false := by rw [beq_eq_false_iff_ne]; omega
            clear hx
            go_wp2
            go_round
            case rel => exact ⟨1, by omega, by go_num, HN⟩
            case measure => simp [intOf]; omega
        · have p1 : 0 < k := by omega
          have gp := HP.out p1
          have b1 : (0 : Int) ≤ (k : Int) - 1 := by omega
          have b2 : (k : Int) - 1 < (n : Int) := by omega
          have b3 : (0 : Int) < (k : Int) := by omega
          by_cases hy1 : y < 48
          · have HQ : Hid (k = 0 ∨ y < 48 ∨ 57 < y) := .inr (.inl hy1)
            clear hpd hk0
            by_cases hx : x = 48
            · have tx : ((x : Int) == 48) = true := by rw [beq_iff_eq]; omega
              by_cases hkn : k + 1 < n
              · have hz := HY.out (by omega) (by omega) HQ.out hx hkn
                have gn := HNx.out hkn
                have b5 : (k : Int) + 1 < (n : Int) := by omega
                clear hx
                by_cases hz1 : z < 48
                · clear hz
                  go_wp2
                  go_round
                  case rel => exact ⟨k + 1, by omega, by go_num, HN⟩
                  case measure => simp [intOf]; omega
                · have hz2 : 57 < z := by omega
                  clear hz
                  go_wp2
                  go_round
                  case rel => exact ⟨k + 1, by omega, by go_num, HN⟩
                  case measure => simp [intOf]; omega
              · have b5 : ¬ (k : Int) + 1 < (n : Int) := by omega
                clear hx
                go_wp2
                go_round
                case rel => exact ⟨k + 1, by omega, by go_num, HN⟩
                case measure => simp [intOf]; omega
            · have tx : ((x : Int) == 48) = false := by rw [beq_eq_false_iff_ne]; omega
              clear hx
              go_wp2
              go_round
              case rel => exact ⟨k + 1, by omega, by go_num, HN⟩
              case measure => simp [intOf]; omega
          · have hy2 : 57 < y := by omega
            have HQ : Hid (k = 0 ∨ y < 48 ∨ 57 < y) := .inr (.inr hy2)
            clear hpd hk0
            by_cases hx : x = 48
            · have tx : ((x : Int) == 48) = true := by rw [beq_iff_eq]; omega
              by_cases hkn : k + 1 < n
              · have hz := HY.out (by omega) (by omega) HQ.out hx hkn
                have gn := HNx.out hkn
                have b5 : (k : Int) + 1 < (n : Int) := by omega
                clear hx
                by_cases hz1 : z < 48
                · clear hz
                  go_wp2
                  go_round
                  case rel => exact ⟨k + 1, by omega, by go_num, HN⟩
                  case measure => simp [intOf]; omega
                · have hz2 : 57 < z := by omega
                  clear hz
                  go_wp2
                  go_round
                  case rel => exact ⟨k + 1, by omega, by go_num, HN⟩
                  case measure => simp [intOf]; omega
              · have b5 : ¬ (k : Int) + 1 < (n : Int) := by omega
                clear hx
                go_wp2
                go_round
                case rel => exact ⟨k + 1, by omega, by go_num, HN⟩
                case measure => simp [intOf]; omega
            · have tx : ((x : Int) == 48) = false := by rw [beq_eq_false_iff_ne]; omega
              clear hx
              go_wp2
              go_round
              case rel => exact ⟨k + 1, by omega, by go_num, HN⟩
              case measure => simp [intOf]; omega
    · clear hc
      go_wp2
      go_ret
      exact ⟨rfl, rfl⟩
end Go.Proofs.Qxb6002344aDoor.App
