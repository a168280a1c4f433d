/- THE WALKS OF zzc5ValidPattern, zzc5ValidVersion, matches, zzc5Denotes (seat b6002344a). -/
import Derived.Test.Qxb6002344aNum
import Derived.Test.Qxb6002344aVer
import Derived.SliceStrings

namespace Go.Proofs.Qxb6002344a.Num
open Go.RowKit Dec

/-- A row of strings in the world. -/
def SS (w : World) (a : Option Addr) (n : Nat) (p : List ByteArray) : Prop :=
  n = p.length ∧ (n = 0 ∨ ∃ b off, a = some ⟨b, off, none⟩ ∧ ∀ j, j < n → w.cell? ⟨b, off + j, none⟩ = some (.string (p.getD j ByteArray.empty))) ∧ ∀ j, j < n → (p.getD j ByteArray.empty).size ≤ maxLen

def bl (s : ByteArray) : List UInt8 := s.data.toList
def bls (p : List ByteArray) : List (List UInt8) := p.map bl
theorem bls_len (p : List ByteArray) : (bls p).length = p.length := by simp [bls]
theorem bls_at (p : List ByteArray) (j : Nat) (h : j < p.length) : (bls p).getD j [] = (p.getD j ByteArray.empty).data.toList := by
  unfold bls
  rw [List.getD_eq_getElem?_getD, List.getElem?_map, List.getElem?_eq_getElem h, List.getD_eq_getElem?_getD, List.getElem?_eq_getElem h]
  rfl

set_option maxHeartbeats 400000 in
theorem validV_any (a : Option Addr) (n c : Nat) (p : List ByteArray) (w : World) (hn : n ≤ maxLen) (hp : SS w a n p) :
    Calls Try.prog 23 #[.slice a n c] w fun e w' => e = .returned (.bool (validV (bls p))) ∧ w' = w := by
  obtain ⟨hl, h0 | ⟨b, off, rfl, hc⟩, hs⟩ := hp
  · rw [validV_nil (by rw [bls_len]; omega)]
    subst h0
    clear hl hs hn
    go_enter Try.func23, Try.ntmps23
    go_wp2
    go_ret
    exact ⟨rfl, rfl⟩
  have HL : Hid (n = p.length) := hl
  clear hl
  unfold maxLen at hn
  by_cases h0 : n = 0
  · rw [validV_nil (by rw [bls_len, ← HL.out]; omega)]
    subst h0
    clear hs hn hc
    go_enter Try.func23, Try.ntmps23
    go_wp2
    go_ret
    exact ⟨rfl, rfl⟩
  have h0' : ((n : Int) == 0) = false := by simpa using h0
  go_enter Try.func23, Try.ntmps23
  go_wp2
  go_loop [3] (fun i => ∃ k : Nat, k ≤ n ∧ i = .int .i64 k ∧ upTo (fun i => isNum ((bls p).getD i [])) k) (fun i => n - (intOf i).toNat)
  case atStart => exact ⟨0, Nat.zero_le _, rfl, upTo_zero _⟩
  case round =>
    obtain ⟨k, hk, rfl, H⟩ := hrel
    by_cases hlt : k < n
    · have hcell := hc k hlt
      have hsz := hs k hlt
      have HB : Hid _ := bls_at p k (by rw [← HL.out]; exact hlt)
      generalize p.getD k ByteArray.empty = s at hcell hsz HB
      clear hc hs
      cases hx : isNum s.data.toList with
      | true =>
        have hn' := upTo_succ H (by rw [HB.out]; exact hx)
        clear H
        go_wp2_with (go_at_call 31; refine (isNum_any _ _ hsz).mono ?_; rintro e w' ⟨rfl, rfl⟩)
        go_round
        case rel => exact ⟨k + 1, by omega, by go_num, hn'⟩
        case measure => simp [intOf]; omega
      | false =>
        have HN : Hid (false = validV (bls p)) := (validV_no (by rw [bls_len, ← HL.out]; exact hlt) (by rw [HB.out]; exact hx)).symm
        go_wp2_with (go_at_call 31; refine (isNum_any _ _ hsz).mono ?_; rintro e w' ⟨rfl, rfl⟩)
        go_ret
        exact ⟨ret_bool HN.out, rfl⟩
    · have hke : k = p.length := by rw [← HL.out]; omega
      rw [hke, ← bls_len] at H
      have HN : Hid (true = validV (bls p)) := (validV_yes (by rw [bls_len, ← HL.out]; omega) H).symm
      clear hke H
      go_wp2
      go_ret
      exact ⟨ret_bool HN.out, rfl⟩

set_option maxHeartbeats 400000 in
theorem validP_any (a : Option Addr) (n c : Nat) (p : List ByteArray) (w : World) (hn : n ≤ maxLen) (hp : SS w a n p) :
    Calls Try.prog 22 #[.slice a n c] w fun e w' => e = .returned (.bool (validP (bls p))) ∧ w' = w := by
  obtain ⟨hl, h0 | ⟨b, off, rfl, hc⟩, hs⟩ := hp
  · rw [validP_nil (by rw [bls_len]; omega)]
    subst h0
    clear hl hs hn
    go_enter Try.func22, Try.ntmps22
    go_wp2
    go_ret
    exact ⟨rfl, rfl⟩
  have HL : Hid (n = p.length) := hl
  clear hl
  unfold maxLen at hn
  by_cases h0 : n = 0
  · rw [validP_nil (by rw [bls_len, ← HL.out]; omega)]
    subst h0
    clear hs hn hc
    go_enter Try.func22, Try.ntmps22
    go_wp2
    go_ret
    exact ⟨rfl, rfl⟩
  have h0' : ((n : Int) == 0) = false := by simpa using h0
  go_enter Try.func22, Try.ntmps22
  go_wp2
  go_loop [3] (fun i => ∃ k : Nat, k ≤ n ∧ i = .int .i64 k ∧ upTo (partOK (bls p)) k) (fun i => n - (intOf i).toNat)
  case atStart => exact ⟨0, Nat.zero_le _, rfl, upTo_zero _⟩
  case round =>
    obtain ⟨k, hk, rfl, H⟩ := hrel
    by_cases hlt : k < n
    · have hcell := hc k hlt
      have hsz := hs k hlt
      have HB : Hid _ := bls_at p k (by rw [← HL.out]; exact hlt)
      generalize p.getD k ByteArray.empty = s at hcell hsz HB
      clear hc hs
      have HT : Hid (s.toList = s.data.toList) := Lib.toList_data s
      by_cases h1 : s.toList = [42]
      · have t1 : (s.toList == [42]) = true := by rw [h1]; rfl
        have hn' := upTo_succ H (partOK_star (by rw [HB.out, ← HT.out]; exact h1))
        clear H h1
        go_wp2
        go_round
        case rel => exact ⟨k + 1, by omega, by go_num, hn'⟩
        case measure => simp [intOf]; omega
      have t1 : (s.toList == [42]) = false := by rw [beq_eq_false_iff_ne]; exact h1
      have H1 : Hid ((bls p).getD k [] ≠ star) := by show _ ≠ _; rw [HB.out, ← HT.out]; exact h1
      clear h1
      by_cases h2 : s.toList = [43]
      · have H2 : Hid ((bls p).getD k [] = plus) := by show _ = _; rw [HB.out, ← HT.out]; exact h2
        by_cases h3 : k + 1 = n
        · have t3 : ((k : Int) == (n : Int) - 1) = true := by rw [beq_iff_eq]; omega
          have hn' := upTo_succ H (partOK_plus H2.out (by rw [bls_len, ← HL.out]; exact h3))
          clear H h3 t1
          go_wp2
          go_round
          case rel => exact ⟨k + 1, by omega, by go_num, hn'⟩
          case measure => simp [intOf]; omega
        · have t3 : ((k : Int) == (n : Int) - 1) = false := by rw [beq_eq_false_iff_ne]; omega
          have hx : isNum s.data.toList = false := by rw [← HT.out, h2]; exact plus_num
          have HN : Hid (false = validP (bls p)) := (validP_no (by rw [bls_len, ← HL.out]; exact hlt) (partOK_no H1.out (.inr (by rw [bls_len, ← HL.out]; exact h3)) (by rw [HB.out]; exact hx))).symm
          clear H h3 t1
          go_wp2_with (go_at_call 31; refine (isNum_any _ _ hsz).mono ?_; rintro e w' ⟨rfl, rfl⟩)
          go_ret
          exact ⟨ret_bool HN.out, rfl⟩
      have t2 : (s.toList == [43]) = false := by rw [beq_eq_false_iff_ne]; exact h2
      have H2 : Hid ((bls p).getD k [] ≠ plus) := by show _ ≠ _; rw [HB.out, ← HT.out]; exact h2
      clear h2
      cases hx : isNum s.data.toList with
      | true =>
        have hn' := upTo_succ H (partOK_num (by rw [HB.out]; exact hx))
        clear H
        go_wp2_with (go_at_call 31; refine (isNum_any _ _ hsz).mono ?_; rintro e w' ⟨rfl, rfl⟩)
        go_round
        case rel => exact ⟨k + 1, by omega, by go_num, hn'⟩
        case measure => simp [intOf]; omega
      | false =>
        have HN : Hid (false = validP (bls p)) := (validP_no (by rw [bls_len, ← HL.out]; exact hlt) (partOK_no H1.out (.inl H2.out) (by rw [HB.out]; exact hx))).symm
        clear H
        go_wp2_with (go_at_call 31; refine (isNum_any _ _ hsz).mono ?_; rintro e w' ⟨rfl, rfl⟩)
        go_ret
        exact ⟨ret_bool HN.out, rfl⟩
    · have hke : k = p.length := by rw [← HL.out]; omega
      rw [hke, ← bls_len] at H
      have HN : Hid (true = validP (bls p)) := (validP_yes (by rw [bls_len, ← HL.out]; omega) H).symm
      clear hke H
      go_wp2
      go_ret
      exact ⟨ret_bool HN.out, rfl⟩
end Go.Proofs.Qxb6002344a.Num
