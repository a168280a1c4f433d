/- THE WALK OF (versionPattern).matches (seat b6002344a). -/
import Derived.Test.Qxb6002344aVerWalks
set_option linter.unusedVariables false

namespace Go.Proofs.Qxb6002344a.Num
open Go.RowKit Dec

set_option maxHeartbeats 400000 in
theorem match_any (b off n c b2 off2 m c2 : Nat) (p v : List ByteArray) (w : World) (hn : n ≤ maxLen) (hm : m ≤ maxLen)
    (hl : n = p.length) (hl2 : m = v.length) (hP : validP (bls p) = true)
    (hc : ∀ j, j < n → w.cell? ⟨b, off + j, none⟩ = some (.string (p.getD j ByteArray.empty)))
    (hc2 : ∀ j, j < m → w.cell? ⟨b2, off2 + j, none⟩ = some (.string (v.getD j ByteArray.empty))) :
    Calls Try.prog 44 #[.slice (some ⟨b, off, none⟩) n c, .slice (some ⟨b2, off2, none⟩) m c2] w fun e w' => e = .returned (.bool (mB (bls p) (bls v))) ∧ w' = w := by
  have HL : Hid (n = p.length) := hl
  have HL2 : Hid (m = v.length) := hl2
  have HP : Hid (validP (bls p) = true) := hP
  have hpos : 0 < n := by have := validP_pos hP; rw [bls_len] at this; omega
  clear hl hl2 hP
  unfold maxLen at hn hm
  go_enter Try.func44, Try.ntmps44
  go_wp2
  go_loop [9] (fun i => ∃ k : Nat, k ≤ n ∧ k ≤ m ∧ i = .int .i64 k ∧ upTo (agree (bls p) (bls v)) k ∧ noPlus (bls p) k) (fun i => n - (intOf i).toNat)
  case atStart => exact ⟨0, Nat.zero_le _, Nat.zero_le _, rfl, upTo_zero _, noPlus_zero _⟩
  case round =>
    obtain ⟨k, hk, hkm, rfl, H, H'⟩ := hrel
    by_cases hlt : k < n
    · have hcell := hc k hlt
      have HB : Hid _ := bls_at p k (by rw [← HL.out]; exact hlt)
      generalize p.getD k ByteArray.empty = s at hcell HB
      have HT : Hid (s.toList = s.data.toList) := Lib.toList_data s
      by_cases h1 : s.toList = [43]
      · have t1 : (s.toList == [43]) = true := by rw [h1]; rfl
        have HN : Hid (decide (k < m) = mB (bls p) (bls v)) := by
          have := m_plus HP.out (by rw [bls_len, ← HL.out]; exact hlt) (by rw [HB.out, ← HT.out]; exact h1) H
          rw [this, bls_len, ← HL2.out]; rfl
        clear h1 H H' hc hc2
        by_cases hkm2 : k < m
        · have HN2 : Hid (true = mB (bls p) (bls v)) := by show _ = _; rw [← HN.out]; simp [hkm2]
          clear HN
          go_wp2
          go_ret
          exact ⟨ret_bool HN2.out, rfl⟩
        · have HN2 : Hid (false = mB (bls p) (bls v)) := by show _ = _; rw [← HN.out]; simp [hkm2]
          clear HN
          go_wp2
          go_ret
          exact ⟨ret_bool HN2.out, rfl⟩
      have t1 : (s.toList == [43]) = false := by rw [beq_eq_false_iff_ne]; exact h1
      have hP1 : (bls p).getD k [] ≠ plus := by rw [HB.out, ← HT.out]; exact h1
      have H1 : Hid ((bls p).getD k [] ≠ plus) := hP1
      have hnp := noPlus_succ H' hP1
      clear h1 hP1
      by_cases hkm2 : k < m
      · have t2 : ((k : Int) == (m : Int)) = false := by rw [beq_eq_false_iff_ne]; omega
        have hcell2 := hc2 k hkm2
        have HB2 : Hid _ := bls_at v k (by rw [← HL2.out]; exact hkm2)
        generalize v.getD k ByteArray.empty = s2 at hcell2 HB2
        have HT2 : Hid (s2.toList = s2.data.toList) := Lib.toList_data s2
        clear hc hc2
        by_cases h3 : s.toList = [42]
        · have t3 : (s.toList == [42]) = true := by rw [h3]; rfl
          have hn' := upTo_succ H (agree_star (by rw [HB.out, ← HT.out]; exact h3))
          clear H H' t1
          go_wp2
          go_round
          case rel => exact ⟨k + 1, by omega, by omega, by go_num, hn', hnp⟩
          case measure => simp [intOf]; omega
        · have t3 : (s.toList == [42]) = false := by rw [beq_eq_false_iff_ne]; exact h3
          have H3 : Hid ((bls p).getD k [] ≠ star) := by show _ ≠ _; rw [HB.out, ← HT.out]; exact h3
          clear h3
          by_cases h4 : s.toList = s2.toList
          · have t4 : (s.toList == s2.toList) = true := by rw [beq_iff_eq]; exact h4
            have hn' := upTo_succ H (agree_eq (V := bls v) (by rw [HB.out, HB2.out, ← HT.out, ← HT2.out]; exact h4))
            clear H H' h4
            go_wp2
            go_round
            case rel => exact ⟨k + 1, by omega, by omega, by go_num, hn', hnp⟩
            case measure => simp [intOf]; omega
          · have t4 : (s.toList == s2.toList) = false := by rw [beq_eq_false_iff_ne]; exact h4
            have HN : Hid (false = mB (bls p) (bls v)) := (m_part (by rw [bls_len, ← HL.out]; exact hlt) H1.out H3.out (by rw [HB.out, HB2.out, ← HT.out, ← HT2.out]; exact h4)).symm
            clear H H' h4
            go_wp2
            go_ret
            exact ⟨ret_bool HN.out, rfl⟩
      · have t2 : ((k : Int) == (m : Int)) = true := by rw [beq_iff_eq]; omega
        have HN : Hid (false = mB (bls p) (bls v)) := (m_short (by rw [bls_len, bls_len, ← HL.out, ← HL2.out]; omega)).symm
        clear H H' hc hc2
        go_wp2
        go_ret
        exact ⟨ret_bool HN.out, rfl⟩
    · have hke : k = p.length := by rw [← HL.out]; omega
      rw [hke, ← bls_len] at H H'
      have HN : Hid (decide (m = n) = mB (bls p) (bls v)) := by
        have := m_end (by rw [bls_len, ← HL.out]; omega) H' H
        rw [this, bls_len, bls_len, ← HL2.out, ← HL.out]; rfl
      clear hke H H' hc hc2
      by_cases hmn : m = n
      · have t5 : ((m : Int) == (n : Int)) = true := by rw [beq_iff_eq]; omega
        have HN2 : Hid (true = mB (bls p) (bls v)) := by show _ = _; rw [← HN.out]; simp [hmn]
        clear HN hmn
        go_wp2
        go_ret
        exact ⟨ret_bool HN2.out, rfl⟩
      · have t5 : ((m : Int) == (n : Int)) = false := by rw [beq_eq_false_iff_ne]; omega
        have HN2 : Hid (false = mB (bls p) (bls v)) := by show _ = _; rw [← HN.out]; simp [hmn]
        clear HN hmn
        go_wp2
        go_ret
        exact ⟨ret_bool HN2.out, rfl⟩
end Go.Proofs.Qxb6002344a.Num
