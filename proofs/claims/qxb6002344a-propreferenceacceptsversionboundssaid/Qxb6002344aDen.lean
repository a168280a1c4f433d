/- THE WALK OF zzc5Denotes (seat b6002344a). -/
import Derived.Test.Qxb6002344aVerWalks
import Derived.Deep.QuietTactic
import Derived.BigQuiet
set_option linter.unusedVariables false
namespace Go.Proofs.Qxb6002344a.Num
open Go.RowKit Dec

theorem drewN_drewN (w : World) (a b : Nat) : (w.drewN a).drewN b = w.drewN (a + b) := World.drewN_drewN w a b

set_option maxHeartbeats 1000000 in
theorem den_any (b off n c b2 off2 m c2 : Nat) (p v : List ByteArray) (w : World) (hn : n ≤ maxLen) (hm : m ≤ maxLen)
    (hl : n = p.length) (hl2 : m = v.length) (hP : validP (bls p) = true) (hV : validV (bls v) = true)
    (hc : ∀ j, j < n → w.cell? ⟨b, off + j, none⟩ = some (.string (p.getD j ByteArray.empty)))
    (hc2 : ∀ j, j < m → w.cell? ⟨b2, off2 + j, none⟩ = some (.string (v.getD j ByteArray.empty)))
    (hs : ∀ j, j < n → (p.getD j ByteArray.empty).size ≤ maxLen) (hs2 : ∀ j, j < m → (v.getD j ByteArray.empty).size ≤ maxLen) :
    Calls Try.prog 25 #[.slice (some ⟨b, off, none⟩) n c, .slice (some ⟨b2, off2, none⟩) m c2] w fun e w' => e = .returned (.bool (mB (bls p) (bls v))) ∧ ∃ q, w' = w.drewN q := by
  have HL : Hid (n = p.length) := hl
  have HL2 : Hid (m = v.length) := hl2
  have HP : Hid (validP (bls p) = true) := hP
  have HV : Hid (validV (bls v) = true) := hV
  have hpos : 0 < n := by have := validP_pos hP; rw [bls_len] at this; omega
  clear hl hl2 hP hV
  unfold maxLen at hn hm
  have hcl := hc (n - 1) (by omega)
  have HBl : Hid _ := bls_at p (n - 1) (by rw [← HL.out]; omega)
  generalize p.getD (n - 1) ByteArray.empty = sl at hcl HBl
  have HTl : Hid (sl.toList = sl.data.toList) := Lib.toList_data sl
  by_cases h1 : sl.toList = [43]
  · have t1 : (sl.toList == [43]) = true := by rw [h1]; rfl
    have HE : Hid ((bls p).getD ((bls p).length - 1) [] = plus) := by show _ = _; rw [bls_len, ← HL.out, HBl.out, ← HTl.out]; exact h1
    clear h1
    by_cases hmn : m < n
    · have HN : Hid (false = mB (bls p) (bls v)) := (m_short (by rw [bls_len, bls_len, ← HL.out, ← HL2.out]; omega)).symm
      clear hc hc2 hs hs2
      go_enter Try.func25, Try.ntmps25
      go_wp2
      go_ret
      exact ⟨ret_bool HN.out, 0, rfl⟩
    · go_enter Try.func25, Try.ntmps25
      go_wp2
      go_loopw [7] (fun i wr => ∃ (k q : Nat), k ≤ n - 1 ∧ i = .int .i64 k ∧ upTo (agree (bls p) (bls v)) k ∧ wr = w.drewN q) (fun i _ => n - 1 - (intOf i).toNat)
      case atStart => exact ⟨0, 0, Nat.zero_le _, rfl, upTo_zero _, rfl⟩
      case round =>
        obtain ⟨k, q, hk, rfl, H, hwr⟩ := hrel
        have HW : Hid (wr = w.drewN q) := hwr
        clear hwr
        by_cases hlt : k < n - 1
        · have hcell : wr.cell? ⟨b, off + k, none⟩ = some (.string (p.getD k ByteArray.empty)) := by rw [HW.out]; exact hc k (by omega)
          have hcell2 : wr.cell? ⟨b2, off2 + k, none⟩ = some (.string (v.getD k ByteArray.empty)) := by rw [HW.out]; exact hc2 k (by omega)
          have hsz := hs k (by omega)
          have hsz2 := hs2 k (by omega)
          have HB : Hid _ := bls_at p k (by rw [← HL.out]; omega)
          have HB2 : Hid _ := bls_at v k (by rw [← HL2.out]; omega)
          generalize p.getD k ByteArray.empty = s at hcell hsz HB
          generalize v.getD k ByteArray.empty = s2 at hcell2 hsz2 HB2
          have HT : Hid (s.toList = s.data.toList) := Lib.toList_data s
          have HS : Hid (_ ∧ _) := And.intro hsz hsz2
          clear hc hc2 hs hs2 hcl hsz hsz2
          have b1 : (0 : Int) ≤ (k : Int) := by omega
          have b2' : (k : Int) < (n : Int) := by omega
          have b3 : (k : Int) < (m : Int) := by omega
          by_cases h3 : s.toList = [42]
          · have t3 : (s.toList == [42]) = true := by rw [h3]; rfl
            have hn' := upTo_succ H (agree_star (V := bls v) (by rw [HB.out, ← HT.out]; exact h3))
            clear H h3
            go_wp2
            go_quiet (fail)
            go_wp2
            go_roundw
            case rel => exact ⟨k + 1, _, by omega, by go_num, hn', by rw [HW.out]; exact drewN_drewN _ _ _⟩
            case measure => simp [intOf]; omega
          · have t3 : (s.toList == [42]) = false := by rw [beq_eq_false_iff_ne]; exact h3
            have H3 : Hid ((bls p).getD k [] ≠ star) := by show _ ≠ _; rw [HB.out, ← HT.out]; exact h3
            have hnum := part_num HP.out (i := k) (by rw [bls_len, ← HL.out]; omega) H3.out (.inl (by rw [bls_len, ← HL.out]; omega))
            have hnum2 := validV_at HV.out (i := k) (by rw [bls_len, ← HL2.out]; omega)
            have HNP : Hid ((bls p).getD k [] ≠ plus) := by
              show _ ≠ _
              intro e; rw [e] at hnum; rw [plus_num] at hnum; cases hnum
            rw [HB.out] at hnum
            rw [HB2.out] at hnum2
            have HZ : Hid _ := decSign_zero hnum hnum2
            have DA : Hid (allDig s.data.toList = true) := isNum_allDig hnum
            have DB : Hid (allDig s2.data.toList = true) := isNum_allDig hnum2
            clear h3 hnum hnum2
            by_cases h4 : s.data.toList = s2.data.toList
            · have t4 : (decSign s.data.toList s2.data.toList != 0) = false := by rw [HZ.out.2 h4]; rfl
              have hn' := upTo_succ H (agree_eq (V := bls v) (by rw [HB.out, HB2.out]; exact h4))
              clear H h4
              go_wp2
              go_quiet ((go_at_call 34; exact Calls.quiet_of_same (decSign_any _ _ _ HS.out.1 HS.out.2 DA.out DB.out)))
              go_wp2
              go_roundw
              case rel => exact ⟨k + 1, _, by omega, by go_num, hn', by rw [HW.out]; exact drewN_drewN _ _ _⟩
              case measure => simp [intOf]; omega
            · have t4 : (decSign s.data.toList s2.data.toList != 0) = true := by rw [bne_iff_ne]; intro e; exact h4 (HZ.out.1 e)
              have HN : Hid (false = mB (bls p) (bls v)) := (m_part (by rw [bls_len, ← HL.out]; omega) HNP.out H3.out (by rw [HB.out, HB2.out]; exact h4)).symm
              clear H h4
              go_wp2
              go_quiet ((go_at_call 34; exact Calls.quiet_of_same (decSign_any _ _ _ HS.out.1 HS.out.2 DA.out DB.out)))
              go_wp2
              go_ret
              exact ⟨ret_bool HN.out, _, by rw [HW.out]; exact drewN_drewN _ _ _⟩
        · have hke : k = n - 1 := by omega
          have HN : Hid (true = mB (bls p) (bls v)) := (d_plus HE.out (by rw [bls_len, bls_len, ← HL.out, ← HL2.out]; omega) (by rw [bls_len, ← HL.out, ← hke]; exact H)).symm
          clear hke H hc hc2 hs hs2
          go_wp2
          go_ret
          exact ⟨ret_bool HN.out, _, HW.out⟩
  · have t1 : (sl.toList == [43]) = false := by rw [beq_eq_false_iff_ne]; exact h1
    have HE : Hid ((bls p).getD ((bls p).length - 1) [] ≠ plus) := by show _ ≠ _; rw [bls_len, ← HL.out, HBl.out, ← HTl.out]; exact h1
    have HE' : Hid ((bls p).getD (n - 1) [] ≠ plus) := by show _ ≠ _; rw [HBl.out, ← HTl.out]; exact h1
    clear h1
    by_cases hmn : m = n
    · have t2 : ((m : Int) != (n : Int)) = false := by rw [hmn]; simp
      have hmn1 : m ≤ n := by omega
      have hmn2 : n ≤ m := by omega
      clear hmn
      go_enter Try.func25, Try.ntmps25
      go_wp2
      go_loopw [7] (fun i wr => ∃ (k q : Nat), k ≤ n ∧ i = .int .i64 k ∧ upTo (agree (bls p) (bls v)) k ∧ wr = w.drewN q) (fun i _ => n - (intOf i).toNat)
      case atStart => exact ⟨0, 0, Nat.zero_le _, rfl, upTo_zero _, rfl⟩
      case round =>
        obtain ⟨k, q, hk, rfl, H, hwr⟩ := hrel
        have HW : Hid (wr = w.drewN q) := hwr
        clear hwr
        by_cases hlt : k < n
        · have hcell : wr.cell? ⟨b, off + k, none⟩ = some (.string (p.getD k ByteArray.empty)) := by rw [HW.out]; exact hc k (by omega)
          have hcell2 : wr.cell? ⟨b2, off2 + k, none⟩ = some (.string (v.getD k ByteArray.empty)) := by rw [HW.out]; exact hc2 k (by omega)
          have hsz := hs k (by omega)
          have hsz2 := hs2 k (by omega)
          have HB : Hid _ := bls_at p k (by rw [← HL.out]; omega)
          have HB2 : Hid _ := bls_at v k (by rw [← HL2.out]; omega)
          generalize p.getD k ByteArray.empty = s at hcell hsz HB
          generalize v.getD k ByteArray.empty = s2 at hcell2 hsz2 HB2
          have HT : Hid (s.toList = s.data.toList) := Lib.toList_data s
          have HS : Hid (_ ∧ _) := And.intro hsz hsz2
          clear hc hc2 hs hs2 hcl hsz hsz2
          have b1 : (0 : Int) ≤ (k : Int) := by omega
          have b2' : (k : Int) < (n : Int) := by omega
          have b3 : (k : Int) < (m : Int) := by omega
          by_cases h3 : s.toList = [42]
          · have t3 : (s.toList == [42]) = true := by rw [h3]; rfl
            have hn' := upTo_succ H (agree_star (V := bls v) (by rw [HB.out, ← HT.out]; exact h3))
            clear H h3
            go_wp2
            go_quiet (fail)
            go_wp2
            go_roundw
            case rel => exact ⟨k + 1, _, by omega, by go_num, hn', by rw [HW.out]; exact drewN_drewN _ _ _⟩
            case measure => simp [intOf]; omega
          · have t3 : (s.toList == [42]) = false := by rw [beq_eq_false_iff_ne]; exact h3
            have H3 : Hid ((bls p).getD k [] ≠ star) := by show _ ≠ _; rw [HB.out, ← HT.out]; exact h3
            have hnum := part_num HP.out (i := k) (by rw [bls_len, ← HL.out]; omega) H3.out (by rw [bls_len, ← HL.out]; exact (Classical.em (k = n - 1)).elim (fun e => .inr (by rw [e]; exact HE'.out)) (fun e => .inl (by omega)))
            have hnum2 := validV_at HV.out (i := k) (by rw [bls_len, ← HL2.out]; omega)
            have HNP : Hid ((bls p).getD k [] ≠ plus) := by
              show _ ≠ _
              intro e; rw [e] at hnum; rw [plus_num] at hnum; cases hnum
            rw [HB.out] at hnum
            rw [HB2.out] at hnum2
            have HZ : Hid _ := decSign_zero hnum hnum2
            have DA : Hid (allDig s.data.toList = true) := isNum_allDig hnum
            have DB : Hid (allDig s2.data.toList = true) := isNum_allDig hnum2
            clear h3 hnum hnum2
            by_cases h4 : s.data.toList = s2.data.toList
            · have t4 : (decSign s.data.toList s2.data.toList != 0) = false := by rw [HZ.out.2 h4]; rfl
              have hn' := upTo_succ H (agree_eq (V := bls v) (by rw [HB.out, HB2.out]; exact h4))
              clear H h4
              go_wp2
              go_quiet ((go_at_call 34; exact Calls.quiet_of_same (decSign_any _ _ _ HS.out.1 HS.out.2 DA.out DB.out)))
              go_wp2
              go_roundw
              case rel => exact ⟨k + 1, _, by omega, by go_num, hn', by rw [HW.out]; exact drewN_drewN _ _ _⟩
              case measure => simp [intOf]; omega
            · have t4 : (decSign s.data.toList s2.data.toList != 0) = true := by rw [bne_iff_ne]; intro e; exact h4 (HZ.out.1 e)
              have HN : Hid (false = mB (bls p) (bls v)) := (m_part (by rw [bls_len, ← HL.out]; omega) HNP.out H3.out (by rw [HB.out, HB2.out]; exact h4)).symm
              clear H h4
              go_wp2
              go_quiet ((go_at_call 34; exact Calls.quiet_of_same (decSign_any _ _ _ HS.out.1 HS.out.2 DA.out DB.out)))
              go_wp2
              go_ret
              exact ⟨ret_bool HN.out, _, by rw [HW.out]; exact drewN_drewN _ _ _⟩
        · have hke : k = n := by omega
          have HN : Hid (true = mB (bls p) (bls v)) := (d_all HE.out (by rw [bls_len, bls_len, ← HL.out, ← HL2.out]; omega) (by rw [bls_len, ← HL.out, ← hke]; exact H)).symm
          clear hke H hc hc2 hs hs2
          go_wp2
          go_ret
          exact ⟨ret_bool HN.out, _, HW.out⟩
    · have t2 : ((m : Int) != (n : Int)) = true := by rw [bne_iff_ne]; omega
      have HN : Hid (false = mB (bls p) (bls v)) := (d_no HE.out (by rw [bls_len, bls_len, ← HL.out, ← HL2.out]; exact hmn)).symm
      clear hc hc2 hs hs2 hmn
      go_enter Try.func25, Try.ntmps25
      go_wp2
      go_ret
      exact ⟨ret_bool HN.out, 0, rfl⟩
end Go.Proofs.Qxb6002344a.Num
