/- THE WALK OF (versionPattern).compare (seat b6002344a). -/
import Derived.Test.Qxb6002344aVerWalks
import Derived.Test.Qxb6002344aVer2
import Derived.Test.Qxb6002344aCmp
set_option linter.unusedVariables false
namespace Go.Proofs.Qxb6002344a.Num
open Go.RowKit Dec

theorem wild_of {s : ByteArray} (h : s.toList = [42] ∨ s.toList = [43]) : wild s.data.toList = true := by
  rw [Lib.toList_data] at h
  unfold wild
  rcases h with h | h <;> rw [h] <;> rfl
theorem not_wild {s : ByteArray} (h1 : ¬ s.toList = [42]) (h2 : ¬ s.toList = [43]) : wild s.data.toList = false := by
  rw [Lib.toList_data] at h1 h2
  unfold wild
  rw [Bool.or_eq_false_iff]
  exact ⟨by rw [beq_eq_false_iff_ne]; exact h1, by rw [beq_eq_false_iff_ne]; exact h2⟩
theorem low_wild {p : List UInt8} (h : wild p = true) : low p = zed := by unfold low; rw [if_pos h]
theorem low_num' {p : List UInt8} (h : wild p = false) : low p = p := by unfold low; rw [if_neg (by rw [h]; simp)]

def zeroStr : ByteArray := { data := #[48] }
theorem zeroStr_list : zeroStr.data.toList = zed := rfl

set_option maxHeartbeats 1000000 in
theorem cmpV_any (b off n c b2 off2 m c2 : Nat) (g : Bool) (p v : List ByteArray) (w : World) (hn : n ≤ maxLen) (hm : m ≤ maxLen)
    (hl : n = p.length) (hl2 : m = v.length)
    (hc : ∀ j, j < n → w.cell? ⟨b, off + j, none⟩ = some (.string (p.getD j ByteArray.empty)))
    (hc2 : ∀ j, j < m → w.cell? ⟨b2, off2 + j, none⟩ = some (.string (v.getD j ByteArray.empty)))
    (hs : ∀ j, j < n → (p.getD j ByteArray.empty).size ≤ maxLen) (hs2 : ∀ j, j < m → (v.getD j ByteArray.empty).size ≤ maxLen) :
    Calls Try.prog 54 #[.slice (some ⟨b, off, none⟩) n c, .slice (some ⟨b2, off2, none⟩) m c2, .bool g] w fun e w' => e = .returned (.int .i64 (cmpV g (bls p) (bls v))) ∧ w' = w := by
  have HL : Hid (n = p.length) := hl
  have HL2 : Hid (m = v.length) := hl2
  clear hl hl2
  unfold maxLen at hn hm
  go_enter Try.func54, Try.ntmps54
  go_wp2
  go_loop [12] (fun i => ∃ k : Nat, k ≤ n ∧ k ≤ m ∧ i = .int .i64 k ∧ Hid (cmpV g ((bls p).drop k) ((bls v).drop k) = cmpV g (bls p) (bls v))) (fun i => n - (intOf i).toNat)
  case atStart => exact ⟨0, Nat.zero_le _, Nat.zero_le _, rfl, rfl⟩
  case round =>
    obtain ⟨k, hk, hkm, rfl, H⟩ := hrel
    by_cases hlt : k < n
    · have hcell := hc k hlt
      have hsz := hs k hlt
      have KP : Hid (k < (bls p).length) := by show _ < _; rw [bls_len, ← HL.out]; exact hlt
      have HB : Hid _ := bls_at p k (by rw [← HL.out]; exact hlt)
      generalize p.getD k ByteArray.empty = s at hcell hsz HB
      have HS : Hid (s.size ≤ maxLen) := hsz
      clear hsz hs hc
      by_cases hw : (s.toList = [42] ∨ s.toList = [43]) ∧ g = true
      · obtain ⟨hw, rfl⟩ := hw
        have HN : Hid (1 = cmpV true (bls p) (bls v)) := by show _ = _; rw [← H.out, cv_wild KP.out (by rw [HB.out]; exact wild_of hw)]
        clear hc2 hs2
        rcases hw with hw | hw
        · have t1 : (s.toList == [42]) = true := by rw [hw]; rfl
          clear hw
          go_wp2
          go_ret
          exact ⟨ret_int HN.out, rfl⟩
        · have t1 : (s.toList == [42]) = false := by rw [hw]; rfl
          have t2 : (s.toList == [43]) = true := by rw [hw]; rfl
          clear hw
          go_wp2
          go_ret
          exact ⟨ret_int HN.out, rfl⟩
      · by_cases h1 : s.toList = [42]
        · obtain rfl : g = false := by cases g with | false => rfl | true => exact absurd ⟨.inl h1, rfl⟩ hw
          have t1 : (s.toList == [42]) = true := by rw [h1]; rfl
          have HLo : Hid (low ((bls p).getD k []) = zeroStr.data.toList) := by show _ = _; rw [HB.out, low_wild (wild_of (.inl h1)), zeroStr_list]
          have HW : Hid ((wild ((bls p).getD k []) && false) = false) := by show _ = _; simp
          clear h1 hw
          by_cases hkm2 : k < m
          · have t5 : ((k : Int) == (m : Int)) = false := by rw [beq_eq_false_iff_ne]; omega
            have hcell2 := hc2 k hkm2
            have hsz2 := hs2 k hkm2
            have KV : Hid (k < (bls v).length) := by show _ < _; rw [bls_len, ← HL2.out]; exact hkm2
            have HB2 : Hid _ := bls_at v k (by rw [← HL2.out]; exact hkm2)
            generalize v.getD k ByteArray.empty = s2 at hcell2 hsz2 HB2
            have HS2 : Hid (s2.size ≤ maxLen) := hsz2
            clear hsz2 hc2 hs2
            by_cases h6 : cmpNum zeroStr.data.toList s2.data.toList = 0
            · have t6 : (cmpNum zeroStr.data.toList s2.data.toList != 0) = false := by rw [h6]; rfl
              have HN : Hid (cmpV false ((bls p).drop (k + 1)) ((bls v).drop (k + 1)) = cmpV false (bls p) (bls v)) := by
                show _ = _
                rw [← H.out, cv_next KP.out KV.out HW.out (by rw [HLo.out, HB2.out]; exact h6)]
              clear h6 H
              go_wp2_with (go_at_call 46; refine (cmpNum_any zeroStr _ _ (by unfold maxLen; decide) HS2.out).mono ?_; rintro e w' ⟨rfl, rfl⟩)
              go_round
              case rel => exact ⟨k + 1, by omega, by omega, by go_num, HN⟩
              case measure => simp [intOf]; omega
            · have t6 : (cmpNum zeroStr.data.toList s2.data.toList != 0) = true := by rw [bne_iff_ne]; exact h6
              have HN : Hid (cmpNum zeroStr.data.toList s2.data.toList = cmpV false (bls p) (bls v)) := by
                show _ = _
                rw [← H.out, cv_here KP.out KV.out HW.out (by rw [HLo.out, HB2.out]; exact h6), HLo.out, HB2.out]
              clear h6 H
              go_wp2_with (go_at_call 46; refine (cmpNum_any zeroStr _ _ (by unfold maxLen; decide) HS2.out).mono ?_; rintro e w' ⟨rfl, rfl⟩)
              go_ret
              exact ⟨ret_int HN.out, rfl⟩
          · have t5 : ((k : Int) == (m : Int)) = true := by rw [beq_iff_eq]; omega
            have HN : Hid (1 = cmpV false (bls p) (bls v)) := by show _ = _; rw [← H.out, cv_short KP.out (by rw [bls_len, ← HL2.out]; omega)]
            clear hc2 hs2 H
            go_wp2
            go_ret
            exact ⟨ret_int HN.out, rfl⟩
        · by_cases h2 : s.toList = [43]
          · obtain rfl : g = false := by cases g with | false => rfl | true => exact absurd ⟨.inr h2, rfl⟩ hw
            have t1 : (s.toList == [42]) = false := by rw [beq_eq_false_iff_ne]; exact h1
            have t2 : (s.toList == [43]) = true := by rw [h2]; rfl
            have HLo : Hid (low ((bls p).getD k []) = zeroStr.data.toList) := by show _ = _; rw [HB.out, low_wild (wild_of (.inr h2)), zeroStr_list]
            have HW : Hid ((wild ((bls p).getD k []) && false) = false) := by show _ = _; simp
            clear h1 h2 hw
            by_cases hkm2 : k < m
            · have t5 : ((k : Int) == (m : Int)) = false := by rw [beq_eq_false_iff_ne]; omega
              have hcell2 := hc2 k hkm2
              have hsz2 := hs2 k hkm2
              have KV : Hid (k < (bls v).length) := by show _ < _; rw [bls_len, ← HL2.out]; exact hkm2
              have HB2 : Hid _ := bls_at v k (by rw [← HL2.out]; exact hkm2)
              generalize v.getD k ByteArray.empty = s2 at hcell2 hsz2 HB2
              have HS2 : Hid (s2.size ≤ maxLen) := hsz2
              clear hsz2 hc2 hs2
              by_cases h6 : cmpNum zeroStr.data.toList s2.data.toList = 0
              · have t6 : (cmpNum zeroStr.data.toList s2.data.toList != 0) = false := by rw [h6]; rfl
                have HN : Hid (cmpV false ((bls p).drop (k + 1)) ((bls v).drop (k + 1)) = cmpV false (bls p) (bls v)) := by
                  show _ = _
                  rw [← H.out, cv_next KP.out KV.out HW.out (by rw [HLo.out, HB2.out]; exact h6)]
                clear h6 H
                go_wp2_with (go_at_call 46; refine (cmpNum_any zeroStr _ _ (by unfold maxLen; decide) HS2.out).mono ?_; rintro e w' ⟨rfl, rfl⟩)
                go_round
                case rel => exact ⟨k + 1, by omega, by omega, by go_num, HN⟩
                case measure => simp [intOf]; omega
              · have t6 : (cmpNum zeroStr.data.toList s2.data.toList != 0) = true := by rw [bne_iff_ne]; exact h6
                have HN : Hid (cmpNum zeroStr.data.toList s2.data.toList = cmpV false (bls p) (bls v)) := by
                  show _ = _
                  rw [← H.out, cv_here KP.out KV.out HW.out (by rw [HLo.out, HB2.out]; exact h6), HLo.out, HB2.out]
                clear h6 H
                go_wp2_with (go_at_call 46; refine (cmpNum_any zeroStr _ _ (by unfold maxLen; decide) HS2.out).mono ?_; rintro e w' ⟨rfl, rfl⟩)
                go_ret
                exact ⟨ret_int HN.out, rfl⟩
            · have t5 : ((k : Int) == (m : Int)) = true := by rw [beq_iff_eq]; omega
              have HN : Hid (1 = cmpV false (bls p) (bls v)) := by show _ = _; rw [← H.out, cv_short KP.out (by rw [bls_len, ← HL2.out]; omega)]
              clear hc2 hs2 H
              go_wp2
              go_ret
              exact ⟨ret_int HN.out, rfl⟩
          · have t1 : (s.toList == [42]) = false := by rw [beq_eq_false_iff_ne]; exact h1
            have t2 : (s.toList == [43]) = false := by rw [beq_eq_false_iff_ne]; exact h2
            have hnw := not_wild h1 h2
            have HLo : Hid (low ((bls p).getD k []) = s.data.toList) := by show _ = _; rw [HB.out, low_num' hnw]
            have HW : Hid ((wild ((bls p).getD k []) && g) = false) := by show _ = _; rw [HB.out, hnw]; rfl
            clear h1 h2 hw hnw
            by_cases hkm2 : k < m
            · have t5 : ((k : Int) == (m : Int)) = false := by rw [beq_eq_false_iff_ne]; omega
              have hcell2 := hc2 k hkm2
              have hsz2 := hs2 k hkm2
              have KV : Hid (k < (bls v).length) := by show _ < _; rw [bls_len, ← HL2.out]; exact hkm2
              have HB2 : Hid _ := bls_at v k (by rw [← HL2.out]; exact hkm2)
              generalize v.getD k ByteArray.empty = s2 at hcell2 hsz2 HB2
              have HS2 : Hid (s2.size ≤ maxLen) := hsz2
              clear hsz2 hc2 hs2
              by_cases h6 : cmpNum s.data.toList s2.data.toList = 0
              · have t6 : (cmpNum s.data.toList s2.data.toList != 0) = false := by rw [h6]; rfl
                have HN : Hid (cmpV g ((bls p).drop (k + 1)) ((bls v).drop (k + 1)) = cmpV g (bls p) (bls v)) := by
                  show _ = _
                  rw [← H.out, cv_next KP.out KV.out HW.out (by rw [HLo.out, HB2.out]; exact h6)]
                clear h6 H
                go_wp2_with (go_at_call 46; refine (cmpNum_any s _ _ (HS.out) HS2.out).mono ?_; rintro e w' ⟨rfl, rfl⟩)
                go_round
                case rel => exact ⟨k + 1, by omega, by omega, by go_num, HN⟩
                case measure => simp [intOf]; omega
              · have t6 : (cmpNum s.data.toList s2.data.toList != 0) = true := by rw [bne_iff_ne]; exact h6
                have HN : Hid (cmpNum s.data.toList s2.data.toList = cmpV g (bls p) (bls v)) := by
                  show _ = _
                  rw [← H.out, cv_here KP.out KV.out HW.out (by rw [HLo.out, HB2.out]; exact h6), HLo.out, HB2.out]
                clear h6 H
                go_wp2_with (go_at_call 46; refine (cmpNum_any s _ _ (HS.out) HS2.out).mono ?_; rintro e w' ⟨rfl, rfl⟩)
                go_ret
                exact ⟨ret_int HN.out, rfl⟩
            · have t5 : ((k : Int) == (m : Int)) = true := by rw [beq_iff_eq]; omega
              have HN : Hid (1 = cmpV g (bls p) (bls v)) := by show _ = _; rw [← H.out, cv_short KP.out (by rw [bls_len, ← HL2.out]; omega)]
              clear hc2 hs2 H
              go_wp2
              go_ret
              exact ⟨ret_int HN.out, rfl⟩
    · have HN : Hid ((if k < m then -1 else 0) = cmpV g (bls p) (bls v)) := by
        show _ = _
        rw [← H.out, cv_end (by rw [bls_len, ← HL.out]; omega), bls_len, ← HL2.out]
      clear hc hc2 hs hs2 H
      by_cases hmn : n < m
      · have HN2 : Hid (-1 = cmpV g (bls p) (bls v)) := by show _ = _; rw [← HN.out, if_pos (by omega)]
        go_wp2
        go_ret
        exact ⟨ret_int HN2.out, rfl⟩
      · have HN2 : Hid (0 = cmpV g (bls p) (bls v)) := by show _ = _; rw [← HN.out, if_neg (by omega)]
        go_wp2
        go_ret
        exact ⟨ret_int HN2.out, rfl⟩
end Go.Proofs.Qxb6002344a.Num
