/- THE WALKS OF zzc5LeastCmp, zzc5LeqGreatest (seat b6002344a). -/
import Derived.Test.Qxb6002344aCompare
set_option linter.unusedVariables false
namespace Go.Proofs.Qxb6002344a.Num
open Go.RowKit Dec

theorem zero_dig : allDig zeroStr.data.toList = true := by decide

theorem memD {P : List (List UInt8)} {k : Nat} (h : k < P.length) : P.getD k [] ∈ P := by
  rw [List.getD_eq_getElem?_getD, List.getElem?_eq_getElem h]; simp

set_option maxHeartbeats 1000000 in
theorem least_any (b off n c b2 off2 m c2 : Nat) (p v : List ByteArray) (w : World) (hn : n ≤ maxLen) (hm : m ≤ maxLen)
    (hl : n = p.length) (hl2 : m = v.length) (hP : okP (bls p)) (hV : okV (bls v))
    (hc : ∀ j, j < n → w.cell? ⟨b, off + j, none⟩ = some (.string (p.getD j ByteArray.empty)))
    (hc2 : ∀ j, j < m → w.cell? ⟨b2, off2 + j, none⟩ = some (.string (v.getD j ByteArray.empty)))
    (hs : ∀ j, j < n → (p.getD j ByteArray.empty).size ≤ maxLen) (hs2 : ∀ j, j < m → (v.getD j ByteArray.empty).size ≤ maxLen) :
    Calls Try.prog 28 #[.slice (some ⟨b, off, none⟩) n c, .slice (some ⟨b2, off2, none⟩) m c2] w fun e w' => e = .returned (.int .i64 (leastC (bls p) (bls v))) ∧ w' = w := by
  have HL : Hid (n = p.length) := hl
  have HL2 : Hid (m = v.length) := hl2
  have HP : Hid (okP (bls p)) := hP
  have HV : Hid (okV (bls v)) := hV
  clear hl hl2 hP hV
  unfold maxLen at hn hm
  go_enter Try.func28, Try.ntmps28
  go_wp2
  go_loop [5] (fun i => ∃ k : Nat, k ≤ n ∧ k ≤ m ∧ i = .int .i64 k ∧ Hid (leastC ((bls p).drop k) ((bls v).drop k) = leastC (bls p) (bls v))) (fun i => n - (intOf i).toNat)
  case atStart => exact ⟨0, Nat.zero_le _, Nat.zero_le _, rfl, rfl⟩
  case round =>
    obtain ⟨k, hk, hkm, rfl, H⟩ := hrel
    by_cases hlt2 : k < n ∧ k < m
    · obtain ⟨hlt, hkm2⟩ := hlt2
      have hcell := hc k hlt
      have hsz := hs k hlt
      have KP : Hid (k < (bls p).length) := by show _ < _; rw [bls_len, ← HL.out]; exact hlt
      have HB : Hid _ := bls_at p k (by rw [← HL.out]; exact hlt)
      have HM := HP.out _ (memD KP.out)
      generalize p.getD k ByteArray.empty = s at hcell hsz HB
      have HS : Hid (s.size ≤ maxLen) := hsz
      rw [HB.out] at HM
      clear hsz hs hc
      have hcell2 := hc2 k hkm2
      have hsz2 := hs2 k hkm2
      have KV : Hid (k < (bls v).length) := by show _ < _; rw [bls_len, ← HL2.out]; exact hkm2
      have HB2 : Hid _ := bls_at v k (by rw [← HL2.out]; exact hkm2)
      have HM2 := HV.out _ (memD KV.out)
      generalize v.getD k ByteArray.empty = s2 at hcell2 hsz2 HB2
      have HS2 : Hid (s2.size ≤ maxLen) := hsz2
      rw [HB2.out] at HM2
      have D2 : Hid (allDig s2.data.toList = true) := isNum_allDig HM2
      clear hsz2 hc2 hs2 HM2
      by_cases h1 : s.toList = [42]
      · have t1 : (s.toList == [42]) = true := by rw [h1]; rfl
        have HLo : Hid (low ((bls p).getD k []) = zeroStr.data.toList) := by show _ = _; rw [HB.out, low_wild (wild_of (.inl h1)), zeroStr_list]
        clear h1 HM
        by_cases h6 : decSign zeroStr.data.toList s2.data.toList = 0
        · have t6 : (decSign zeroStr.data.toList s2.data.toList != 0) = false := by rw [h6]; rfl
          have HN : Hid (leastC ((bls p).drop (k + 1)) ((bls v).drop (k + 1)) = leastC (bls p) (bls v)) := by
            show _ = _
            rw [← H.out, lc_next KP.out KV.out (by rw [HLo.out, HB2.out]; exact h6)]
          clear h6 H
          go_wp2_with (go_at_call 34; refine (decSign_any zeroStr _ _ (by unfold maxLen; decide) HS2.out zero_dig D2.out).mono ?_; rintro e w' ⟨rfl, rfl⟩)
          go_round
          case rel => exact ⟨k + 1, by omega, by omega, by go_num, HN⟩
          case measure => simp [intOf]; omega
        · have t6 : (decSign zeroStr.data.toList s2.data.toList != 0) = true := by rw [bne_iff_ne]; exact h6
          have HN : Hid (decSign zeroStr.data.toList s2.data.toList = leastC (bls p) (bls v)) := by
            show _ = _
            rw [← H.out, lc_here KP.out KV.out (by rw [HLo.out, HB2.out]; exact h6), HLo.out, HB2.out]
          clear h6 H
          go_wp2_with (go_at_call 34; refine (decSign_any zeroStr _ _ (by unfold maxLen; decide) HS2.out zero_dig D2.out).mono ?_; rintro e w' ⟨rfl, rfl⟩)
          go_ret
          exact ⟨ret_int HN.out, rfl⟩
      · by_cases h2 : s.toList = [43]
        · have t1 : (s.toList == [42]) = false := by rw [beq_eq_false_iff_ne]; exact h1
          have t2 : (s.toList == [43]) = true := by rw [h2]; rfl
          have HLo : Hid (low ((bls p).getD k []) = zeroStr.data.toList) := by show _ = _; rw [HB.out, low_wild (wild_of (.inr h2)), zeroStr_list]
          clear h1 h2 HM
          by_cases h6 : decSign zeroStr.data.toList s2.data.toList = 0
          · have t6 : (decSign zeroStr.data.toList s2.data.toList != 0) = false := by rw [h6]; rfl
            have HN : Hid (leastC ((bls p).drop (k + 1)) ((bls v).drop (k + 1)) = leastC (bls p) (bls v)) := by
              show _ = _
              rw [← H.out, lc_next KP.out KV.out (by rw [HLo.out, HB2.out]; exact h6)]
            clear h6 H
            go_wp2_with (go_at_call 34; refine (decSign_any zeroStr _ _ (by unfold maxLen; decide) HS2.out zero_dig D2.out).mono ?_; rintro e w' ⟨rfl, rfl⟩)
            go_round
            case rel => exact ⟨k + 1, by omega, by omega, by go_num, HN⟩
            case measure => simp [intOf]; omega
          · have t6 : (decSign zeroStr.data.toList s2.data.toList != 0) = true := by rw [bne_iff_ne]; exact h6
            have HN : Hid (decSign zeroStr.data.toList s2.data.toList = leastC (bls p) (bls v)) := by
              show _ = _
              rw [← H.out, lc_here KP.out KV.out (by rw [HLo.out, HB2.out]; exact h6), HLo.out, HB2.out]
            clear h6 H
            go_wp2_with (go_at_call 34; refine (decSign_any zeroStr _ _ (by unfold maxLen; decide) HS2.out zero_dig D2.out).mono ?_; rintro e w' ⟨rfl, rfl⟩)
            go_ret
            exact ⟨ret_int HN.out, rfl⟩
        · have t1 : (s.toList == [42]) = false := by rw [beq_eq_false_iff_ne]; exact h1
          have t2 : (s.toList == [43]) = false := by rw [beq_eq_false_iff_ne]; exact h2
          have hnw := not_wild h1 h2
          have D1 : Hid (allDig s.data.toList = true) := isNum_allDig (HM.resolve_left (by rw [hnw]; simp))
          have HLo : Hid (low ((bls p).getD k []) = s.data.toList) := by show _ = _; rw [HB.out, low_num' hnw]
          clear h1 h2 HM hnw
          by_cases h6 : decSign s.data.toList s2.data.toList = 0
          · have t6 : (decSign s.data.toList s2.data.toList != 0) = false := by rw [h6]; rfl
            have HN : Hid (leastC ((bls p).drop (k + 1)) ((bls v).drop (k + 1)) = leastC (bls p) (bls v)) := by
              show _ = _
              rw [← H.out, lc_next KP.out KV.out (by rw [HLo.out, HB2.out]; exact h6)]
            clear h6 H
            go_wp2_with (go_at_call 34; refine (decSign_any s _ _ HS.out HS2.out D1.out D2.out).mono ?_; rintro e w' ⟨rfl, rfl⟩)
            go_round
            case rel => exact ⟨k + 1, by omega, by omega, by go_num, HN⟩
            case measure => simp [intOf]; omega
          · have t6 : (decSign s.data.toList s2.data.toList != 0) = true := by rw [bne_iff_ne]; exact h6
            have HN : Hid (decSign s.data.toList s2.data.toList = leastC (bls p) (bls v)) := by
              show _ = _
              rw [← H.out, lc_here KP.out KV.out (by rw [HLo.out, HB2.out]; exact h6), HLo.out, HB2.out]
            clear h6 H
            go_wp2_with (go_at_call 34; refine (decSign_any s _ _ HS.out HS2.out D1.out D2.out).mono ?_; rintro e w' ⟨rfl, rfl⟩)
            go_ret
            exact ⟨ret_int HN.out, rfl⟩
    · have HN : Hid ((if n < m then -1 else if m < n then 1 else 0) = leastC (bls p) (bls v)) := by
        show _ = _
        rw [← H.out, lc_end (by rw [bls_len, bls_len, ← HL.out, ← HL2.out]; omega) (by rw [bls_len, ← HL.out]; omega) (by rw [bls_len, ← HL2.out]; omega), bls_len, bls_len, ← HL2.out, ← HL.out]
      clear hc hc2 hs hs2 H
      by_cases hkn : k < n
      · have hkm2 : ¬ k < m := by omega
        have HN2 : Hid (1 = leastC (bls p) (bls v)) := by show _ = _; rw [← HN.out, if_neg (by omega), if_pos (by omega)]
        clear hlt2 HN
        go_wp2
        go_ret
        exact ⟨ret_int HN2.out, rfl⟩
      · by_cases hmn : n < m
        · have HN2 : Hid (-1 = leastC (bls p) (bls v)) := by show _ = _; rw [← HN.out, if_pos (by omega)]
          clear hlt2 HN
          go_wp2
          go_ret
          exact ⟨ret_int HN2.out, rfl⟩
        · have HN2 : Hid (0 = leastC (bls p) (bls v)) := by show _ = _; rw [← HN.out, if_neg (by omega), if_neg (by omega)]
          clear hlt2 HN
          go_wp2
          go_ret
          exact ⟨ret_int HN2.out, rfl⟩

set_option maxHeartbeats 1000000 in
theorem leG_any (b off n c b2 off2 m c2 : Nat) (p v : List ByteArray) (w : World) (hn : n ≤ maxLen) (hm : m ≤ maxLen)
    (hl : n = p.length) (hl2 : m = v.length) (hP : okP (bls p)) (hV : okV (bls v))
    (hc : ∀ j, j < n → w.cell? ⟨b, off + j, none⟩ = some (.string (p.getD j ByteArray.empty)))
    (hc2 : ∀ j, j < m → w.cell? ⟨b2, off2 + j, none⟩ = some (.string (v.getD j ByteArray.empty)))
    (hs : ∀ j, j < n → (p.getD j ByteArray.empty).size ≤ maxLen) (hs2 : ∀ j, j < m → (v.getD j ByteArray.empty).size ≤ maxLen) :
    Calls Try.prog 29 #[.slice (some ⟨b2, off2, none⟩) m c2, .slice (some ⟨b, off, none⟩) n c] w fun e w' => e = .returned (.bool (leG (bls p) (bls v))) ∧ w' = w := by
  have HL : Hid (n = p.length) := hl
  have HL2 : Hid (m = v.length) := hl2
  have HP : Hid (okP (bls p)) := hP
  have HV : Hid (okV (bls v)) := hV
  clear hl hl2 hP hV
  unfold maxLen at hn hm
  go_enter Try.func29, Try.ntmps29
  go_wp2
  go_loop [5] (fun i => ∃ k : Nat, k ≤ n ∧ k ≤ m ∧ i = .int .i64 k ∧ Hid (leG ((bls p).drop k) ((bls v).drop k) = leG (bls p) (bls v))) (fun i => n - (intOf i).toNat)
  case atStart => exact ⟨0, Nat.zero_le _, Nat.zero_le _, rfl, rfl⟩
  case round =>
    obtain ⟨k, hk, hkm, rfl, H⟩ := hrel
    by_cases hlt : k < n
    · skip
      have hcell := hc k hlt
      have hsz := hs k hlt
      have KP : Hid (k < (bls p).length) := by show _ < _; rw [bls_len, ← HL.out]; exact hlt
      have HB : Hid _ := bls_at p k (by rw [← HL.out]; exact hlt)
      have HM := HP.out _ (memD KP.out)
      generalize p.getD k ByteArray.empty = s at hcell hsz HB
      have HS : Hid (s.size ≤ maxLen) := hsz
      rw [HB.out] at HM
      clear hsz hs hc
      by_cases h1 : s.toList = [42]
      · have t1 : (s.toList == [42]) = true := by rw [h1]; rfl
        have HN : Hid (true = leG (bls p) (bls v)) := by show _ = _; rw [← H.out, lg_wild KP.out (by rw [HB.out]; exact wild_of (.inl h1))]
        clear h1 HM hc2 hs2 H
        go_wp2
        go_ret
        exact ⟨ret_bool HN.out, rfl⟩
      · by_cases h2 : s.toList = [43]
        · have t1 : (s.toList == [42]) = false := by rw [beq_eq_false_iff_ne]; exact h1
          have t2 : (s.toList == [43]) = true := by rw [h2]; rfl
          have HN : Hid (true = leG (bls p) (bls v)) := by show _ = _; rw [← H.out, lg_wild KP.out (by rw [HB.out]; exact wild_of (.inr h2))]
          clear h1 h2 HM hc2 hs2 H
          go_wp2
          go_ret
          exact ⟨ret_bool HN.out, rfl⟩
        · have t1 : (s.toList == [42]) = false := by rw [beq_eq_false_iff_ne]; exact h1
          have t2 : (s.toList == [43]) = false := by rw [beq_eq_false_iff_ne]; exact h2
          have hnw := not_wild h1 h2
          have D1 : Hid (allDig s.data.toList = true) := isNum_allDig (HM.resolve_left (by rw [hnw]; simp))
          have HW : Hid (wild ((bls p).getD k []) = false) := by show _ = _; rw [HB.out]; exact hnw
          clear h1 h2 HM hnw
          by_cases hkm2 : k < m
          · have t5 : ((k : Int) == (m : Int)) = false := by rw [beq_eq_false_iff_ne]; omega
            have hcell2 := hc2 k hkm2
            have hsz2 := hs2 k hkm2
            have KV : Hid (k < (bls v).length) := by show _ < _; rw [bls_len, ← HL2.out]; exact hkm2
            have HB2 : Hid _ := bls_at v k (by rw [← HL2.out]; exact hkm2)
            have HM2 := HV.out _ (memD KV.out)
            generalize v.getD k ByteArray.empty = s2 at hcell2 hsz2 HB2
            have HS2 : Hid (s2.size ≤ maxLen) := hsz2
            rw [HB2.out] at HM2
            have D2 : Hid (allDig s2.data.toList = true) := isNum_allDig HM2
            clear hsz2 hc2 hs2 HM2
            by_cases h6 : decSign s.data.toList s2.data.toList = 0
            · have t6 : (decSign s.data.toList s2.data.toList != 0) = false := by rw [h6]; rfl
              have HN : Hid (leG ((bls p).drop (k + 1)) ((bls v).drop (k + 1)) = leG (bls p) (bls v)) := by
                show _ = _
                rw [← H.out, lg_next KP.out KV.out HW.out (by rw [HB.out, HB2.out]; exact h6)]
              clear h6 H
              go_wp2_with (go_at_call 34; refine (decSign_any s _ _ HS.out HS2.out D1.out D2.out).mono ?_; rintro e w' ⟨rfl, rfl⟩)
              go_round
              case rel => exact ⟨k + 1, by omega, by omega, by go_num, HN⟩
              case measure => simp [intOf]; omega
            · have t6 : (decSign s.data.toList s2.data.toList != 0) = true := by rw [bne_iff_ne]; exact h6
              have HN : Hid (decide (0 < decSign s.data.toList s2.data.toList) = leG (bls p) (bls v)) := by
                show _ = _
                rw [← H.out, lg_here KP.out KV.out HW.out (by rw [HB.out, HB2.out]; exact h6), HB.out, HB2.out]
              clear h6 H
              go_wp2_with (go_at_call 34; refine (decSign_any s _ _ HS.out HS2.out D1.out D2.out).mono ?_; rintro e w' ⟨rfl, rfl⟩)
              go_ret
              exact ⟨ret_bool HN.out, rfl⟩
          · have t5 : ((k : Int) == (m : Int)) = true := by rw [beq_iff_eq]; omega
            have HN : Hid (true = leG (bls p) (bls v)) := by show _ = _; rw [← H.out, lg_short KP.out (by rw [bls_len, ← HL2.out]; omega)]
            clear hc2 hs2 H
            go_wp2
            go_ret
            exact ⟨ret_bool HN.out, rfl⟩
    · have HN : Hid (decide (m ≤ n) = leG (bls p) (bls v)) := by
        show _ = _
        rw [← H.out, lg_end (by rw [bls_len, ← HL.out]; omega), bls_len, ← HL2.out]
        congr 1
        simp; omega
      clear hc hc2 hs hs2 H
      by_cases hmn : m ≤ n
      · have HN2 : Hid (true = leG (bls p) (bls v)) := by show _ = _; rw [← HN.out]; simp [hmn]
        clear HN
        go_wp2
        go_ret
        exact ⟨ret_bool HN2.out, rfl⟩
      · have HN2 : Hid (false = leG (bls p) (bls v)) := by show _ = _; rw [← HN.out]; simp; omega
        clear HN
        go_wp2
        go_ret
        exact ⟨ret_bool HN2.out, rfl⟩
end Go.Proofs.Qxb6002344a.Num
