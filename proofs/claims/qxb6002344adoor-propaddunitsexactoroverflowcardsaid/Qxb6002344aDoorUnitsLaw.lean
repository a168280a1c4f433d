/- THE LAW PropAddUnitsExactOrOverflow (seat b6002344aD). -/
import Derived.Test.Qxb6002344aDoorUnits
set_option linter.unusedVariables false
namespace Go.Proofs.Qxb6002344aDoor.Units
open Go.RowKit

theorem val_nil (a : Nat) : val a [] = a := by
  have e : val a [] = a := rfl
  exact e
theorem digit_at {s : ByteArray} {k : Nat} (h : k < s.size) (hd : allDigits s.data.toList = true) : 48 ≤ s[k].toNat ∧ s[k].toNat ≤ 57 := by
  unfold allDigits at hd
  rw [List.all_eq_true] at hd
  have h' : k < s.data.toList.length := by rw [← Lib.size_eq]; exact h
  have hm : s[k] ∈ s.data.toList := by
    rw [byte_getD s k h, List.getD_eq_getElem?_getD, List.getElem?_eq_getElem h']
    exact List.getElem_mem h'
  exact digit_iff.1 (hd _ hm)

set_option maxHeartbeats 2000000 in
theorem law4_go (t u : Int) (s : ByteArray) (w : World) (hs : s.size ≤ 1048576) (h0 : 0 ≤ t) (h1 : t ≤ 9223372036854775807) (hu0 : 0 < u) (hu1 : u ≤ 9223372036854775807) (hd : allDigits s.data.toList = true) (hE : Err w) :
    Calls Tryd.prog 4 #[.int .i64 t, .string s, .int .i64 u] w fun e w' => e = .returned (.bool true) ∧ Below w.heap.size w w' := by
  have C10 : Hid (Calls Tryd.prog 10 #[.string s] w fun e w' => e = .returned (.bool true) ∧ w' = w) := by
    have h := allDigits_any s w hs
    rw [hd] at h; exact h
  have C11 : Hid (Calls Tryd.prog 11 #[.int .i64 t, .string s, .int .i64 u] w fun e w' => ∃ g F, e = .returned (.tuple #[.int .i64 g, .bool F]) ∧ (F = true ↔ (val 0 s.data.toList : Int) * u + t ≤ 9223372036854775807) ∧ (F = true → g = (val 0 s.data.toList : Int) * u + t) ∧ Below w.heap.size w w') := zzadd_any t u s w hs h0 h1 hu0 hu1 hd hE
  have HD : Hid (allDigits s.data.toList = true) := hd
  have HZ : Hid (s.size = s.data.toList.length) := Lib.size_eq s
  clear hd hE
  go_enter Tryd.func4, Tryd.ntmps4
  go_wp2_with (go_at_call 9; go_in)
  refine C10.out.mono ?_
  rintro e w1 ⟨rfl, rfl⟩
  go_wp2_with fail
  refine C11.out.mono ?_
  rintro e w2 ⟨g, F, rfl, hF, hG, hb⟩
  have HF : Hid (F = true ↔ (val 0 s.data.toList : Int) * u + t ≤ 9223372036854775807) := hF
  have HG : Hid (F = true → g = (val 0 s.data.toList : Int) * u + t) := hG
  have HB : Hid (Below w1.heap.size w1 w2) := hb
  clear hF hG hb C10 C11
  go_wp2
  go_loop [9, 10, 11] (fun n o i => ∃ (k nn : Nat) (ov : Bool), k ≤ s.size ∧ i = .int .i64 k ∧ n = .int .u64 nn ∧ o = .bool ov ∧ nn ≤ 9223372036854775807 ∧ Hid (ov = false → val nn (s.data.toList.drop k) = val 0 s.data.toList) ∧ Hid (ov = true → 9223372036854775807 < val 0 s.data.toList)) (fun _ _ i => s.size - (intOf i).toNat)
  case atStart => exact ⟨0, 0, false, Nat.zero_le _, rfl, rfl, rfl, by omega, fun _ => rfl, fun h => by cases h⟩
  case round =>
    obtain ⟨k, nn, ov, hk, rfl, rfl, rfl, hnn, H1, H2⟩ := hrel
    cases ov with
    | true =>
      have hfl : F = false := by
        cases hF : F with
        | false => rfl
        | true =>
          have hv := fits_val (V := (val 0 s.data.toList : Int)) h0 hu0 (by omega) (HF.out.1 hF)
          have hv2 := H2.out rfl
          omega
      subst hfl
      clear H1 H2 HF HG
      by_cases hlt : k < s.size
      · go_wp2
        go_ret
        exact ⟨rfl, HB.out⟩
      · go_wp2
        go_ret
        exact ⟨rfl, HB.out⟩
    | false =>
      by_cases hlt : k < s.size
      · have hdig := digit_at hlt HD.out
        have HDr : Hid _ := drop_byte s k hlt
        have HV : Hid (val (nn * 10 + (s[k].toNat - 48)) (s.data.toList.drop (k + 1)) = val 0 s.data.toList) := by
          show _ = _
          rw [← val_cons, ← HDr.out]; exact H1.out rfl
        clear H1 H2 HDr
        by_cases hov : nn * 10 + (s[k].toNat - 48) ≤ 9223372036854775807
        · go_wp2
          go_round
          case rel => exact ⟨k + 1, nn * 10 + (s[k].toNat - 48), false, by omega, by go_num, by go_num, rfl, hov, fun _ => HV.out, (fun h => Bool.noConfusion h)⟩
          case measure => simp [intOf]; omega
        · have HO : Hid (9223372036854775807 < val 0 s.data.toList) := by
            show _ < _
            rw [← HV.out]
            have h := val_ge (s.data.toList.drop (k + 1)) (nn * 10 + (s[k].toNat - 48))
            omega
          clear HV
          go_wp2
          go_round
          case rel => exact ⟨k + 1, nn, true, by omega, by go_num, rfl, rfl, hnn, (fun h => Bool.noConfusion h), fun _ => HO.out⟩
          case measure => simp [intOf]; omega
      · have HV : Hid (nn = val 0 s.data.toList) := by
          show _ = _
          rw [← H1.out rfl, List.drop_eq_nil_of_le (by rw [← HZ.out]; omega)]
          exact (val_nil nn).symm
        have hF := HF.out
        have hG := HG.out
        rw [← HV.out] at hF hG
        have HF2 : Hid (F = true ↔ (nn : Int) * u + t ≤ 9223372036854775807) := hF
        have HG2 : Hid (F = true → g = (nn : Int) * u + t) := hG
        clear hF hG HF HG H1 H2 HV HD
        obtain ⟨un, rfl⟩ : ∃ un : Nat, u = un := ⟨u.toNat, by omega⟩
        have C12 : Hid (Calls Tryd.prog 12 #[.int .u64 nn, .int .u64 un] w2 fun e w' => e = .returned (.tuple #[.int .u64 ((nn : Int) * un / 18446744073709551616), .int .u64 ((nn : Int) * un % 18446744073709551616)]) ∧ w' = w2) := mul_any nn un w2 (by omega) (by omega)
        have hP0 : 0 ≤ (nn : Int) * un := Int.mul_nonneg (by omega) (by omega)
        have hP1 : (nn : Int) * un ≤ 9223372036854775807 * 9223372036854775807 := Int.mul_le_mul (by omega) (by omega) (by omega) (by omega)
        generalize (nn : Int) * un = P at *
        have hs1 : IntKind.i64.wrap t = t := by rw [IntKind.wrap_i64]; omega
        have hH0 : 0 ≤ P / 18446744073709551616 := by omega
        have hH1 : P / 18446744073709551616 ≤ 4611686018427387904 := by omega
        have hL0 : 0 ≤ P % 18446744073709551616 := by omega
        have hL1 : P % 18446744073709551616 ≤ 18446744073709551615 := by omega
        have HPd : Hid (P = P / 18446744073709551616 * 18446744073709551616 + P % 18446744073709551616) := by show _ = _; omega
        generalize P / 18446744073709551616 = Hh at *
        generalize P % 18446744073709551616 = Lo at *
        clear hP0 hP1
        go_wp2_with fail
        refine C12.out.mono ?_
        rintro e w3 ⟨rfl, rfl⟩
        clear C12
        cases F with
        | true =>
          have hf := HF2.out.1 rfl
          have hg := HG2.out rfl
          have hp := HPd.out
          have hh : Hh = 0 := by omega
          subst hh
          have hp2 : P = Lo := by omega
          subst hp2
          subst hg
          clear hp HF2 HG2 HPd
          go_wp2
          go_ret
          exact ⟨ret_bool (by simp), HB.out⟩
        | false =>
          have hf : 9223372036854775807 < P + t := by
            have h := HF2.out
            simp at h
            omega
          have HNf : Hid (9223372036854775807 < P + t) := hf
          clear hf HF2 HG2
          by_cases c1 : Lo + t ≤ 18446744073709551615
          · by_cases c2 : Hh = 0
            · subst c2
              have c3 : 9223372036854775807 < Lo + t := by have := HNf.out; have := HPd.out; omega
              go_wp2
              go_ret
              exact ⟨rfl, HB.out⟩
            · go_wp2
              go_ret
              exact ⟨rfl, HB.out⟩
          · have hwr : IntKind.u64.wrap (Lo + t) = Lo + t - 18446744073709551616 := by rw [wrapU]; omega
            go_wp2
            go_ret
            exact ⟨rfl, HB.out⟩

set_option maxHeartbeats 1000000 in
theorem law4 (t u : Int) (s : ByteArray) (w : World) (hm : s.size ≤ maxLen) (h0 : -9223372036854775808 ≤ t) (h1 : t ≤ 9223372036854775807) (hu0 : -9223372036854775808 ≤ u) (hu1 : u ≤ 9223372036854775807) (hE : Err w) :
    Calls Tryd.prog 4 #[.int .i64 t, .string s, .int .i64 u] w fun e w' => e = .returned (.bool true) ∧ Below w.heap.size w w' := by
  unfold maxLen at hm
  by_cases hs : s.size ≤ 1048576
  case neg =>
    clear hE
    go_enter Tryd.func4, Tryd.ntmps4
    go_wp2_with (go_at_call 9; go_in)
    go_ret
    exact ⟨rfl, Below.refl _ _⟩
  by_cases ht : t < 0
  case pos =>
    clear hE
    go_enter Tryd.func4, Tryd.ntmps4
    go_wp2_with (go_at_call 9; go_in)
    go_ret
    exact ⟨rfl, Below.refl _ _⟩
  by_cases hu : u ≤ 0
  case pos =>
    clear hE
    go_enter Tryd.func4, Tryd.ntmps4
    go_wp2_with (go_at_call 9; go_in)
    go_ret
    exact ⟨rfl, Below.refl _ _⟩
  cases hd : allDigits s.data.toList with
  | true => exact law4_go t u s w hs (by omega) h1 (by omega) hu1 hd hE
  | false =>
    have C10 : Hid (Calls Tryd.prog 10 #[.string s] w fun e w' => e = .returned (.bool false) ∧ w' = w) := by
      have h := allDigits_any s w hs
      rw [hd] at h; exact h
    clear hE hd
    go_enter Tryd.func4, Tryd.ntmps4
    go_wp2_with (go_at_call 9; go_in)
    refine C10.out.mono ?_
    rintro e w1 ⟨rfl, rfl⟩
    go_wp2
    go_ret
    exact ⟨rfl, Below.refl _ _⟩
end Go.Proofs.Qxb6002344aDoor.Units
