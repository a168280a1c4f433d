/- THE WALKS OF zzc5AllDigits, addUnits, ZZAddUnits (seat b6002344aD). -/
import Derived.Test.Qxb6002344aDoorShelf
import Derived.Test.Qxb6002344aDoorMul
import Derived.LoopTactic
import Derived.Lib.Bytealg
import Derived.Lib.SmallJoins
set_option linter.unusedVariables false
namespace Go.Proofs.Qxb6002344aDoor.Units
open Go.RowKit

theorem ret_bool {a b : Bool} (h : a = b) : Ending.returned (.bool a) = .returned (.bool b) := by rw [h]
theorem byte_getD (s : ByteArray) (k : Nat) (h : k < s.size) : s[k] = s.data.toList.getD k 48 := by
  have h' : k < s.data.toList.length := by rw [← Lib.size_eq]; exact h
  rw [List.getD_eq_getElem?_getD, List.getElem?_eq_getElem h']; rfl
theorem drop_byte (s : ByteArray) (k : Nat) (h : k < s.size) : s.data.toList.drop k = s[k] :: s.data.toList.drop (k + 1) := by
  have h' : k < s.data.toList.length := by rw [← Lib.size_eq]; exact h
  rw [List.drop_eq_getElem_cons h']; rfl

set_option maxHeartbeats 400000 in
theorem allDigits_any (s : ByteArray) (w : World) (hs : s.size ≤ 1048576) :
    Calls Tryd.prog 10 #[.string s] w fun e w' => e = .returned (.bool (allDigits s.data.toList)) ∧ w' = w := by
  have HZ : Hid (s.size = s.data.toList.length) := Lib.size_eq s
  go_enter Tryd.func10, Tryd.ntmps10
  go_wp2
  go_loop [3] (fun i => ∃ k : Nat, k ≤ s.size ∧ i = .int .i64 k ∧ Hid (allDigits (s.data.toList.drop k) = allDigits s.data.toList)) (fun i => s.size - (intOf i).toNat)
  case atStart => exact ⟨0, Nat.zero_le _, rfl, rfl⟩
  case round =>
    obtain ⟨k, hk, rfl, H⟩ := hrel
    by_cases hlt : k < s.size
    · have HD : Hid _ := drop_byte s k hlt
      by_cases h1 : s[k].toNat < 48
      · have HN : Hid (false = allDigits s.data.toList) := by
          show _ = _
          rw [← H.out, HD.out]
          have : digit s[k] = false := by unfold digit; simp; omega
          simp [allDigits, this]
        go_wp2
        go_ret
        exact ⟨ret_bool HN.out, rfl⟩
      by_cases h2 : 57 < s[k].toNat
      · have HN : Hid (false = allDigits s.data.toList) := by
          show _ = _
          rw [← H.out, HD.out]
          have : digit s[k] = false := by unfold digit; simp; omega
          simp [allDigits, this]
        go_wp2
        go_ret
        exact ⟨ret_bool HN.out, rfl⟩
      have HN : Hid (allDigits (s.data.toList.drop (k + 1)) = allDigits s.data.toList) := by
        show _ = _
        rw [← H.out, HD.out]
        have : digit s[k] = true := by unfold digit; simp; omega
        simp [allDigits, this]
      go_wp2
      go_round
      case rel => exact ⟨k + 1, by omega, by go_num, HN⟩
      case measure => simp [intOf]; omega
    · have HN : Hid (true = allDigits s.data.toList) := by
        show _ = _
        rw [← H.out, List.drop_eq_nil_of_le (by rw [← HZ.out]; omega)]; rfl
      go_wp2
      go_ret
      exact ⟨ret_bool HN.out, rfl⟩

/-- strconv.ErrRange is an interface value. -/
def Err (w : World) : Prop := ∃ tp p, w.var? Tryd.prog "strconv.ErrRange" = some #[.iface tp p]

theorem parse_ok (s : ByteArray) (w : World) (hs : s.size ≤ 1048576) (hne : s.size ≠ 0) (hd : allDigits s.data.toList = true) (hv : val 0 s.data.toList ≤ 9223372036854775807) :
    Calls Tryd.prog 16 #[.string s, .int .i64 10, .int .i64 64] w fun e w' => e = .returned (.tuple #[.int .i64 (val 0 s.data.toList : Int), .nilIface]) ∧ Below w.heap.size w w' := by
  have hl : s.data.toList ≠ [] := by intro h; have h2 := Lib.size_eq s; rw [h] at h2; exact hne h2
  have h := Any.strconv_ParseInt_10_at64_ok Tryd.layParse s (by omega) (val 0 s.data.toList : Int) (by rw [pI hl hd, if_pos hv]) w
  change Calls Tryd.prog 16 _ _ _ at h
  refine h.mono ?_
  rintro e w' ⟨rfl, hw⟩
  refine ⟨rfl, ?_⟩
  rcases hw with rfl | ⟨t, rfl⟩
  · exact Below.refl _ _
  · exact Go.Joins.below_bytesWorld _ _ _ _ (Nat.le_refl _)
theorem parse_range (s : ByteArray) (w : World) (hs : s.size ≤ 1048576) (hne : s.size ≠ 0) (hd : allDigits s.data.toList = true) (hv : ¬ val 0 s.data.toList ≤ 9223372036854775807) (he : Err w) :
    Calls Tryd.prog 16 #[.string s, .int .i64 10, .int .i64 64] w fun e w' => ∃ N T x, e = .returned (.tuple #[.int .i64 N, .iface T x]) ∧ Below w.heap.size w w' := by
  have hl : s.data.toList ≠ [] := by intro h; have h2 := Lib.size_eq s; rw [h] at h2; exact hne h2
  obtain ⟨tp, p, hvar⟩ := he
  have h := Any.strconv_ParseInt_10_at64_range_var Tryd.layParse s (by omega) (by rw [pI hl hd, if_neg hv]) tp p w hvar
  change Calls Tryd.prog 16 _ _ _ at h
  refine h.mono ?_
  rintro e w' ⟨N, rfl, _, _, hb⟩
  exact ⟨_, _, _, rfl, hb⟩

theorem not_empty {s : ByteArray} (h : ¬ s.size = 0) : s.toList.isEmpty = false := by
  rw [Lib.toList_data]
  have h2 := Lib.size_eq s
  cases hl : s.data.toList with
  | nil => rw [hl] at h2; exact absurd h2 h
  | cons a b => rfl
theorem tdiv_eq {t u : Int} (h1 : t ≤ 9223372036854775807) : (9223372036854775807 - t).tdiv u = (9223372036854775807 - t) / u := by rw [Int.tdiv_eq_ediv_of_nonneg (by omega)]

theorem div_bounds {t u : Int} (h0 : 0 ≤ t) (h1 : t ≤ 9223372036854775807) (hu : 0 < u) : 0 ≤ (9223372036854775807 - t) / u ∧ (9223372036854775807 - t) / u ≤ 9223372036854775807 :=
  ⟨Int.ediv_nonneg (by omega) (by omega), Int.le_trans (Int.ediv_le_self _ (by omega)) (by omega)⟩
theorem ret_sum {a b : Int} (h : a = b) : Ending.returned (.tuple #[.int .i64 a, .bool true]) = .returned (.tuple #[.int .i64 b, .bool true]) := by rw [h]

set_option maxHeartbeats 1000000 in
theorem add_yes (t u : Int) (s : ByteArray) (w : World) (hs : s.size ≤ 1048576) (h0 : 0 ≤ t) (h1 : t ≤ 9223372036854775807) (hu0 : 0 < u) (hu1 : u ≤ 9223372036854775807) (hd : allDigits s.data.toList = true)
    (hf : (val 0 s.data.toList : Int) * u + t ≤ 9223372036854775807) :
    Calls Tryd.prog 14 #[.int .i64 t, .string s, .int .i64 u] w fun e w' => e = .returned (.tuple #[.int .i64 ((val 0 s.data.toList : Int) * u + t), .bool true]) ∧ Below w.heap.size w w' := by
  by_cases hne : s.size = 0
  · have hl : s.data.toList = [] := by have := Lib.size_eq s; exact List.eq_nil_of_length_eq_zero (by omega)
    have hs0 : s = ByteArray.empty := by
      cases s; rename_i d; cases d; simp at hl; subst hl; rfl
    subst hs0
    have e : ((val 0 ByteArray.empty.data.toList : Nat) : Int) * u + t = t := by
      show (0 : Int) * u + t = t
      omega
    rw [e]
    clear e hf hd hl hne
    go_enter Tryd.func14, Tryd.ntmps14
    go_wp2
    go_ret2
    exact ⟨rfl, Below.refl _ _⟩
  · have hv := fits_val h0 hu0 (by omega) hf
    have C : Hid (Calls Tryd.prog 16 #[.string s, .int .i64 10, .int .i64 64] w fun e w' => e = .returned (.tuple #[.int .i64 (val 0 s.data.toList : Int), .nilIface]) ∧ Below w.heap.size w w') := parse_ok s w hs hne hd (by omega)
    have hq : (val 0 s.data.toList : Int) ≤ (9223372036854775807 - t) / u := (fits hu0).2 hf
    have he := not_empty hne
    have hV0 : (0 : Int) ≤ (val 0 s.data.toList : Int) := by omega
    clear hd
    generalize val 0 s.data.toList = V at *
    have hm : 0 ≤ (V : Int) * u := Int.mul_nonneg hV0 (by omega)
    have hw1 : IntKind.i64.wrap ((V : Int) * u) = (V : Int) * u := by rw [IntKind.wrap_i64]; omega
    have hw2 : IntKind.i64.wrap (t + (V : Int) * u) = t + (V : Int) * u := by rw [IntKind.wrap_i64]; omega
    have hdv := tdiv_eq (t := t) (u := u) h1
    have hdb := div_bounds (u := u) h0 h1 hu0
    generalize (9223372036854775807 - t) / u = D at *
    have hu2 : u ≠ 0 := by omega
    have HF : Hid ((V : Int) * u + t ≤ 9223372036854775807) := hf
    clear hf
    go_enter Tryd.func14, Tryd.ntmps14
    go_wp2_with fail
    refine C.out.mono ?_
    rintro e w1 ⟨rfl, hb⟩
    have HB : Hid (Below w.heap.size w w1) := hb
    clear hb C
    go_wp2
    go_ret2
    exact ⟨ret_sum (by omega), HB.out⟩

set_option maxHeartbeats 1000000 in
theorem add_no (t u : Int) (s : ByteArray) (w : World) (hs : s.size ≤ 1048576) (h0 : 0 ≤ t) (h1 : t ≤ 9223372036854775807) (hu0 : 0 < u) (hu1 : u ≤ 9223372036854775807) (hd : allDigits s.data.toList = true) (hE : Err w)
    (hf : ¬ (val 0 s.data.toList : Int) * u + t ≤ 9223372036854775807) :
    Calls Tryd.prog 14 #[.int .i64 t, .string s, .int .i64 u] w fun e w' => e = .returned (.tuple #[.int .i64 0, .bool false]) ∧ Below w.heap.size w w' := by
  have hne : ¬ s.size = 0 := by
    intro h
    have hl : s.data.toList = [] := by have h2 := Lib.size_eq s; exact List.eq_nil_of_length_eq_zero (by omega)
    rw [hl] at hf
    have e : ((val 0 [] : Nat) : Int) * u + t = t := by
      show (0 : Int) * u + t = t
      omega
    rw [e] at hf
    exact hf h1
  have he := not_empty hne
  have hdv := tdiv_eq (t := t) (u := u) h1
  have hdb := div_bounds (u := u) h0 h1 hu0
  have hu2 : u ≠ 0 := by omega
  by_cases hv : val 0 s.data.toList ≤ 9223372036854775807
  · have C : Hid (Calls Tryd.prog 16 #[.string s, .int .i64 10, .int .i64 64] w fun e w' => e = .returned (.tuple #[.int .i64 (val 0 s.data.toList : Int), .nilIface]) ∧ Below w.heap.size w w') := parse_ok s w hs hne hd hv
    have hq : (9223372036854775807 - t) / u < (val 0 s.data.toList : Int) := by
      have h := (not_congr (fits (t := t) (V := (val 0 s.data.toList : Int)) hu0)).2 hf
      omega
    clear hd hf hE
    generalize val 0 s.data.toList = V at *
    generalize (9223372036854775807 - t) / u = D at *
    go_enter Tryd.func14, Tryd.ntmps14
    go_wp2_with fail
    refine C.out.mono ?_
    rintro e w1 ⟨rfl, hb⟩
    have HB : Hid (Below w.heap.size w w1) := hb
    clear hb C
    go_wp2
    go_ret2
    exact ⟨rfl, HB.out⟩
  · have C : Hid (Calls Tryd.prog 16 #[.string s, .int .i64 10, .int .i64 64] w fun e w' => ∃ N T x, e = .returned (.tuple #[.int .i64 N, .iface T x]) ∧ Below w.heap.size w w') := parse_range s w hs hne hd hv hE
    clear hd hf hE hv hdv hdb
    go_enter Tryd.func14, Tryd.ntmps14
    go_wp2_with fail
    refine C.out.mono ?_
    rintro e w1 ⟨N, T, x, rfl, hb⟩
    have HB : Hid (Below w.heap.size w w1) := hb
    clear hb C
    go_wp2
    go_ret2
    exact ⟨rfl, HB.out⟩

/-- ZZAddUnits. -/
theorem zzadd_any (t u : Int) (s : ByteArray) (w : World) (hs : s.size ≤ 1048576) (h0 : 0 ≤ t) (h1 : t ≤ 9223372036854775807) (hu0 : 0 < u) (hu1 : u ≤ 9223372036854775807) (hd : allDigits s.data.toList = true) (hE : Err w) :
    Calls Tryd.prog 11 #[.int .i64 t, .string s, .int .i64 u] w fun e w' => ∃ g F, e = .returned (.tuple #[.int .i64 g, .bool F]) ∧ (F = true ↔ (val 0 s.data.toList : Int) * u + t ≤ 9223372036854775807) ∧ (F = true → g = (val 0 s.data.toList : Int) * u + t) ∧ Below w.heap.size w w' := by
  by_cases hf : (val 0 s.data.toList : Int) * u + t ≤ 9223372036854775807
  · have C : Hid (Calls Tryd.prog 14 #[.int .i64 t, .string s, .int .i64 u] w fun e w' => e = .returned (.tuple #[.int .i64 ((val 0 s.data.toList : Int) * u + t), .bool true]) ∧ Below w.heap.size w w') := add_yes t u s w hs h0 h1 hu0 hu1 hd hf
    have HF : Hid ((val 0 s.data.toList : Int) * u + t ≤ 9223372036854775807) := hf
    clear hf hd hE
    generalize (val 0 s.data.toList : Int) * u + t = G at *
    go_enter Tryd.func11, Tryd.ntmps11
    go_wp2_with fail
    refine C.out.mono ?_
    rintro e w1 ⟨rfl, hb⟩
    have HB : Hid (Below w.heap.size w w1) := hb
    clear hb C
    go_wp2
    go_ret2
    exact ⟨_, _, rfl, ⟨fun _ => HF.out, fun _ => rfl⟩, fun _ => rfl, HB.out⟩
  · have C : Hid (Calls Tryd.prog 14 #[.int .i64 t, .string s, .int .i64 u] w fun e w' => e = .returned (.tuple #[.int .i64 0, .bool false]) ∧ Below w.heap.size w w') := add_no t u s w hs h0 h1 hu0 hu1 hd hE hf
    have HF : Hid (¬ (val 0 s.data.toList : Int) * u + t ≤ 9223372036854775807) := hf
    clear hf hd hE
    go_enter Tryd.func11, Tryd.ntmps11
    go_wp2_with fail
    refine C.out.mono ?_
    rintro e w1 ⟨rfl, hb⟩
    have HB : Hid (Below w.heap.size w w1) := hb
    clear hb C
    go_wp2
    go_ret2
    exact ⟨_, _, rfl, ⟨(fun h => Bool.noConfusion h), (fun h => absurd HF.out (by omega))⟩, (fun h => Bool.noConfusion h), HB.out⟩
end Go.Proofs.Qxb6002344aDoor.Units
