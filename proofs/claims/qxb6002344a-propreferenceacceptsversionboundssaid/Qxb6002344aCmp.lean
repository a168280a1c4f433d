/- THE WALKS OF zzc5Sign, compareNumbers, AND THE LAW PropCompareNumbersDecimalSign (seat b6002344a). -/
import Derived.Test.Qxb6002344aNum
import Derived.Laws.Externs
namespace Go.Proofs.Qxb6002344a.Num
open Go.RowKit Dec

theorem sgn_any (x : Int) (w : World) :
    Calls Try.prog 32 #[.int .i64 x] w fun e w' => e = .returned (.int .i64 (sgn x)) ∧ w' = w := by
  by_cases h1 : x < 0
  · have e : sgn x = -1 := by unfold sgn; rw [if_pos h1]
    rw [e]
    go_enter Try.func32, Try.ntmps32
    go_wp2
    go_ret
    exact ⟨rfl, rfl⟩
  · by_cases h2 : 0 < x
    · have e : sgn x = 1 := by unfold sgn; rw [if_neg h1, if_pos h2]
      rw [e]
      clear e
      go_enter Try.func32, Try.ntmps32
      go_wp2
      go_ret
      exact ⟨rfl, rfl⟩
    · have e : sgn x = 0 := by unfold sgn; rw [if_neg h1, if_neg h2]
      rw [e]
      clear e
      go_enter Try.func32, Try.ntmps32
      go_wp2
      go_ret
      exact ⟨rfl, rfl⟩

theorem lex_eq : ∀ (a b : List UInt8), Lib.compareBytes a b = lex a b
  | [], [] => rfl
  | [], _ :: _ => rfl
  | _ :: _, [] => rfl
  | x :: a, y :: b => by
    unfold Lib.compareBytes
    rw [lex_cons, lex_eq a b]

theorem cmpStr_any (a b : ByteArray) (w : World) :
    Calls Try.prog 61 #[.string a, .string b] w fun e w' => e = .returned (.int .i64 (lex a.data.toList b.data.toList)) ∧ w' = w := by
  go_enter Try.func61, Try.ntmps61
  go_wp2
  rw [run_callFunc_extern Try.func65 (by kernel_rfl) (by kernel_rfl) (by kernel_rfl) (e := Extern.BytealgCompare.compare) (by kernel_rfl), Lib.run_compareString]
  simp only [Result.andThen]
  rw [Oper.upon_value]
  go_wp2
  go_ret
  exact ⟨ret_int (lex_eq _ _), rfl⟩

theorem cmpNum_any (a b : ByteArray) (w : World) (ha : a.size ≤ maxLen) (hb : b.size ≤ maxLen) :
    Calls Try.prog 46 #[.string a, .string b] w fun e w' => e = .returned (.int .i64 (cmpNum a.data.toList b.data.toList)) ∧ w' = w := by
  unfold maxLen at ha hb
  by_cases h : a.size = b.size
  · have E : Hid (lex a.data.toList b.data.toList = cmpNum a.data.toList b.data.toList) := by
      show _ = _
      unfold cmpNum
      rw [if_neg (by rw [← Lib.size_eq, ← Lib.size_eq]; simpa using h)]
    have h' : ((a.size : Int) != (b.size : Int)) = false := by simp [h]
    clear h
    go_enter Try.func46, Try.ntmps46
    go_wp2_with (first | (go_at_call 55; go_in) | (go_at_call 61; refine (cmpStr_any _ _ _).mono ?_; rintro e w' ⟨rfl, rfl⟩))
    go_ret
    exact ⟨ret_int E.out, rfl⟩
  · have E : Hid ((a.size : Int) - (b.size : Int) = cmpNum a.data.toList b.data.toList) := by
      show _ = _
      unfold cmpNum
      rw [if_pos (by rw [← Lib.size_eq, ← Lib.size_eq]; exact h), ← Lib.size_eq, ← Lib.size_eq]
    have h' : ((a.size : Int) != (b.size : Int)) = true := by simp; omega
    clear h
    go_enter Try.func46, Try.ntmps46
    go_wp2
    go_ret
    exact ⟨ret_int E.out, rfl⟩

set_option maxHeartbeats 400000 in
theorem law8 (a b : ByteArray) (w : World) (ha : a.size ≤ maxLen) (hb : b.size ≤ maxLen) :
    Calls Try.prog 8 #[.string a, .string b] w fun e w' => e = .returned (.bool true) ∧ w' = w := by
  by_cases h1 : a.size ≤ 1048576
  · by_cases h2 : a.size + b.size ≤ 1048576
    · cases na : isNum a.data.toList with
      | false =>
        unfold maxLen at ha hb
        go_enter Try.func8, Try.ntmps8
        go_wp2_with (first | (go_at_call 30; go_in) | (go_at_call 31; refine (isNum_any _ _ (by unfold maxLen; omega)).mono ?_; rintro e w' ⟨rfl, rfl⟩))
        go_ret
        exact ⟨rfl, rfl⟩
      | true =>
        cases nb : isNum b.data.toList with
        | false =>
          unfold maxLen at ha hb
          go_enter Try.func8, Try.ntmps8
          go_wp2_with (first | (go_at_call 30; go_in) | (go_at_call 31; refine (isNum_any _ _ (by unfold maxLen; omega)).mono ?_; rintro e w' ⟨rfl, rfl⟩))
          go_ret
          exact ⟨rfl, rfl⟩
        | true =>
          have E : Hid ((sgn (cmpNum a.data.toList b.data.toList) == decSign a.data.toList b.data.toList) = true) := by
            show _ = _
            rw [sgn_cmpNum na nb]; simp
          have DA : Hid (allDig a.data.toList = true) := isNum_allDig na
          have DB : Hid (allDig b.data.toList = true) := isNum_allDig nb
          unfold maxLen at ha hb
          go_enter Try.func8, Try.ntmps8
          go_wp2_with (first | (go_at_call 30; go_in) | (go_at_call 31; refine (isNum_any _ _ (by unfold maxLen; omega)).mono ?_; rintro e w' ⟨rfl, rfl⟩) | (go_at_call 33; go_in) | (go_at_call 46; refine (cmpNum_any _ _ _ (by unfold maxLen; omega) (by unfold maxLen; omega)).mono ?_; rintro e w' ⟨rfl, rfl⟩) | (go_at_call 32; refine (sgn_any _ _).mono ?_; rintro e w' ⟨rfl, rfl⟩) | (go_at_call 34; refine (decSign_any _ _ _ (by unfold maxLen; omega) (by unfold maxLen; omega) DA.out DB.out).mono ?_; rintro e w' ⟨rfl, rfl⟩))
          go_ret
          exact ⟨ret_bool E.out, rfl⟩
    · unfold maxLen at ha hb
      by_cases h3 : b.size ≤ 1048576
      · go_enter Try.func8, Try.ntmps8
        go_wp2
        go_ret
        exact ⟨rfl, rfl⟩
      · go_enter Try.func8, Try.ntmps8
        go_wp2
        go_ret
        exact ⟨rfl, rfl⟩
  · unfold maxLen at ha hb
    go_enter Try.func8, Try.ntmps8
    go_wp2
    go_ret
    exact ⟨rfl, rfl⟩
end Go.Proofs.Qxb6002344a.Num
