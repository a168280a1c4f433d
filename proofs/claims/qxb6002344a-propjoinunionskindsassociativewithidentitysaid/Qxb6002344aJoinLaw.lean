/- THE LAW's WALK: PropJoinUnionsKindsAssociativeWithIdentity (seat b6002344a). -/
import Derived.Test.Qxb6002344aJoin
namespace Go.Proofs.Qxb6002344a.Join
open Go.RowKit

theorem jn_range {a b : Int} (a0 : 0 ≤ a) (a5 : a ≤ 5) (b0 : 0 ≤ b) (b5 : b ≤ 5) : 0 ≤ jn a b ∧ jn a b ≤ 5 := by
  rcases six a0 a5 with rfl | rfl | rfl | rfl | rfl | rfl <;> rcases six b0 b5 with rfl | rfl | rfl | rfl | rfl | rfl <;> decide

theorem f1 {a b : Int} (a0 : 0 ≤ a) (a5 : a ≤ 5) (b0 : 0 ≤ b) (b5 : b ≤ 5) : (kap (jn a b) != bits BinOp.or IntKind.i64 (kap a) (kap b)) = false := by
  rcases six a0 a5 with rfl | rfl | rfl | rfl | rfl | rfl <;> rcases six b0 b5 with rfl | rfl | rfl | rfl | rfl | rfl <;> rfl
theorem f2 {a b c : Int} (a0 : 0 ≤ a) (a5 : a ≤ 5) (b0 : 0 ≤ b) (b5 : b ≤ 5) (c0 : 0 ≤ c) (c5 : c ≤ 5) : (jn (jn a b) c != jn a (jn b c)) = false := by
  rcases six a0 a5 with rfl | rfl | rfl | rfl | rfl | rfl <;> rcases six b0 b5 with rfl | rfl | rfl | rfl | rfl | rfl <;> rcases six c0 c5 with rfl | rfl | rfl | rfl | rfl | rfl <;> rfl
theorem f3 {a : Int} (a0 : 0 ≤ a) (a5 : a ≤ 5) : (jn a 0 != a) = false := by
  rcases six a0 a5 with rfl | rfl | rfl | rfl | rfl | rfl <;> rfl
theorem f4 {a b : Int} (a0 : 0 ≤ a) (a5 : a ≤ 5) (b0 : 0 ≤ b) (b5 : b ≤ 5) : jn a b = a ∨ jn a b = b ∨ jn a b = 5 := by
  rcases six a0 a5 with rfl | rfl | rfl | rfl | rfl | rfl <;> rcases six b0 b5 with rfl | rfl | rfl | rfl | rfl | rfl <;> decide
theorem f5 {a b : Int} (a0 : 0 ≤ a) (a5 : a ≤ 5) (b0 : 0 ≤ b) (b5 : b ≤ 5) : (kap (jn a b) == kap (jn b a)) = true := by
  rcases six a0 a5 with rfl | rfl | rfl | rfl | rfl | rfl <;> rcases six b0 b5 with rfl | rfl | rfl | rfl | rfl | rfl <;> rfl
theorem ret_bool {a b : Bool} (h : a = b) : Ending.returned (.bool a) = .returned (.bool b) := by rw [h]

set_option maxHeartbeats 400000 in
theorem law_in (a b c : Int) (w : World) (a0 : 0 ≤ a) (a5 : a ≤ 5) (b0 : 0 ≤ b) (b5 : b ≤ 5) (c0 : 0 ≤ c) (c5 : c ≤ 5) :
    Calls Try.prog 3 #[.int .u8 a, .int .u8 b, .int .u8 c] w fun e w' => e = .returned (.bool true) ∧ w' = w := by
  have hab := jn_range a0 a5 b0 b5
  have hbc := jn_range b0 b5 c0 c5
  have hba := jn_range b0 b5 a0 a5
  have g1 := f1 a0 a5 b0 b5
  have g2 := f2 a0 a5 b0 b5 c0 c5
  have g3 := f3 a0 a5
  have G4 : Hid (jn a b = a ∨ jn a b = b ∨ jn a b = 5) := f4 a0 a5 b0 b5
  have G5 : Hid ((kap (jn a b) == kap (jn b a)) = true) := f5 a0 a5 b0 b5
  go_enter Try.func3, Try.ntmps3
  go_wp2_with (first | (go_at_call 11; refine (jn_any _ _ _ (by omega) (by omega) (by omega) (by omega)).mono ?_; rintro e w' ⟨rfl, rfl⟩) | (go_at_call 12; refine (kap_any _ _ (by omega) (by omega)).mono ?_; rintro e w' ⟨rfl, rfl⟩))
  · go_ret
    have h := G5.out
    rw [‹jn a b = a›] at h
    exact ⟨ret_bool h, rfl⟩
  · go_ret
    have h := G5.out
    rw [‹jn a b = b›] at h
    exact ⟨ret_bool h, rfl⟩
  · exfalso
    rename_i h
    have h4 := G4.out
    simp at h
    omega
  · go_ret
    exact ⟨ret_bool G5.out, rfl⟩

theorem law_out (a b c : Int) (w : World) (h : 5 < a ∨ 5 < b ∨ 5 < c) :
    Calls Try.prog 3 #[.int .u8 a, .int .u8 b, .int .u8 c] w fun e w' => e = .returned (.bool true) ∧ w' = w := by
  by_cases ha : 5 < a
  · go_enter Try.func3, Try.ntmps3
    go_wp2
    go_ret
    exact ⟨rfl, rfl⟩
  · by_cases hb : 5 < b
    · go_enter Try.func3, Try.ntmps3
      go_wp2
      go_ret
      exact ⟨rfl, rfl⟩
    · have hc : 5 < c := by omega
      go_enter Try.func3, Try.ntmps3
      go_wp2
      go_ret
      exact ⟨rfl, rfl⟩
end Go.Proofs.Qxb6002344a.Join
