/- THE WALKS OF join, c1Kappa (seat b6002344a). -/
import Derived.Test.Qxb6002344aProg
import Derived.WalkKit
import Derived.RowKit3
namespace Go.Proofs.Qxb6002344a.Join
open Go.RowKit

def iof (d : Int) : Int := if 3 ≤ d ∧ d ≤ 5 then d else if d = 1 then 4 else 3
def jn (a b : Int) : Int := if a = 0 then b else if b = 0 then a else if iof a = iof b then a else 5
def kap (d : Int) : Int := if d = 1 ∨ d = 4 then 1 else if d = 2 ∨ d = 3 then 2 else if d = 5 then 3 else 0

theorem six {a : Int} (h0 : 0 ≤ a) (h5 : a ≤ 5) : a = 0 ∨ a = 1 ∨ a = 2 ∨ a = 3 ∨ a = 4 ∨ a = 5 := by omega

theorem iof_any (d : Int) (w : World) (h0 : 0 ≤ d) (h5 : d ≤ 5) :
    Calls Try.prog 49 #[.int .u8 d] w fun e w' => e = .returned (.int .u8 (iof d)) ∧ w' = w := by
  rcases six h0 h5 with rfl | rfl | rfl | rfl | rfl | rfl
  all_goals
    go_enter Try.func49, Try.ntmps49
    go_wp2
    go_ret
    exact ⟨rfl, rfl⟩

theorem kap_any (d : Int) (w : World) (h0 : 0 ≤ d) (h5 : d ≤ 5) :
    Calls Try.prog 12 #[.int .u8 d] w fun e w' => e = .returned (.int .i64 (kap d)) ∧ w' = w := by
  rcases six h0 h5 with rfl | rfl | rfl | rfl | rfl | rfl
  all_goals
    go_enter Try.func12, Try.ntmps12
    go_wp2
    go_ret
    exact ⟨rfl, rfl⟩

theorem jn_any (a b : Int) (w : World) (a0 : 0 ≤ a) (a5 : a ≤ 5) (b0 : 0 ≤ b) (b5 : b ≤ 5) :
    Calls Try.prog 11 #[.int .u8 a, .int .u8 b] w fun e w' => e = .returned (.int .u8 (jn a b)) ∧ w' = w := by
  by_cases ha : a = 0
  · subst ha
    go_enter Try.func11, Try.ntmps11
    go_wp2
    go_ret
    exact ⟨rfl, rfl⟩
  · have ha' : (a == 0) = false := by simpa using ha
    by_cases hb : b = 0
    · subst hb
      have e : jn a 0 = a := by unfold jn; simp [ha]
      rw [e]
      go_enter Try.func11, Try.ntmps11
      go_wp2
      go_ret
      exact ⟨rfl, rfl⟩
    · have hb' : (b == 0) = false := by simpa using hb
      by_cases hi : iof a = iof b
      · have hi' : (iof a == iof b) = true := by simpa using hi
        have e : jn a b = a := by unfold jn; simp [ha, hb, hi]
        rw [e]
        clear hi e ha hb
        go_enter Try.func11, Try.ntmps11
        go_wp2_with (first | (go_at_call 40; go_in) | (go_at_call 49; refine (iof_any _ _ (by omega) (by omega)).mono ?_; rintro e w' ⟨rfl, rfl⟩))
        go_ret
        exact ⟨rfl, rfl⟩
      · have hi' : (iof a == iof b) = false := by simpa using hi
        have e : jn a b = 5 := by unfold jn; simp [ha, hb, hi]
        rw [e]
        clear hi e ha hb
        go_enter Try.func11, Try.ntmps11
        go_wp2_with (first | (go_at_call 40; go_in) | (go_at_call 49; refine (iof_any _ _ (by omega) (by omega)).mono ?_; rintro e w' ⟨rfl, rfl⟩))
        go_ret
        exact ⟨rfl, rfl⟩

end Go.Proofs.Qxb6002344a.Join
