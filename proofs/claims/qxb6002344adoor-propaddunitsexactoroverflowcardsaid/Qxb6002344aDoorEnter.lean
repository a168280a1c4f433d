/- THE HEAVY CLOSED FACTS OF THE PROGRAM, ONCE, IN A TEXT OF THEIR OWN (seat b6002344aD). -/
import Derived.Test.Qxb6002344aDoorRows
import Derived.JoinedOf
namespace Go.Proofs.Qxb6002344aDoor.Enter

theorem and_mk {a b : Bool} (h : a = true) (k : b = true) : (a && b) = true := by rw [h, k]; rfl

theorem heavy : (Tryd.prog.mayEnter && (Rows.propAppendQuantifierFormRow.lifted == Tryd.prog.liftsFinal) && (Tryd.prog.make == some Rows.propAppendQuantifierFormRow.make)) = true := by kernel_rfl

theorem enter : Tryd.prog.mayEnter = true := by have h := heavy; rw [Bool.and_eq_true, Bool.and_eq_true] at h; exact h.1.1
theorem lifts : (Rows.propAppendQuantifierFormRow.lifted == Tryd.prog.liftsFinal) = true := by have h := heavy; rw [Bool.and_eq_true, Bool.and_eq_true] at h; exact h.1.2
theorem makes : (Tryd.prog.make == some Rows.propAppendQuantifierFormRow.make) = true := by have h := heavy; rw [Bool.and_eq_true, Bool.and_eq_true] at h; exact h.2

end Go.Proofs.Qxb6002344aDoor.Enter
