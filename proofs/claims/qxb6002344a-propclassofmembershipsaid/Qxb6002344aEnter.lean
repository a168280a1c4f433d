/- THE HEAVY CLOSED FACTS OF THE PROGRAM, ONCE, IN A TEXT OF THEIR OWN (seat b6002344a): the kernel's memory for them is given back ahead of the rows. -/
import Derived.Test.Qxb6002344aRows
import Derived.JoinedOf
namespace Go.Proofs.Qxb6002344a.Enter

theorem and_mk {a b : Bool} (h : a = true) (k : b = true) : (a && b) = true := by rw [h, k]; rfl

theorem heavy : (Try.prog.mayEnter && (Rows.propJoinUnionsKindsAssociativeWithIdentityRow.lifted == Try.prog.liftsFinal) && (Try.prog.make == some Rows.propJoinUnionsKindsAssociativeWithIdentityRow.make)) = true := by kernel_rfl

theorem enter : Try.prog.mayEnter = true := by have h := heavy; rw [Bool.and_eq_true, Bool.and_eq_true] at h; exact h.1.1
theorem lifts : (Rows.propJoinUnionsKindsAssociativeWithIdentityRow.lifted == Try.prog.liftsFinal) = true := by have h := heavy; rw [Bool.and_eq_true, Bool.and_eq_true] at h; exact h.1.2
theorem makes : (Try.prog.make == some Rows.propJoinUnionsKindsAssociativeWithIdentityRow.make) = true := by have h := heavy; rw [Bool.and_eq_true, Bool.and_eq_true] at h; exact h.2

end Go.Proofs.Qxb6002344a.Enter
