/- THE WALK OF zzc5Mul64 (seat b6002344aD). -/
import Derived.Test.Qxb6002344aDoorProg
import Derived.Test.Qxb6002344aDoorVal
import Derived.WalkKit
import Derived.Below
import Derived.Laws.MathBits
set_option linter.unusedVariables false
namespace Go.Proofs.Qxb6002344aDoor.Units
open Go.RowKit

theorem wrapU (z : Int) : IntKind.u64.wrap z = z % 18446744073709551616 := by simp [IntKind.wrap, IntKind.bits, IntKind.signed]
theorem wrapU_id {z : Int} (h0 : 0 ≤ z) (h1 : z ≤ 18446744073709551615) : IntKind.u64.wrap z = z := by rw [wrapU]; omega

/-- What the walk writes for the high half. -/
theorem mul_high (x y : Int) (hx0 : 0 ≤ x) (hx : x ≤ 18446744073709551615) (hy0 : 0 ≤ y) (hy : y ≤ 18446744073709551615) :
    IntKind.u64.wrap (IntKind.u64.wrap (IntKind.u64.wrap (x / 4294967296 * (y / 4294967296)) + IntKind.u64.wrap (IntKind.u64.wrap (x / 4294967296 * bits BinOp.and IntKind.u64 y 4294967295) + IntKind.u64.wrap (bits BinOp.and IntKind.u64 x 4294967295 * bits BinOp.and IntKind.u64 y 4294967295) / 4294967296) / 4294967296) +
      IntKind.u64.wrap (bits BinOp.and IntKind.u64 (IntKind.u64.wrap (IntKind.u64.wrap (x / 4294967296 * bits BinOp.and IntKind.u64 y 4294967295) + IntKind.u64.wrap (bits BinOp.and IntKind.u64 x 4294967295 * bits BinOp.and IntKind.u64 y 4294967295) / 4294967296)) 4294967295 + IntKind.u64.wrap (bits BinOp.and IntKind.u64 x 4294967295 * (y / 4294967296))) / 4294967296)
    = x * y / 18446744073709551616 := by
  rw [and_low32 x hx0 (by omega), and_low32 y hy0 (by omega)]
  have H := halves x y
  have hP := high H
  have b11 := prod_bound (a := x / 4294967296) (b := y / 4294967296) (by omega) (by omega)
  have b10 := prod_bound (a := x / 4294967296) (b := y % 4294967296) (by omega) (by omega)
  have b01 := prod_bound (a := x % 4294967296) (b := y / 4294967296) (by omega) (by omega)
  have b00 := prod_bound (a := x % 4294967296) (b := y % 4294967296) (by omega) (by omega)
  generalize x / 4294967296 * (y / 4294967296) = p11 at *
  generalize x / 4294967296 * (y % 4294967296) = p10 at *
  generalize x % 4294967296 * (y / 4294967296) = p01 at *
  generalize x % 4294967296 * (y % 4294967296) = p00 at *
  generalize x * y = P at *
  rw [wrapU_id b11.1 (by omega), wrapU_id b10.1 (by omega), wrapU_id b01.1 (by omega), wrapU_id b00.1 (by omega)]
  have e1 : IntKind.u64.wrap (p10 + p00 / 4294967296) = p10 + p00 / 4294967296 := wrapU_id (by omega) (by omega)
  rw [e1, and_low32 _ (by omega) (by omega)]
  have e2 : IntKind.u64.wrap ((p10 + p00 / 4294967296) % 4294967296 + p01) = (p10 + p00 / 4294967296) % 4294967296 + p01 := wrapU_id (by omega) (by omega)
  have e3 : IntKind.u64.wrap (p11 + (p10 + p00 / 4294967296) / 4294967296) = p11 + (p10 + p00 / 4294967296) / 4294967296 := wrapU_id (by omega) (by omega)
  rw [e2, e3, ← hP]
  exact wrapU_id (by omega) (by omega)

theorem ret_two {a b c d : Int} {k : IntKind} (h1 : a = c) (h2 : b = d) : Ending.returned (.tuple #[.int k a, .int k b]) = .returned (.tuple #[.int k c, .int k d]) := by rw [h1, h2]

set_option maxHeartbeats 1000000 in
theorem mul_any (x y : Nat) (w : World) (hx : x ≤ 18446744073709551615) (hy : y ≤ 18446744073709551615) :
    Calls Tryd.prog 12 #[.int .u64 x, .int .u64 y] w fun e w' => e = .returned (.tuple #[.int .u64 ((x : Int) * y / 18446744073709551616), .int .u64 ((x : Int) * y % 18446744073709551616)]) ∧ w' = w := by
  go_enter Tryd.func12, Tryd.ntmps12
  go_wp2
  go_ret2
  exact ⟨ret_two (mul_high x y (by omega) (by omega) (by omega) (by omega)) (wrapU _), rfl⟩
end Go.Proofs.Qxb6002344aDoor.Units
