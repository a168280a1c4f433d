/- THE WALK OF ZZReferenceAccepts, (*reference).accepts (seat b6002344a). -/
import Derived.Test.Qxb6002344aCompare
import Derived.Test.Qxb6002344aMatch
import Derived.Test.Qxb6002344aCopy
import Derived.WalkSpells
import Derived.Deep.RegionWith
set_option linter.unusedVariables false
namespace Go.Proofs.Qxb6002344a.Num
open Go.RowKit Dec

/-- A row of strings that is there, in whatever later world. -/
def Row (w : World) (b off n : Nat) (p : List ByteArray) : Prop :=
  n = p.length ∧ n ≤ 1048576 ∧ (∀ j, j < n → w.cell? ⟨b, off + j, none⟩ = some (.string (p.getD j ByteArray.empty))) ∧ ∀ j, j < n → (p.getD j ByteArray.empty).size ≤ maxLen

theorem Row.later {w w' : World} {b off n : Nat} {p : List ByteArray} (h : Row w b off n p) (hb : Below w.heap.size w w') : Row w' b off n p := by
  obtain ⟨h1, h2, h3, h4⟩ := h
  refine ⟨h1, h2, fun j hj => ?_, h4⟩
  have := h3 j hj
  rw [hb.cell (cell_lt this)]; exact this

theorem match_row {w : World} {b off n c b2 off2 m c2 : Nat} {p v : List ByteArray} (hp : Row w b off n p) (hv : Row w b2 off2 m v) (hP : validP (bls p) = true) :
    Calls Try.prog 44 #[.slice (some ⟨b, off, none⟩) n c, .slice (some ⟨b2, off2, none⟩) m c2] w fun e w' => e = .returned (.bool (mB (bls p) (bls v))) ∧ w' = w :=
  match_any b off n c b2 off2 m c2 p v w (by have := hp.2.1; unfold maxLen; omega) (by have := hv.2.1; unfold maxLen; omega) hp.1 hv.1 hP hp.2.2.1 hv.2.2.1
theorem cmp_row {w : World} {b off n c b2 off2 m c2 : Nat} {g : Bool} {p v : List ByteArray} (hp : Row w b off n p) (hv : Row w b2 off2 m v) :
    Calls Try.prog 54 #[.slice (some ⟨b, off, none⟩) n c, .slice (some ⟨b2, off2, none⟩) m c2, .bool g] w fun e w' => e = .returned (.int .i64 (cmpV g (bls p) (bls v))) ∧ w' = w :=
  cmpV_any b off n c b2 off2 m c2 g p v w (by have := hp.2.1; unfold maxLen; omega) (by have := hv.2.1; unfold maxLen; omega) hp.1 hv.1 hp.2.2.1 hv.2.2.1 hp.2.2.2 hv.2.2.2

set_option maxHeartbeats 1000000 in
theorem acc_yyy (w : World) (b1 o1 n1 c1 b2 o2 n2 c2 b3 o3 n3 c3 b off m c : Nat) (p1 p2 p3 v : List ByteArray)
    (h1 : Row w b1 o1 n1 p1) (h2 : Row w b2 o2 n2 p2) (h3 : Row w b3 o3 n3 p3) (hv : Row w b off m v) (hP : validP (bls p1) = true) :
    Calls Try.prog 27 #[.slice (some ⟨b1, o1, none⟩) n1 c1, .slice (some ⟨b2, o2, none⟩) n2 c2, .slice (some ⟨b3, o3, none⟩) n3 c3, .slice (some ⟨b, off, none⟩) m c] w fun e w' =>
      e = .returned (.bool (mB (bls p1) (bls v) && decide (cmpV false (bls p2) (bls v) ≤ 0) && decide (0 ≤ cmpV true (bls p3) (bls v)))) ∧ Below w.heap.size w w' := by
  have H1 : Hid (Row w b1 o1 n1 p1) := h1
  have H2 : Hid (Row w b2 o2 n2 p2) := h2
  have H3 : Hid (Row w b3 o3 n3 p3) := h3
  have HV : Hid (Row w b off m v) := hv
  have HP : Hid (validP (bls p1) = true) := hP
  clear h1 h2 h3 hv hP
  have heq := fun (wx : World) (a : Option Addr) (n c : Nat) => Lib.run_eql_slice_nil (P := Try.prog) wx 62 9 a n c 0 0 Try.underlying62
  cases t1 : mB (bls p1) (bls v) with
  | false =>
    go_enter Try.func27, Try.ntmps27
    go_wp2_with (first | (go_at_call 45; go_in) | (go_at_call 44; refine (match_row (H1.out.later (by exact (Below.refl _ _).alloc (Nat.le_refl _) _)) (HV.out.later (by exact (Below.refl _ _).alloc (Nat.le_refl _) _)) HP.out).mono ?_; rintro e w' ⟨rfl, rfl⟩) | (go_at_call_of 54 (Value.bool false); refine (cmp_row (H2.out.later (by exact (Below.refl _ _).alloc (Nat.le_refl _) _)) (HV.out.later (by exact (Below.refl _ _).alloc (Nat.le_refl _) _))).mono ?_; rintro e w' ⟨rfl, rfl⟩) | (go_at_call_of 54 (Value.bool true); refine (cmp_row (H3.out.later (by exact (Below.refl _ _).alloc (Nat.le_refl _) _)) (HV.out.later (by exact (Below.refl _ _).alloc (Nat.le_refl _) _))).mono ?_; rintro e w' ⟨rfl, rfl⟩))
    go_ret
    exact ⟨rfl, (Below.refl _ _).alloc (Nat.le_refl _) _⟩
  | true =>
    by_cases t2 : cmpV false (bls p2) (bls v) ≤ 0
    · have e2 : decide (cmpV false (bls p2) (bls v) ≤ 0) = true := decide_eq_true t2
      rw [e2]
      by_cases t3 : 0 ≤ cmpV true (bls p3) (bls v)
      · have e3 : decide (0 ≤ cmpV true (bls p3) (bls v)) = true := decide_eq_true t3
        rw [e3]
        go_enter Try.func27, Try.ntmps27
        go_wp2_with (first | (go_at_call 45; go_in) | (go_at_call 44; refine (match_row (H1.out.later (by exact (Below.refl _ _).alloc (Nat.le_refl _) _)) (HV.out.later (by exact (Below.refl _ _).alloc (Nat.le_refl _) _)) HP.out).mono ?_; rintro e w' ⟨rfl, rfl⟩) | (go_at_call_of 54 (Value.bool false); refine (cmp_row (H2.out.later (by exact (Below.refl _ _).alloc (Nat.le_refl _) _)) (HV.out.later (by exact (Below.refl _ _).alloc (Nat.le_refl _) _))).mono ?_; rintro e w' ⟨rfl, rfl⟩) | (go_at_call_of 54 (Value.bool true); refine (cmp_row (H3.out.later (by exact (Below.refl _ _).alloc (Nat.le_refl _) _)) (HV.out.later (by exact (Below.refl _ _).alloc (Nat.le_refl _) _))).mono ?_; rintro e w' ⟨rfl, rfl⟩))
        go_ret
        exact ⟨rfl, (Below.refl _ _).alloc (Nat.le_refl _) _⟩
      · have e3 : decide (0 ≤ cmpV true (bls p3) (bls v)) = false := decide_eq_false t3
        rw [e3]
        go_enter Try.func27, Try.ntmps27
        go_wp2_with (first | (go_at_call 45; go_in) | (go_at_call 44; refine (match_row (H1.out.later (by exact (Below.refl _ _).alloc (Nat.le_refl _) _)) (HV.out.later (by exact (Below.refl _ _).alloc (Nat.le_refl _) _)) HP.out).mono ?_; rintro e w' ⟨rfl, rfl⟩) | (go_at_call_of 54 (Value.bool false); refine (cmp_row (H2.out.later (by exact (Below.refl _ _).alloc (Nat.le_refl _) _)) (HV.out.later (by exact (Below.refl _ _).alloc (Nat.le_refl _) _))).mono ?_; rintro e w' ⟨rfl, rfl⟩) | (go_at_call_of 54 (Value.bool true); refine (cmp_row (H3.out.later (by exact (Below.refl _ _).alloc (Nat.le_refl _) _)) (HV.out.later (by exact (Below.refl _ _).alloc (Nat.le_refl _) _))).mono ?_; rintro e w' ⟨rfl, rfl⟩))
        go_ret
        exact ⟨rfl, (Below.refl _ _).alloc (Nat.le_refl _) _⟩
    · have e2 : decide (cmpV false (bls p2) (bls v) ≤ 0) = false := decide_eq_false t2
      rw [e2]
      go_enter Try.func27, Try.ntmps27
      go_wp2_with (first | (go_at_call 45; go_in) | (go_at_call 44; refine (match_row (H1.out.later (by exact (Below.refl _ _).alloc (Nat.le_refl _) _)) (HV.out.later (by exact (Below.refl _ _).alloc (Nat.le_refl _) _)) HP.out).mono ?_; rintro e w' ⟨rfl, rfl⟩) | (go_at_call_of 54 (Value.bool false); refine (cmp_row (H2.out.later (by exact (Below.refl _ _).alloc (Nat.le_refl _) _)) (HV.out.later (by exact (Below.refl _ _).alloc (Nat.le_refl _) _))).mono ?_; rintro e w' ⟨rfl, rfl⟩) | (go_at_call_of 54 (Value.bool true); refine (cmp_row (H3.out.later (by exact (Below.refl _ _).alloc (Nat.le_refl _) _)) (HV.out.later (by exact (Below.refl _ _).alloc (Nat.le_refl _) _))).mono ?_; rintro e w' ⟨rfl, rfl⟩))
      go_ret
      exact ⟨rfl, (Below.refl _ _).alloc (Nat.le_refl _) _⟩

set_option maxHeartbeats 1000000 in
theorem acc_yyn (w : World) (b1 o1 n1 c1 b2 o2 n2 c2 b off m c : Nat) (p1 p2 v : List ByteArray)
    (h1 : Row w b1 o1 n1 p1) (h2 : Row w b2 o2 n2 p2) (hv : Row w b off m v) (hP : validP (bls p1) = true) :
    Calls Try.prog 27 #[.slice (some ⟨b1, o1, none⟩) n1 c1, .slice (some ⟨b2, o2, none⟩) n2 c2, .slice none 0 0, .slice (some ⟨b, off, none⟩) m c] w fun e w' =>
      e = .returned (.bool (mB (bls p1) (bls v) && decide (cmpV false (bls p2) (bls v) ≤ 0) && true)) ∧ Below w.heap.size w w' := by
  have H1 : Hid (Row w b1 o1 n1 p1) := h1
  have H2 : Hid (Row w b2 o2 n2 p2) := h2
  have HV : Hid (Row w b off m v) := hv
  have HP : Hid (validP (bls p1) = true) := hP
  clear h1 h2 hv hP
  have heq := fun (wx : World) (a : Option Addr) (n c : Nat) => Lib.run_eql_slice_nil (P := Try.prog) wx 62 9 a n c 0 0 Try.underlying62
  cases t1 : mB (bls p1) (bls v) with
  | false =>
    go_enter Try.func27, Try.ntmps27
    go_wp2_with (first | (go_at_call 45; go_in) | (go_at_call 44; refine (match_row (H1.out.later (by exact (Below.refl _ _).alloc (Nat.le_refl _) _)) (HV.out.later (by exact (Below.refl _ _).alloc (Nat.le_refl _) _)) HP.out).mono ?_; rintro e w' ⟨rfl, rfl⟩) | (go_at_call_of 54 (Value.bool false); refine (cmp_row (H2.out.later (by exact (Below.refl _ _).alloc (Nat.le_refl _) _)) (HV.out.later (by exact (Below.refl _ _).alloc (Nat.le_refl _) _))).mono ?_; rintro e w' ⟨rfl, rfl⟩))
    go_ret
    exact ⟨rfl, (Below.refl _ _).alloc (Nat.le_refl _) _⟩
  | true =>
    by_cases t2 : cmpV false (bls p2) (bls v) ≤ 0
    · have e2 : decide (cmpV false (bls p2) (bls v) ≤ 0) = true := decide_eq_true t2
      rw [e2]
      go_enter Try.func27, Try.ntmps27
      go_wp2_with (first | (go_at_call 45; go_in) | (go_at_call 44; refine (match_row (H1.out.later (by exact (Below.refl _ _).alloc (Nat.le_refl _) _)) (HV.out.later (by exact (Below.refl _ _).alloc (Nat.le_refl _) _)) HP.out).mono ?_; rintro e w' ⟨rfl, rfl⟩) | (go_at_call_of 54 (Value.bool false); refine (cmp_row (H2.out.later (by exact (Below.refl _ _).alloc (Nat.le_refl _) _)) (HV.out.later (by exact (Below.refl _ _).alloc (Nat.le_refl _) _))).mono ?_; rintro e w' ⟨rfl, rfl⟩))
      go_ret
      exact ⟨rfl, (Below.refl _ _).alloc (Nat.le_refl _) _⟩
    · have e2 : decide (cmpV false (bls p2) (bls v) ≤ 0) = false := decide_eq_false t2
      rw [e2]
      go_enter Try.func27, Try.ntmps27
      go_wp2_with (first | (go_at_call 45; go_in) | (go_at_call 44; refine (match_row (H1.out.later (by exact (Below.refl _ _).alloc (Nat.le_refl _) _)) (HV.out.later (by exact (Below.refl _ _).alloc (Nat.le_refl _) _)) HP.out).mono ?_; rintro e w' ⟨rfl, rfl⟩) | (go_at_call_of 54 (Value.bool false); refine (cmp_row (H2.out.later (by exact (Below.refl _ _).alloc (Nat.le_refl _) _)) (HV.out.later (by exact (Below.refl _ _).alloc (Nat.le_refl _) _))).mono ?_; rintro e w' ⟨rfl, rfl⟩))
      go_ret
      exact ⟨rfl, (Below.refl _ _).alloc (Nat.le_refl _) _⟩

set_option maxHeartbeats 1000000 in
theorem acc_yny (w : World) (b1 o1 n1 c1 b3 o3 n3 c3 b off m c : Nat) (p1 p3 v : List ByteArray)
    (h1 : Row w b1 o1 n1 p1) (h3 : Row w b3 o3 n3 p3) (hv : Row w b off m v) (hP : validP (bls p1) = true) :
    Calls Try.prog 27 #[.slice (some ⟨b1, o1, none⟩) n1 c1, .slice none 0 0, .slice (some ⟨b3, o3, none⟩) n3 c3, .slice (some ⟨b, off, none⟩) m c] w fun e w' =>
      e = .returned (.bool (mB (bls p1) (bls v) && true && decide (0 ≤ cmpV true (bls p3) (bls v)))) ∧ Below w.heap.size w w' := by
  have H1 : Hid (Row w b1 o1 n1 p1) := h1
  have H3 : Hid (Row w b3 o3 n3 p3) := h3
  have HV : Hid (Row w b off m v) := hv
  have HP : Hid (validP (bls p1) = true) := hP
  clear h1 h3 hv hP
  have heq := fun (wx : World) (a : Option Addr) (n c : Nat) => Lib.run_eql_slice_nil (P := Try.prog) wx 62 9 a n c 0 0 Try.underlying62
  cases t1 : mB (bls p1) (bls v) with
  | false =>
    go_enter Try.func27, Try.ntmps27
    go_wp2_with (first | (go_at_call 45; go_in) | (go_at_call 44; refine (match_row (H1.out.later (by exact (Below.refl _ _).alloc (Nat.le_refl _) _)) (HV.out.later (by exact (Below.refl _ _).alloc (Nat.le_refl _) _)) HP.out).mono ?_; rintro e w' ⟨rfl, rfl⟩) | (go_at_call_of 54 (Value.bool true); refine (cmp_row (H3.out.later (by exact (Below.refl _ _).alloc (Nat.le_refl _) _)) (HV.out.later (by exact (Below.refl _ _).alloc (Nat.le_refl _) _))).mono ?_; rintro e w' ⟨rfl, rfl⟩))
    go_ret
    exact ⟨rfl, (Below.refl _ _).alloc (Nat.le_refl _) _⟩
  | true =>
    by_cases t3 : 0 ≤ cmpV true (bls p3) (bls v)
    · have e3 : decide (0 ≤ cmpV true (bls p3) (bls v)) = true := decide_eq_true t3
      rw [e3]
      go_enter Try.func27, Try.ntmps27
      go_wp2_with (first | (go_at_call 45; go_in) | (go_at_call 44; refine (match_row (H1.out.later (by exact (Below.refl _ _).alloc (Nat.le_refl _) _)) (HV.out.later (by exact (Below.refl _ _).alloc (Nat.le_refl _) _)) HP.out).mono ?_; rintro e w' ⟨rfl, rfl⟩) | (go_at_call_of 54 (Value.bool true); refine (cmp_row (H3.out.later (by exact (Below.refl _ _).alloc (Nat.le_refl _) _)) (HV.out.later (by exact (Below.refl _ _).alloc (Nat.le_refl _) _))).mono ?_; rintro e w' ⟨rfl, rfl⟩))
      go_ret
      exact ⟨rfl, (Below.refl _ _).alloc (Nat.le_refl _) _⟩
    · have e3 : decide (0 ≤ cmpV true (bls p3) (bls v)) = false := decide_eq_false t3
      rw [e3]
      go_enter Try.func27, Try.ntmps27
      go_wp2_with (first | (go_at_call 45; go_in) | (go_at_call 44; refine (match_row (H1.out.later (by exact (Below.refl _ _).alloc (Nat.le_refl _) _)) (HV.out.later (by exact (Below.refl _ _).alloc (Nat.le_refl _) _)) HP.out).mono ?_; rintro e w' ⟨rfl, rfl⟩) | (go_at_call_of 54 (Value.bool true); refine (cmp_row (H3.out.later (by exact (Below.refl _ _).alloc (Nat.le_refl _) _)) (HV.out.later (by exact (Below.refl _ _).alloc (Nat.le_refl _) _))).mono ?_; rintro e w' ⟨rfl, rfl⟩))
      go_ret
      exact ⟨rfl, (Below.refl _ _).alloc (Nat.le_refl _) _⟩

set_option maxHeartbeats 1000000 in
theorem acc_ynn (w : World) (b1 o1 n1 c1 b off m c : Nat) (p1 v : List ByteArray)
    (h1 : Row w b1 o1 n1 p1) (hv : Row w b off m v) (hP : validP (bls p1) = true) :
    Calls Try.prog 27 #[.slice (some ⟨b1, o1, none⟩) n1 c1, .slice none 0 0, .slice none 0 0, .slice (some ⟨b, off, none⟩) m c] w fun e w' =>
      e = .returned (.bool (mB (bls p1) (bls v) && true && true)) ∧ Below w.heap.size w w' := by
  have H1 : Hid (Row w b1 o1 n1 p1) := h1
  have HV : Hid (Row w b off m v) := hv
  have HP : Hid (validP (bls p1) = true) := hP
  clear h1 hv hP
  have heq := fun (wx : World) (a : Option Addr) (n c : Nat) => Lib.run_eql_slice_nil (P := Try.prog) wx 62 9 a n c 0 0 Try.underlying62
  cases t1 : mB (bls p1) (bls v) with
  | false =>
    go_enter Try.func27, Try.ntmps27
    go_wp2_with (first | (go_at_call 45; go_in) | (go_at_call 44; refine (match_row (H1.out.later (by exact (Below.refl _ _).alloc (Nat.le_refl _) _)) (HV.out.later (by exact (Below.refl _ _).alloc (Nat.le_refl _) _)) HP.out).mono ?_; rintro e w' ⟨rfl, rfl⟩))
    go_ret
    exact ⟨rfl, (Below.refl _ _).alloc (Nat.le_refl _) _⟩
  | true =>
    go_enter Try.func27, Try.ntmps27
    go_wp2_with (first | (go_at_call 45; go_in) | (go_at_call 44; refine (match_row (H1.out.later (by exact (Below.refl _ _).alloc (Nat.le_refl _) _)) (HV.out.later (by exact (Below.refl _ _).alloc (Nat.le_refl _) _)) HP.out).mono ?_; rintro e w' ⟨rfl, rfl⟩))
    go_ret
    exact ⟨rfl, (Below.refl _ _).alloc (Nat.le_refl _) _⟩

set_option maxHeartbeats 1000000 in
theorem acc_nyy (w : World) (b2 o2 n2 c2 b3 o3 n3 c3 b off m c : Nat) (p2 p3 v : List ByteArray)
    (h2 : Row w b2 o2 n2 p2) (h3 : Row w b3 o3 n3 p3) (hv : Row w b off m v) :
    Calls Try.prog 27 #[.slice none 0 0, .slice (some ⟨b2, o2, none⟩) n2 c2, .slice (some ⟨b3, o3, none⟩) n3 c3, .slice (some ⟨b, off, none⟩) m c] w fun e w' =>
      e = .returned (.bool (true && decide (cmpV false (bls p2) (bls v) ≤ 0) && decide (0 ≤ cmpV true (bls p3) (bls v)))) ∧ Below w.heap.size w w' := by
  have H2 : Hid (Row w b2 o2 n2 p2) := h2
  have H3 : Hid (Row w b3 o3 n3 p3) := h3
  have HV : Hid (Row w b off m v) := hv
  clear h2 h3 hv
  have heq := fun (wx : World) (a : Option Addr) (n c : Nat) => Lib.run_eql_slice_nil (P := Try.prog) wx 62 9 a n c 0 0 Try.underlying62
  by_cases t2 : cmpV false (bls p2) (bls v) ≤ 0
  · have e2 : decide (cmpV false (bls p2) (bls v) ≤ 0) = true := decide_eq_true t2
    rw [e2]
    by_cases t3 : 0 ≤ cmpV true (bls p3) (bls v)
    · have e3 : decide (0 ≤ cmpV true (bls p3) (bls v)) = true := decide_eq_true t3
      rw [e3]
      go_enter Try.func27, Try.ntmps27
      go_wp2_with (first | (go_at_call 45; go_in) | (go_at_call_of 54 (Value.bool false); refine (cmp_row (H2.out.later (by exact (Below.refl _ _).alloc (Nat.le_refl _) _)) (HV.out.later (by exact (Below.refl _ _).alloc (Nat.le_refl _) _))).mono ?_; rintro e w' ⟨rfl, rfl⟩) | (go_at_call_of 54 (Value.bool true); refine (cmp_row (H3.out.later (by exact (Below.refl _ _).alloc (Nat.le_refl _) _)) (HV.out.later (by exact (Below.refl _ _).alloc (Nat.le_refl _) _))).mono ?_; rintro e w' ⟨rfl, rfl⟩))
      go_ret
      exact ⟨rfl, (Below.refl _ _).alloc (Nat.le_refl _) _⟩
    · have e3 : decide (0 ≤ cmpV true (bls p3) (bls v)) = false := decide_eq_false t3
      rw [e3]
      go_enter Try.func27, Try.ntmps27
      go_wp2_with (first | (go_at_call 45; go_in) | (go_at_call_of 54 (Value.bool false); refine (cmp_row (H2.out.later (by exact (Below.refl _ _).alloc (Nat.le_refl _) _)) (HV.out.later (by exact (Below.refl _ _).alloc (Nat.le_refl _) _))).mono ?_; rintro e w' ⟨rfl, rfl⟩) | (go_at_call_of 54 (Value.bool true); refine (cmp_row (H3.out.later (by exact (Below.refl _ _).alloc (Nat.le_refl _) _)) (HV.out.later (by exact (Below.refl _ _).alloc (Nat.le_refl _) _))).mono ?_; rintro e w' ⟨rfl, rfl⟩))
      go_ret
      exact ⟨rfl, (Below.refl _ _).alloc (Nat.le_refl _) _⟩
  · have e2 : decide (cmpV false (bls p2) (bls v) ≤ 0) = false := decide_eq_false t2
    rw [e2]
    go_enter Try.func27, Try.ntmps27
    go_wp2_with (first | (go_at_call 45; go_in) | (go_at_call_of 54 (Value.bool false); refine (cmp_row (H2.out.later (by exact (Below.refl _ _).alloc (Nat.le_refl _) _)) (HV.out.later (by exact (Below.refl _ _).alloc (Nat.le_refl _) _))).mono ?_; rintro e w' ⟨rfl, rfl⟩) | (go_at_call_of 54 (Value.bool true); refine (cmp_row (H3.out.later (by exact (Below.refl _ _).alloc (Nat.le_refl _) _)) (HV.out.later (by exact (Below.refl _ _).alloc (Nat.le_refl _) _))).mono ?_; rintro e w' ⟨rfl, rfl⟩))
    go_ret
    exact ⟨rfl, (Below.refl _ _).alloc (Nat.le_refl _) _⟩

set_option maxHeartbeats 1000000 in
theorem acc_nyn (w : World) (b2 o2 n2 c2 b off m c : Nat) (p2 v : List ByteArray)
    (h2 : Row w b2 o2 n2 p2) (hv : Row w b off m v) :
    Calls Try.prog 27 #[.slice none 0 0, .slice (some ⟨b2, o2, none⟩) n2 c2, .slice none 0 0, .slice (some ⟨b, off, none⟩) m c] w fun e w' =>
      e = .returned (.bool (true && decide (cmpV false (bls p2) (bls v) ≤ 0) && true)) ∧ Below w.heap.size w w' := by
  have H2 : Hid (Row w b2 o2 n2 p2) := h2
  have HV : Hid (Row w b off m v) := hv
  clear h2 hv
  have heq := fun (wx : World) (a : Option Addr) (n c : Nat) => Lib.run_eql_slice_nil (P := Try.prog) wx 62 9 a n c 0 0 Try.underlying62
  by_cases t2 : cmpV false (bls p2) (bls v) ≤ 0
  · have e2 : decide (cmpV false (bls p2) (bls v) ≤ 0) = true := decide_eq_true t2
    rw [e2]
    go_enter Try.func27, Try.ntmps27
    go_wp2_with (first | (go_at_call 45; go_in) | (go_at_call_of 54 (Value.bool false); refine (cmp_row (H2.out.later (by exact (Below.refl _ _).alloc (Nat.le_refl _) _)) (HV.out.later (by exact (Below.refl _ _).alloc (Nat.le_refl _) _))).mono ?_; rintro e w' ⟨rfl, rfl⟩))
    go_ret
    exact ⟨rfl, (Below.refl _ _).alloc (Nat.le_refl _) _⟩
  · have e2 : decide (cmpV false (bls p2) (bls v) ≤ 0) = false := decide_eq_false t2
    rw [e2]
    go_enter Try.func27, Try.ntmps27
    go_wp2_with (first | (go_at_call 45; go_in) | (go_at_call_of 54 (Value.bool false); refine (cmp_row (H2.out.later (by exact (Below.refl _ _).alloc (Nat.le_refl _) _)) (HV.out.later (by exact (Below.refl _ _).alloc (Nat.le_refl _) _))).mono ?_; rintro e w' ⟨rfl, rfl⟩))
    go_ret
    exact ⟨rfl, (Below.refl _ _).alloc (Nat.le_refl _) _⟩

set_option maxHeartbeats 1000000 in
theorem acc_nny (w : World) (b3 o3 n3 c3 b off m c : Nat) (p3 v : List ByteArray)
    (h3 : Row w b3 o3 n3 p3) (hv : Row w b off m v) :
    Calls Try.prog 27 #[.slice none 0 0, .slice none 0 0, .slice (some ⟨b3, o3, none⟩) n3 c3, .slice (some ⟨b, off, none⟩) m c] w fun e w' =>
      e = .returned (.bool (true && true && decide (0 ≤ cmpV true (bls p3) (bls v)))) ∧ Below w.heap.size w w' := by
  have H3 : Hid (Row w b3 o3 n3 p3) := h3
  have HV : Hid (Row w b off m v) := hv
  clear h3 hv
  have heq := fun (wx : World) (a : Option Addr) (n c : Nat) => Lib.run_eql_slice_nil (P := Try.prog) wx 62 9 a n c 0 0 Try.underlying62
  by_cases t3 : 0 ≤ cmpV true (bls p3) (bls v)
  · have e3 : decide (0 ≤ cmpV true (bls p3) (bls v)) = true := decide_eq_true t3
    rw [e3]
    go_enter Try.func27, Try.ntmps27
    go_wp2_with (first | (go_at_call 45; go_in) | (go_at_call_of 54 (Value.bool true); refine (cmp_row (H3.out.later (by exact (Below.refl _ _).alloc (Nat.le_refl _) _)) (HV.out.later (by exact (Below.refl _ _).alloc (Nat.le_refl _) _))).mono ?_; rintro e w' ⟨rfl, rfl⟩))
    go_ret
    exact ⟨rfl, (Below.refl _ _).alloc (Nat.le_refl _) _⟩
  · have e3 : decide (0 ≤ cmpV true (bls p3) (bls v)) = false := decide_eq_false t3
    rw [e3]
    go_enter Try.func27, Try.ntmps27
    go_wp2_with (first | (go_at_call 45; go_in) | (go_at_call_of 54 (Value.bool true); refine (cmp_row (H3.out.later (by exact (Below.refl _ _).alloc (Nat.le_refl _) _)) (HV.out.later (by exact (Below.refl _ _).alloc (Nat.le_refl _) _))).mono ?_; rintro e w' ⟨rfl, rfl⟩))
    go_ret
    exact ⟨rfl, (Below.refl _ _).alloc (Nat.le_refl _) _⟩

set_option maxHeartbeats 1000000 in
theorem acc_nnn (w : World) (b off m c : Nat) (v : List ByteArray)
     (hv : Row w b off m v) :
    Calls Try.prog 27 #[.slice none 0 0, .slice none 0 0, .slice none 0 0, .slice (some ⟨b, off, none⟩) m c] w fun e w' =>
      e = .returned (.bool (true && true && true)) ∧ Below w.heap.size w w' := by
  have HV : Hid (Row w b off m v) := hv
  clear hv
  have heq := fun (wx : World) (a : Option Addr) (n c : Nat) => Lib.run_eql_slice_nil (P := Try.prog) wx 62 9 a n c 0 0 Try.underlying62
  go_enter Try.func27, Try.ntmps27
  go_wp2_with (first | (go_at_call 45; go_in))
  go_ret
  exact ⟨rfl, (Below.refl _ _).alloc (Nat.le_refl _) _⟩

end Go.Proofs.Qxb6002344a.Num
