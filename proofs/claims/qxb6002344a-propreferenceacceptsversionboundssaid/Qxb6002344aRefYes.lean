/- THE LAW PropReferenceAcceptsVersionBounds: THE INPUTS THAT GO THROUGH (seat b6002344a). -/
import Derived.Test.Qxb6002344aAccepts
import Derived.Test.Qxb6002344aBounds
import Derived.Test.Qxb6002344aDen
import Derived.Test.Qxb6002344aRefBytes
set_option linter.unusedVariables false
namespace Go.Proofs.Qxb6002344a.Num
open Go.RowKit Dec

theorem den_row {w : World} {b off n c b2 off2 m c2 : Nat} {p v : List ByteArray} (hp : Row w b off n p) (hv : Row w b2 off2 m v) (hP : validP (bls p) = true) (hV : validV (bls v) = true) :
    Calls Try.prog 25 #[.slice (some ⟨b, off, none⟩) n c, .slice (some ⟨b2, off2, none⟩) m c2] w fun e w' => e = .returned (.bool (mB (bls p) (bls v))) ∧ ∃ q, w' = w.drewN q :=
  den_any b off n c b2 off2 m c2 p v w (by have := hp.2.1; unfold maxLen; omega) (by have := hv.2.1; unfold maxLen; omega) hp.1 hv.1 hP hV hp.2.2.1 hv.2.2.1 hp.2.2.2 hv.2.2.2
theorem least_row {w : World} {b off n c b2 off2 m c2 : Nat} {p v : List ByteArray} (hp : Row w b off n p) (hv : Row w b2 off2 m v) (hP : validP (bls p) = true) (hV : validV (bls v) = true) :
    Calls Try.prog 28 #[.slice (some ⟨b, off, none⟩) n c, .slice (some ⟨b2, off2, none⟩) m c2] w fun e w' => e = .returned (.int .i64 (leastC (bls p) (bls v))) ∧ w' = w :=
  least_any b off n c b2 off2 m c2 p v w (by have := hp.2.1; unfold maxLen; omega) (by have := hv.2.1; unfold maxLen; omega) hp.1 hv.1 (okP_of hP) (okV_of hV) hp.2.2.1 hv.2.2.1 hp.2.2.2 hv.2.2.2
theorem leG_row {w : World} {b off n c b2 off2 m c2 : Nat} {p v : List ByteArray} (hp : Row w b off n p) (hv : Row w b2 off2 m v) (hP : validP (bls p) = true) (hV : validV (bls v) = true) :
    Calls Try.prog 29 #[.slice (some ⟨b2, off2, none⟩) m c2, .slice (some ⟨b, off, none⟩) n c] w fun e w' => e = .returned (.bool (leG (bls p) (bls v))) ∧ w' = w :=
  leG_any b off n c b2 off2 m c2 p v w (by have := hp.2.1; unfold maxLen; omega) (by have := hv.2.1; unfold maxLen; omega) hp.1 hv.1 (okP_of hP) (okV_of hV) hp.2.2.1 hv.2.2.1 hp.2.2.2 hv.2.2.2

theorem Row.ss {w : World} {b off n : Nat} {p : List ByteArray} (h : Row w b off n p) : SS w (some ⟨b, off, none⟩) n p := ⟨h.1, .inr ⟨b, off, rfl, h.2.2.1⟩, h.2.2.2⟩
theorem Row.max {w : World} {b off n : Nat} {p : List ByteArray} (h : Row w b off n p) : n ≤ maxLen := by have := h.2.1; unfold maxLen; omega
theorem Below.drewN {B : Nat} {a w : World} (h : Below B a w) (q : Nat) : Below B a (w.drewN q) := ⟨h.os, h.tape, h.output, h.size, h.block⟩

set_option maxRecDepth 1000000 in
set_option maxHeartbeats 2000000 in
theorem ref_yyy (b1 o1 b2 o2 b3 o3 b4 o4 n1 c1 n2 c2 n3 c3 n4 c4 : Nat) (p1 p2 p3 p4 : List ByteArray) (w : World)
    (h1 : Row w b1 o1 n1 p1) (v1 : validP (bls p1) = true) (h2 : Row w b2 o2 n2 p2) (v2 : validP (bls p2) = true) (h3 : Row w b3 o3 n3 p3) (v3 : validP (bls p3) = true) (h4 : Row w b4 o4 n4 p4) (v4 : validV (bls p4) = true) :
    Calls Try.prog 7 #[.bool true, .bool true, .bool true, .slice (some ⟨b1, o1, none⟩) n1 c1, .slice (some ⟨b2, o2, none⟩) n2 c2, .slice (some ⟨b3, o3, none⟩) n3 c3, .slice (some ⟨b4, o4, none⟩) n4 c4] w fun e w' => e = .returned (.bool true) ∧ Below w.heap.size w w' := by
  have C26 : Hid (Calls Try.prog 26 #[.bool true, .bool true, .bool true, .slice (some ⟨b1, o1, none⟩) n1 c1, .slice (some ⟨b2, o2, none⟩) n2 c2, .slice (some ⟨b3, o3, none⟩) n3 c3, .slice (some ⟨b4, o4, none⟩) n4 c4] w fun e w' => IsB e ∧ w' = w) := bytes26 true true true (some ⟨b1, o1, none⟩) (some ⟨b2, o2, none⟩) (some ⟨b3, o3, none⟩) (some ⟨b4, o4, none⟩) n1 c1 n2 c2 n3 c3 n4 c4 p1 p2 p3 p4 w h1.max h2.max h3.max h4.max h1.ss h2.ss h3.ss h4.ss
  have D1 : Hid (Calls Try.prog 22 #[.slice (some ⟨b1, o1, none⟩) n1 c1] w fun e w' => e = .returned (.bool true) ∧ w' = w) := by
    have := validP_any (some ⟨b1, o1, none⟩) n1 c1 p1 w h1.max h1.ss
    rw [v1] at this; exact this
  have D2 : Hid (Calls Try.prog 22 #[.slice (some ⟨b2, o2, none⟩) n2 c2] w fun e w' => e = .returned (.bool true) ∧ w' = w) := by
    have := validP_any (some ⟨b2, o2, none⟩) n2 c2 p2 w h2.max h2.ss
    rw [v2] at this; exact this
  have D3 : Hid (Calls Try.prog 22 #[.slice (some ⟨b3, o3, none⟩) n3 c3] w fun e w' => e = .returned (.bool true) ∧ w' = w) := by
    have := validP_any (some ⟨b3, o3, none⟩) n3 c3 p3 w h3.max h3.ss
    rw [v3] at this; exact this
  have D4 : Hid (Calls Try.prog 23 #[.slice (some ⟨b4, o4, none⟩) n4 c4] w fun e w' => e = .returned (.bool true) ∧ w' = w) := by
    have := validV_any (some ⟨b4, o4, none⟩) n4 c4 p4 w h4.max h4.ss
    rw [v4] at this; exact this
  have m1 := h1.2.1
  have H1 : Hid (Row w b1 o1 n1 p1) := h1
  have V1 : Hid (validP (bls p1) = true) := v1
  have m2 := h2.2.1
  have H2 : Hid (Row w b2 o2 n2 p2) := h2
  have V2 : Hid (validP (bls p2) = true) := v2
  have m3 := h3.2.1
  have H3 : Hid (Row w b3 o3 n3 p3) := h3
  have V3 : Hid (validP (bls p3) = true) := v3
  have m4 := h4.2.1
  have H4 : Hid (Row w b4 o4 n4 p4) := h4
  have V4 : Hid (validV (bls p4) = true) := v4
  clear h1 v1 h2 v2 h3 v3 h4 v4
  have hne := fun (wx : World) (a : Option Addr) (n c : Nat) => run_neq_slice_nil_any (P := Try.prog) wx 26 9 a n c 0 0 Try.underlying26
  go_enter Try.func7, Try.ntmps7
  go_wp2_with fail
  refine C26.out.mono ?_
  rintro e w' ⟨⟨r, rfl⟩, rfl⟩
  cases r
  · go_wp2_with fail
    go_ret
    exact ⟨rfl, Below.refl _ _⟩
  go_wp2_with fail
  refine D1.out.mono ?_
  rintro e w' ⟨rfl, rfl⟩
  go_wp2_with fail
  refine D2.out.mono ?_
  rintro e w' ⟨rfl, rfl⟩
  go_wp2_with fail
  refine D3.out.mono ?_
  rintro e w' ⟨rfl, rfl⟩
  go_wp2_with fail
  refine D4.out.mono ?_
  rintro e w' ⟨rfl, rfl⟩
  have hmk := run_make_row' (P := Try.prog) 26 9 (.string ByteArray.empty) 16 Try.underlying26 info9 rfl .i64 .i64 n4 (by omega) (by omega)
  go_wp2_with fail
  clear hmk
  obtain ⟨W1, hrun1, hcell1, hbel1, hsz1⟩ := copied w' b4 o4 n4 c4 p4 H4.out.1 H4.out.2.2.1
  rw [hrun1]
  have R4 : Hid (Row W1 w'.heap.size 0 n4 p4) := ⟨H4.out.1, m4, hcell1, H4.out.2.2.2⟩
  have HB : Hid (Below w'.heap.size w' W1 ∧ w'.heap.size < W1.heap.size) := ⟨hbel1, hsz1⟩
  clear hrun1 hcell1 hbel1 hsz1
  simp only [Result.andThen]
  rw [Oper.upon_value]
  have R1 : Hid (Row W1 b1 o1 n1 p1) := H1.out.later HB.out.1
  have R2 : Hid (Row W1 b2 o2 n2 p2) := H2.out.later HB.out.1
  have R3 : Hid (Row W1 b3 o3 n3 p3) := H3.out.later HB.out.1
  have C27 := acc_yyy W1 b1 o1 n1 c1 b2 o2 n2 c2 b3 o3 n3 c3 w'.heap.size 0 n4 n4 p1 p2 p3 p4 R1.out R2.out R3.out R4.out V1.out
  have L2 : Hid _ := least_law (bls p2) (bls p4) (okP_of V2.out) (okV_of V4.out)
  have L3 : Hid _ := great_law (bls p3) (bls p4) (okP_of V3.out) (okV_of V4.out)
  cases t1 : mB (bls p1) (bls p4) with
  | false =>
    have E : (false && decide (cmpV false (bls p2) (bls p4) ≤ 0) && decide (0 ≤ cmpV true (bls p3) (bls p4))) = false := by simp
    rw [t1] at C27
    rw [E] at C27
    have CC : Hid _ := C27
    clear C27 E
    go_wp2_with fail
    refine (Calls.mono CC.out ?_)
    rintro e W2 ⟨rfl, hb2⟩
    have HB2 : Hid (Below W1.heap.size W1 W2) := hb2
    clear hb2 CC
    go_wp2_with (first | (go_at_call 25; refine (den_row (R1.out.later (by first | exact HB2.out | exact Below.drewN HB2.out _)) (R4.out.later (by first | exact HB2.out | exact Below.drewN HB2.out _)) V1.out V4.out).mono ?_; rintro e w3 ⟨rfl, q, rfl⟩) | (go_at_call 28; refine (least_row (R2.out.later (by first | exact HB2.out | exact Below.drewN HB2.out _)) (R4.out.later (by first | exact HB2.out | exact Below.drewN HB2.out _)) V2.out V4.out).mono ?_; rintro e w3 ⟨rfl, rfl⟩) | (go_at_call 29; refine (leG_row (R3.out.later (by first | exact HB2.out | exact Below.drewN HB2.out _)) (R4.out.later (by first | exact HB2.out | exact Below.drewN HB2.out _)) V3.out V4.out).mono ?_; rintro e w3 ⟨rfl, rfl⟩))
    go_ret
    exact ⟨rfl, by first | exact HB.out.1.trans (HB2.out.mono (Nat.le_of_lt HB.out.2)) | exact HB.out.1.trans ((Below.drewN HB2.out _).mono (Nat.le_of_lt HB.out.2))⟩
  | true =>
    rw [t1] at C27
    by_cases t2 : cmpV false (bls p2) (bls p4) ≤ 0
    · have s2 : leastC (bls p2) (bls p4) ≤ 0 := L2.out.1 t2
      have d2 : decide (cmpV false (bls p2) (bls p4) ≤ 0) = true := decide_eq_true t2
      rw [d2] at C27
      clear t2 d2
      by_cases t3 : 0 ≤ cmpV true (bls p3) (bls p4)
      · have d3 : decide (0 ≤ cmpV true (bls p3) (bls p4)) = true := decide_eq_true t3
        have s3 : leG (bls p3) (bls p4) = true := by rw [← L3.out]; exact d3
        rw [d3] at C27
        clear t3 d3
        have E : (true && true && true) = true := rfl
        rw [E] at C27
        have CC : Hid _ := C27
        clear C27 E
        go_wp2_with fail
        refine (Calls.mono CC.out ?_)
        rintro e W2 ⟨rfl, hb2⟩
        have HB2 : Hid (Below W1.heap.size W1 W2) := hb2
        clear hb2 CC
        go_wp2_with (first | (go_at_call 25; refine (den_row (R1.out.later (by first | exact HB2.out | exact Below.drewN HB2.out _)) (R4.out.later (by first | exact HB2.out | exact Below.drewN HB2.out _)) V1.out V4.out).mono ?_; rintro e w3 ⟨rfl, q, rfl⟩) | (go_at_call 28; refine (least_row (R2.out.later (by first | exact HB2.out | exact Below.drewN HB2.out _)) (R4.out.later (by first | exact HB2.out | exact Below.drewN HB2.out _)) V2.out V4.out).mono ?_; rintro e w3 ⟨rfl, rfl⟩) | (go_at_call 29; refine (leG_row (R3.out.later (by first | exact HB2.out | exact Below.drewN HB2.out _)) (R4.out.later (by first | exact HB2.out | exact Below.drewN HB2.out _)) V3.out V4.out).mono ?_; rintro e w3 ⟨rfl, rfl⟩))
        go_ret
        exact ⟨rfl, by first | exact HB.out.1.trans (HB2.out.mono (Nat.le_of_lt HB.out.2)) | exact HB.out.1.trans ((Below.drewN HB2.out _).mono (Nat.le_of_lt HB.out.2))⟩
      · have d3 : decide (0 ≤ cmpV true (bls p3) (bls p4)) = false := decide_eq_false t3
        have s3 : leG (bls p3) (bls p4) = false := by rw [← L3.out]; exact d3
        rw [d3] at C27
        clear t3 d3
        have E : (true && true && false) = false := rfl
        rw [E] at C27
        have CC : Hid _ := C27
        clear C27 E
        go_wp2_with fail
        refine (Calls.mono CC.out ?_)
        rintro e W2 ⟨rfl, hb2⟩
        have HB2 : Hid (Below W1.heap.size W1 W2) := hb2
        clear hb2 CC
        go_wp2_with (first | (go_at_call 25; refine (den_row (R1.out.later (by first | exact HB2.out | exact Below.drewN HB2.out _)) (R4.out.later (by first | exact HB2.out | exact Below.drewN HB2.out _)) V1.out V4.out).mono ?_; rintro e w3 ⟨rfl, q, rfl⟩) | (go_at_call 28; refine (least_row (R2.out.later (by first | exact HB2.out | exact Below.drewN HB2.out _)) (R4.out.later (by first | exact HB2.out | exact Below.drewN HB2.out _)) V2.out V4.out).mono ?_; rintro e w3 ⟨rfl, rfl⟩) | (go_at_call 29; refine (leG_row (R3.out.later (by first | exact HB2.out | exact Below.drewN HB2.out _)) (R4.out.later (by first | exact HB2.out | exact Below.drewN HB2.out _)) V3.out V4.out).mono ?_; rintro e w3 ⟨rfl, rfl⟩))
        go_ret
        exact ⟨rfl, by first | exact HB.out.1.trans (HB2.out.mono (Nat.le_of_lt HB.out.2)) | exact HB.out.1.trans ((Below.drewN HB2.out _).mono (Nat.le_of_lt HB.out.2))⟩
    · have s2 : ¬ leastC (bls p2) (bls p4) ≤ 0 := fun h => t2 (L2.out.2 h)
      have d2 : decide (cmpV false (bls p2) (bls p4) ≤ 0) = false := decide_eq_false t2
      rw [d2] at C27
      clear t2 d2
      have E : (true && false && decide (0 ≤ cmpV true (bls p3) (bls p4))) = false := by simp
      rw [E] at C27
      have CC : Hid _ := C27
      clear C27 E
      go_wp2_with fail
      refine (Calls.mono CC.out ?_)
      rintro e W2 ⟨rfl, hb2⟩
      have HB2 : Hid (Below W1.heap.size W1 W2) := hb2
      clear hb2 CC
      go_wp2_with (first | (go_at_call 25; refine (den_row (R1.out.later (by first | exact HB2.out | exact Below.drewN HB2.out _)) (R4.out.later (by first | exact HB2.out | exact Below.drewN HB2.out _)) V1.out V4.out).mono ?_; rintro e w3 ⟨rfl, q, rfl⟩) | (go_at_call 28; refine (least_row (R2.out.later (by first | exact HB2.out | exact Below.drewN HB2.out _)) (R4.out.later (by first | exact HB2.out | exact Below.drewN HB2.out _)) V2.out V4.out).mono ?_; rintro e w3 ⟨rfl, rfl⟩) | (go_at_call 29; refine (leG_row (R3.out.later (by first | exact HB2.out | exact Below.drewN HB2.out _)) (R4.out.later (by first | exact HB2.out | exact Below.drewN HB2.out _)) V3.out V4.out).mono ?_; rintro e w3 ⟨rfl, rfl⟩))
      go_ret
      exact ⟨rfl, by first | exact HB.out.1.trans (HB2.out.mono (Nat.le_of_lt HB.out.2)) | exact HB.out.1.trans ((Below.drewN HB2.out _).mono (Nat.le_of_lt HB.out.2))⟩

set_option maxRecDepth 1000000 in
set_option maxHeartbeats 2000000 in
theorem ref_yyn (a3 : Option Addr) (b1 o1 b2 o2 b4 o4 n1 c1 n2 c2 n3 c3 n4 c4 : Nat) (p1 p2 p3 p4 : List ByteArray) (w : World)
    (h1 : Row w b1 o1 n1 p1) (v1 : validP (bls p1) = true) (h2 : Row w b2 o2 n2 p2) (v2 : validP (bls p2) = true) (m3 : n3 ≤ 1048576) (h3 : SS w a3 n3 p3) (h4 : Row w b4 o4 n4 p4) (v4 : validV (bls p4) = true) :
    Calls Try.prog 7 #[.bool true, .bool true, .bool false, .slice (some ⟨b1, o1, none⟩) n1 c1, .slice (some ⟨b2, o2, none⟩) n2 c2, .slice a3 n3 c3, .slice (some ⟨b4, o4, none⟩) n4 c4] w fun e w' => e = .returned (.bool true) ∧ Below w.heap.size w w' := by
  have C26 : Hid (Calls Try.prog 26 #[.bool true, .bool true, .bool false, .slice (some ⟨b1, o1, none⟩) n1 c1, .slice (some ⟨b2, o2, none⟩) n2 c2, .slice a3 n3 c3, .slice (some ⟨b4, o4, none⟩) n4 c4] w fun e w' => IsB e ∧ w' = w) := bytes26 true true false (some ⟨b1, o1, none⟩) (some ⟨b2, o2, none⟩) a3 (some ⟨b4, o4, none⟩) n1 c1 n2 c2 n3 c3 n4 c4 p1 p2 p3 p4 w h1.max h2.max (by unfold maxLen; omega) h4.max h1.ss h2.ss h3 h4.ss
  have D1 : Hid (Calls Try.prog 22 #[.slice (some ⟨b1, o1, none⟩) n1 c1] w fun e w' => e = .returned (.bool true) ∧ w' = w) := by
    have := validP_any (some ⟨b1, o1, none⟩) n1 c1 p1 w h1.max h1.ss
    rw [v1] at this; exact this
  have D2 : Hid (Calls Try.prog 22 #[.slice (some ⟨b2, o2, none⟩) n2 c2] w fun e w' => e = .returned (.bool true) ∧ w' = w) := by
    have := validP_any (some ⟨b2, o2, none⟩) n2 c2 p2 w h2.max h2.ss
    rw [v2] at this; exact this
  have D4 : Hid (Calls Try.prog 23 #[.slice (some ⟨b4, o4, none⟩) n4 c4] w fun e w' => e = .returned (.bool true) ∧ w' = w) := by
    have := validV_any (some ⟨b4, o4, none⟩) n4 c4 p4 w h4.max h4.ss
    rw [v4] at this; exact this
  have m1 := h1.2.1
  have H1 : Hid (Row w b1 o1 n1 p1) := h1
  have V1 : Hid (validP (bls p1) = true) := v1
  have m2 := h2.2.1
  have H2 : Hid (Row w b2 o2 n2 p2) := h2
  have V2 : Hid (validP (bls p2) = true) := v2
  have m4 := h4.2.1
  have H4 : Hid (Row w b4 o4 n4 p4) := h4
  have V4 : Hid (validV (bls p4) = true) := v4
  clear h1 v1 h2 v2 h4 v4 h3
  have hne := fun (wx : World) (a : Option Addr) (n c : Nat) => run_neq_slice_nil_any (P := Try.prog) wx 26 9 a n c 0 0 Try.underlying26
  go_enter Try.func7, Try.ntmps7
  go_wp2_with fail
  refine C26.out.mono ?_
  rintro e w' ⟨⟨r, rfl⟩, rfl⟩
  cases r
  · go_wp2_with fail
    go_ret
    exact ⟨rfl, Below.refl _ _⟩
  go_wp2_with fail
  refine D1.out.mono ?_
  rintro e w' ⟨rfl, rfl⟩
  go_wp2_with fail
  refine D2.out.mono ?_
  rintro e w' ⟨rfl, rfl⟩
  go_wp2_with fail
  refine D4.out.mono ?_
  rintro e w' ⟨rfl, rfl⟩
  have hmk := run_make_row' (P := Try.prog) 26 9 (.string ByteArray.empty) 16 Try.underlying26 info9 rfl .i64 .i64 n4 (by omega) (by omega)
  go_wp2_with fail
  clear hmk
  obtain ⟨W1, hrun1, hcell1, hbel1, hsz1⟩ := copied w' b4 o4 n4 c4 p4 H4.out.1 H4.out.2.2.1
  rw [hrun1]
  have R4 : Hid (Row W1 w'.heap.size 0 n4 p4) := ⟨H4.out.1, m4, hcell1, H4.out.2.2.2⟩
  have HB : Hid (Below w'.heap.size w' W1 ∧ w'.heap.size < W1.heap.size) := ⟨hbel1, hsz1⟩
  clear hrun1 hcell1 hbel1 hsz1
  simp only [Result.andThen]
  rw [Oper.upon_value]
  have R1 : Hid (Row W1 b1 o1 n1 p1) := H1.out.later HB.out.1
  have R2 : Hid (Row W1 b2 o2 n2 p2) := H2.out.later HB.out.1
  have C27 := acc_yyn W1 b1 o1 n1 c1 b2 o2 n2 c2 w'.heap.size 0 n4 n4 p1 p2 p4 R1.out R2.out R4.out V1.out
  have L2 : Hid _ := least_law (bls p2) (bls p4) (okP_of V2.out) (okV_of V4.out)
  cases t1 : mB (bls p1) (bls p4) with
  | false =>
    have E : (false && decide (cmpV false (bls p2) (bls p4) ≤ 0) && true) = false := by simp
    rw [t1] at C27
    rw [E] at C27
    have CC : Hid _ := C27
    clear C27 E
    go_wp2_with fail
    refine (Calls.mono CC.out ?_)
    rintro e W2 ⟨rfl, hb2⟩
    have HB2 : Hid (Below W1.heap.size W1 W2) := hb2
    clear hb2 CC
    go_wp2_with (first | (go_at_call 25; refine (den_row (R1.out.later (by first | exact HB2.out | exact Below.drewN HB2.out _)) (R4.out.later (by first | exact HB2.out | exact Below.drewN HB2.out _)) V1.out V4.out).mono ?_; rintro e w3 ⟨rfl, q, rfl⟩) | (go_at_call 28; refine (least_row (R2.out.later (by first | exact HB2.out | exact Below.drewN HB2.out _)) (R4.out.later (by first | exact HB2.out | exact Below.drewN HB2.out _)) V2.out V4.out).mono ?_; rintro e w3 ⟨rfl, rfl⟩))
    go_ret
    exact ⟨rfl, by first | exact HB.out.1.trans (HB2.out.mono (Nat.le_of_lt HB.out.2)) | exact HB.out.1.trans ((Below.drewN HB2.out _).mono (Nat.le_of_lt HB.out.2))⟩
  | true =>
    rw [t1] at C27
    by_cases t2 : cmpV false (bls p2) (bls p4) ≤ 0
    · have s2 : leastC (bls p2) (bls p4) ≤ 0 := L2.out.1 t2
      have d2 : decide (cmpV false (bls p2) (bls p4) ≤ 0) = true := decide_eq_true t2
      rw [d2] at C27
      clear t2 d2
      have E : (true && true && true) = true := rfl
      rw [E] at C27
      have CC : Hid _ := C27
      clear C27 E
      go_wp2_with fail
      refine (Calls.mono CC.out ?_)
      rintro e W2 ⟨rfl, hb2⟩
      have HB2 : Hid (Below W1.heap.size W1 W2) := hb2
      clear hb2 CC
      go_wp2_with (first | (go_at_call 25; refine (den_row (R1.out.later (by first | exact HB2.out | exact Below.drewN HB2.out _)) (R4.out.later (by first | exact HB2.out | exact Below.drewN HB2.out _)) V1.out V4.out).mono ?_; rintro e w3 ⟨rfl, q, rfl⟩) | (go_at_call 28; refine (least_row (R2.out.later (by first | exact HB2.out | exact Below.drewN HB2.out _)) (R4.out.later (by first | exact HB2.out | exact Below.drewN HB2.out _)) V2.out V4.out).mono ?_; rintro e w3 ⟨rfl, rfl⟩))
      go_ret
      exact ⟨rfl, by first | exact HB.out.1.trans (HB2.out.mono (Nat.le_of_lt HB.out.2)) | exact HB.out.1.trans ((Below.drewN HB2.out _).mono (Nat.le_of_lt HB.out.2))⟩
    · have s2 : ¬ leastC (bls p2) (bls p4) ≤ 0 := fun h => t2 (L2.out.2 h)
      have d2 : decide (cmpV false (bls p2) (bls p4) ≤ 0) = false := decide_eq_false t2
      rw [d2] at C27
      clear t2 d2
      have E : (true && false && true) = false := by simp
      rw [E] at C27
      have CC : Hid _ := C27
      clear C27 E
      go_wp2_with fail
      refine (Calls.mono CC.out ?_)
      rintro e W2 ⟨rfl, hb2⟩
      have HB2 : Hid (Below W1.heap.size W1 W2) := hb2
      clear hb2 CC
      go_wp2_with (first | (go_at_call 25; refine (den_row (R1.out.later (by first | exact HB2.out | exact Below.drewN HB2.out _)) (R4.out.later (by first | exact HB2.out | exact Below.drewN HB2.out _)) V1.out V4.out).mono ?_; rintro e w3 ⟨rfl, q, rfl⟩) | (go_at_call 28; refine (least_row (R2.out.later (by first | exact HB2.out | exact Below.drewN HB2.out _)) (R4.out.later (by first | exact HB2.out | exact Below.drewN HB2.out _)) V2.out V4.out).mono ?_; rintro e w3 ⟨rfl, rfl⟩))
      go_ret
      exact ⟨rfl, by first | exact HB.out.1.trans (HB2.out.mono (Nat.le_of_lt HB.out.2)) | exact HB.out.1.trans ((Below.drewN HB2.out _).mono (Nat.le_of_lt HB.out.2))⟩

set_option maxRecDepth 1000000 in
set_option maxHeartbeats 2000000 in
theorem ref_yny (a2 : Option Addr) (b1 o1 b3 o3 b4 o4 n1 c1 n2 c2 n3 c3 n4 c4 : Nat) (p1 p2 p3 p4 : List ByteArray) (w : World)
    (h1 : Row w b1 o1 n1 p1) (v1 : validP (bls p1) = true) (h3 : Row w b3 o3 n3 p3) (v3 : validP (bls p3) = true) (m2 : n2 ≤ 1048576) (h2 : SS w a2 n2 p2) (h4 : Row w b4 o4 n4 p4) (v4 : validV (bls p4) = true) :
    Calls Try.prog 7 #[.bool true, .bool false, .bool true, .slice (some ⟨b1, o1, none⟩) n1 c1, .slice a2 n2 c2, .slice (some ⟨b3, o3, none⟩) n3 c3, .slice (some ⟨b4, o4, none⟩) n4 c4] w fun e w' => e = .returned (.bool true) ∧ Below w.heap.size w w' := by
  have C26 : Hid (Calls Try.prog 26 #[.bool true, .bool false, .bool true, .slice (some ⟨b1, o1, none⟩) n1 c1, .slice a2 n2 c2, .slice (some ⟨b3, o3, none⟩) n3 c3, .slice (some ⟨b4, o4, none⟩) n4 c4] w fun e w' => IsB e ∧ w' = w) := bytes26 true false true (some ⟨b1, o1, none⟩) a2 (some ⟨b3, o3, none⟩) (some ⟨b4, o4, none⟩) n1 c1 n2 c2 n3 c3 n4 c4 p1 p2 p3 p4 w h1.max (by unfold maxLen; omega) h3.max h4.max h1.ss h2 h3.ss h4.ss
  have D1 : Hid (Calls Try.prog 22 #[.slice (some ⟨b1, o1, none⟩) n1 c1] w fun e w' => e = .returned (.bool true) ∧ w' = w) := by
    have := validP_any (some ⟨b1, o1, none⟩) n1 c1 p1 w h1.max h1.ss
    rw [v1] at this; exact this
  have D3 : Hid (Calls Try.prog 22 #[.slice (some ⟨b3, o3, none⟩) n3 c3] w fun e w' => e = .returned (.bool true) ∧ w' = w) := by
    have := validP_any (some ⟨b3, o3, none⟩) n3 c3 p3 w h3.max h3.ss
    rw [v3] at this; exact this
  have D4 : Hid (Calls Try.prog 23 #[.slice (some ⟨b4, o4, none⟩) n4 c4] w fun e w' => e = .returned (.bool true) ∧ w' = w) := by
    have := validV_any (some ⟨b4, o4, none⟩) n4 c4 p4 w h4.max h4.ss
    rw [v4] at this; exact this
  have m1 := h1.2.1
  have H1 : Hid (Row w b1 o1 n1 p1) := h1
  have V1 : Hid (validP (bls p1) = true) := v1
  have m3 := h3.2.1
  have H3 : Hid (Row w b3 o3 n3 p3) := h3
  have V3 : Hid (validP (bls p3) = true) := v3
  have m4 := h4.2.1
  have H4 : Hid (Row w b4 o4 n4 p4) := h4
  have V4 : Hid (validV (bls p4) = true) := v4
  clear h1 v1 h3 v3 h4 v4 h2
  have hne := fun (wx : World) (a : Option Addr) (n c : Nat) => run_neq_slice_nil_any (P := Try.prog) wx 26 9 a n c 0 0 Try.underlying26
  go_enter Try.func7, Try.ntmps7
  go_wp2_with fail
  refine C26.out.mono ?_
  rintro e w' ⟨⟨r, rfl⟩, rfl⟩
  cases r
  · go_wp2_with fail
    go_ret
    exact ⟨rfl, Below.refl _ _⟩
  go_wp2_with fail
  refine D1.out.mono ?_
  rintro e w' ⟨rfl, rfl⟩
  go_wp2_with fail
  refine D3.out.mono ?_
  rintro e w' ⟨rfl, rfl⟩
  go_wp2_with fail
  refine D4.out.mono ?_
  rintro e w' ⟨rfl, rfl⟩
  have hmk := run_make_row' (P := Try.prog) 26 9 (.string ByteArray.empty) 16 Try.underlying26 info9 rfl .i64 .i64 n4 (by omega) (by omega)
  go_wp2_with fail
  clear hmk
  obtain ⟨W1, hrun1, hcell1, hbel1, hsz1⟩ := copied w' b4 o4 n4 c4 p4 H4.out.1 H4.out.2.2.1
  rw [hrun1]
  have R4 : Hid (Row W1 w'.heap.size 0 n4 p4) := ⟨H4.out.1, m4, hcell1, H4.out.2.2.2⟩
  have HB : Hid (Below w'.heap.size w' W1 ∧ w'.heap.size < W1.heap.size) := ⟨hbel1, hsz1⟩
  clear hrun1 hcell1 hbel1 hsz1
  simp only [Result.andThen]
  rw [Oper.upon_value]
  have R1 : Hid (Row W1 b1 o1 n1 p1) := H1.out.later HB.out.1
  have R3 : Hid (Row W1 b3 o3 n3 p3) := H3.out.later HB.out.1
  have C27 := acc_yny W1 b1 o1 n1 c1 b3 o3 n3 c3 w'.heap.size 0 n4 n4 p1 p3 p4 R1.out R3.out R4.out V1.out
  have L3 : Hid _ := great_law (bls p3) (bls p4) (okP_of V3.out) (okV_of V4.out)
  cases t1 : mB (bls p1) (bls p4) with
  | false =>
    have E : (false && true && decide (0 ≤ cmpV true (bls p3) (bls p4))) = false := by simp
    rw [t1] at C27
    rw [E] at C27
    have CC : Hid _ := C27
    clear C27 E
    go_wp2_with fail
    refine (Calls.mono CC.out ?_)
    rintro e W2 ⟨rfl, hb2⟩
    have HB2 : Hid (Below W1.heap.size W1 W2) := hb2
    clear hb2 CC
    go_wp2_with (first | (go_at_call 25; refine (den_row (R1.out.later (by first | exact HB2.out | exact Below.drewN HB2.out _)) (R4.out.later (by first | exact HB2.out | exact Below.drewN HB2.out _)) V1.out V4.out).mono ?_; rintro e w3 ⟨rfl, q, rfl⟩) | (go_at_call 29; refine (leG_row (R3.out.later (by first | exact HB2.out | exact Below.drewN HB2.out _)) (R4.out.later (by first | exact HB2.out | exact Below.drewN HB2.out _)) V3.out V4.out).mono ?_; rintro e w3 ⟨rfl, rfl⟩))
    go_ret
    exact ⟨rfl, by first | exact HB.out.1.trans (HB2.out.mono (Nat.le_of_lt HB.out.2)) | exact HB.out.1.trans ((Below.drewN HB2.out _).mono (Nat.le_of_lt HB.out.2))⟩
  | true =>
    rw [t1] at C27
    by_cases t3 : 0 ≤ cmpV true (bls p3) (bls p4)
    · have d3 : decide (0 ≤ cmpV true (bls p3) (bls p4)) = true := decide_eq_true t3
      have s3 : leG (bls p3) (bls p4) = true := by rw [← L3.out]; exact d3
      rw [d3] at C27
      clear t3 d3
      have E : (true && true && true) = true := rfl
      rw [E] at C27
      have CC : Hid _ := C27
      clear C27 E
      go_wp2_with fail
      refine (Calls.mono CC.out ?_)
      rintro e W2 ⟨rfl, hb2⟩
      have HB2 : Hid (Below W1.heap.size W1 W2) := hb2
      clear hb2 CC
      go_wp2_with (first | (go_at_call 25; refine (den_row (R1.out.later (by first | exact HB2.out | exact Below.drewN HB2.out _)) (R4.out.later (by first | exact HB2.out | exact Below.drewN HB2.out _)) V1.out V4.out).mono ?_; rintro e w3 ⟨rfl, q, rfl⟩) | (go_at_call 29; refine (leG_row (R3.out.later (by first | exact HB2.out | exact Below.drewN HB2.out _)) (R4.out.later (by first | exact HB2.out | exact Below.drewN HB2.out _)) V3.out V4.out).mono ?_; rintro e w3 ⟨rfl, rfl⟩))
      go_ret
      exact ⟨rfl, by first | exact HB.out.1.trans (HB2.out.mono (Nat.le_of_lt HB.out.2)) | exact HB.out.1.trans ((Below.drewN HB2.out _).mono (Nat.le_of_lt HB.out.2))⟩
    · have d3 : decide (0 ≤ cmpV true (bls p3) (bls p4)) = false := decide_eq_false t3
      have s3 : leG (bls p3) (bls p4) = false := by rw [← L3.out]; exact d3
      rw [d3] at C27
      clear t3 d3
      have E : (true && true && false) = false := rfl
      rw [E] at C27
      have CC : Hid _ := C27
      clear C27 E
      go_wp2_with fail
      refine (Calls.mono CC.out ?_)
      rintro e W2 ⟨rfl, hb2⟩
      have HB2 : Hid (Below W1.heap.size W1 W2) := hb2
      clear hb2 CC
      go_wp2_with (first | (go_at_call 25; refine (den_row (R1.out.later (by first | exact HB2.out | exact Below.drewN HB2.out _)) (R4.out.later (by first | exact HB2.out | exact Below.drewN HB2.out _)) V1.out V4.out).mono ?_; rintro e w3 ⟨rfl, q, rfl⟩) | (go_at_call 29; refine (leG_row (R3.out.later (by first | exact HB2.out | exact Below.drewN HB2.out _)) (R4.out.later (by first | exact HB2.out | exact Below.drewN HB2.out _)) V3.out V4.out).mono ?_; rintro e w3 ⟨rfl, rfl⟩))
      go_ret
      exact ⟨rfl, by first | exact HB.out.1.trans (HB2.out.mono (Nat.le_of_lt HB.out.2)) | exact HB.out.1.trans ((Below.drewN HB2.out _).mono (Nat.le_of_lt HB.out.2))⟩

set_option maxRecDepth 1000000 in
set_option maxHeartbeats 2000000 in
theorem ref_ynn (a2 a3 : Option Addr) (b1 o1 b4 o4 n1 c1 n2 c2 n3 c3 n4 c4 : Nat) (p1 p2 p3 p4 : List ByteArray) (w : World)
    (h1 : Row w b1 o1 n1 p1) (v1 : validP (bls p1) = true) (m2 : n2 ≤ 1048576) (h2 : SS w a2 n2 p2) (m3 : n3 ≤ 1048576) (h3 : SS w a3 n3 p3) (h4 : Row w b4 o4 n4 p4) (v4 : validV (bls p4) = true) :
    Calls Try.prog 7 #[.bool true, .bool false, .bool false, .slice (some ⟨b1, o1, none⟩) n1 c1, .slice a2 n2 c2, .slice a3 n3 c3, .slice (some ⟨b4, o4, none⟩) n4 c4] w fun e w' => e = .returned (.bool true) ∧ Below w.heap.size w w' := by
  have C26 : Hid (Calls Try.prog 26 #[.bool true, .bool false, .bool false, .slice (some ⟨b1, o1, none⟩) n1 c1, .slice a2 n2 c2, .slice a3 n3 c3, .slice (some ⟨b4, o4, none⟩) n4 c4] w fun e w' => IsB e ∧ w' = w) := bytes26 true false false (some ⟨b1, o1, none⟩) a2 a3 (some ⟨b4, o4, none⟩) n1 c1 n2 c2 n3 c3 n4 c4 p1 p2 p3 p4 w h1.max (by unfold maxLen; omega) (by unfold maxLen; omega) h4.max h1.ss h2 h3 h4.ss
  have D1 : Hid (Calls Try.prog 22 #[.slice (some ⟨b1, o1, none⟩) n1 c1] w fun e w' => e = .returned (.bool true) ∧ w' = w) := by
    have := validP_any (some ⟨b1, o1, none⟩) n1 c1 p1 w h1.max h1.ss
    rw [v1] at this; exact this
  have D4 : Hid (Calls Try.prog 23 #[.slice (some ⟨b4, o4, none⟩) n4 c4] w fun e w' => e = .returned (.bool true) ∧ w' = w) := by
    have := validV_any (some ⟨b4, o4, none⟩) n4 c4 p4 w h4.max h4.ss
    rw [v4] at this; exact this
  have m1 := h1.2.1
  have H1 : Hid (Row w b1 o1 n1 p1) := h1
  have V1 : Hid (validP (bls p1) = true) := v1
  have m4 := h4.2.1
  have H4 : Hid (Row w b4 o4 n4 p4) := h4
  have V4 : Hid (validV (bls p4) = true) := v4
  clear h1 v1 h4 v4 h2 h3
  have hne := fun (wx : World) (a : Option Addr) (n c : Nat) => run_neq_slice_nil_any (P := Try.prog) wx 26 9 a n c 0 0 Try.underlying26
  go_enter Try.func7, Try.ntmps7
  go_wp2_with fail
  refine C26.out.mono ?_
  rintro e w' ⟨⟨r, rfl⟩, rfl⟩
  cases r
  · go_wp2_with fail
    go_ret
    exact ⟨rfl, Below.refl _ _⟩
  go_wp2_with fail
  refine D1.out.mono ?_
  rintro e w' ⟨rfl, rfl⟩
  go_wp2_with fail
  refine D4.out.mono ?_
  rintro e w' ⟨rfl, rfl⟩
  have hmk := run_make_row' (P := Try.prog) 26 9 (.string ByteArray.empty) 16 Try.underlying26 info9 rfl .i64 .i64 n4 (by omega) (by omega)
  go_wp2_with fail
  clear hmk
  obtain ⟨W1, hrun1, hcell1, hbel1, hsz1⟩ := copied w' b4 o4 n4 c4 p4 H4.out.1 H4.out.2.2.1
  rw [hrun1]
  have R4 : Hid (Row W1 w'.heap.size 0 n4 p4) := ⟨H4.out.1, m4, hcell1, H4.out.2.2.2⟩
  have HB : Hid (Below w'.heap.size w' W1 ∧ w'.heap.size < W1.heap.size) := ⟨hbel1, hsz1⟩
  clear hrun1 hcell1 hbel1 hsz1
  simp only [Result.andThen]
  rw [Oper.upon_value]
  have R1 : Hid (Row W1 b1 o1 n1 p1) := H1.out.later HB.out.1
  have C27 := acc_ynn W1 b1 o1 n1 c1 w'.heap.size 0 n4 n4 p1 p4 R1.out R4.out V1.out
  cases t1 : mB (bls p1) (bls p4) with
  | false =>
    have E : (false && true && true) = false := by simp
    rw [t1] at C27
    rw [E] at C27
    have CC : Hid _ := C27
    clear C27 E
    go_wp2_with fail
    refine (Calls.mono CC.out ?_)
    rintro e W2 ⟨rfl, hb2⟩
    have HB2 : Hid (Below W1.heap.size W1 W2) := hb2
    clear hb2 CC
    go_wp2_with (first | (go_at_call 25; refine (den_row (R1.out.later (by first | exact HB2.out | exact Below.drewN HB2.out _)) (R4.out.later (by first | exact HB2.out | exact Below.drewN HB2.out _)) V1.out V4.out).mono ?_; rintro e w3 ⟨rfl, q, rfl⟩))
    go_ret
    exact ⟨rfl, by first | exact HB.out.1.trans (HB2.out.mono (Nat.le_of_lt HB.out.2)) | exact HB.out.1.trans ((Below.drewN HB2.out _).mono (Nat.le_of_lt HB.out.2))⟩
  | true =>
    rw [t1] at C27
    have E : (true && true && true) = true := rfl
    rw [E] at C27
    have CC : Hid _ := C27
    clear C27 E
    go_wp2_with fail
    refine (Calls.mono CC.out ?_)
    rintro e W2 ⟨rfl, hb2⟩
    have HB2 : Hid (Below W1.heap.size W1 W2) := hb2
    clear hb2 CC
    go_wp2_with (first | (go_at_call 25; refine (den_row (R1.out.later (by first | exact HB2.out | exact Below.drewN HB2.out _)) (R4.out.later (by first | exact HB2.out | exact Below.drewN HB2.out _)) V1.out V4.out).mono ?_; rintro e w3 ⟨rfl, q, rfl⟩))
    go_ret
    exact ⟨rfl, by first | exact HB.out.1.trans (HB2.out.mono (Nat.le_of_lt HB.out.2)) | exact HB.out.1.trans ((Below.drewN HB2.out _).mono (Nat.le_of_lt HB.out.2))⟩

set_option maxRecDepth 1000000 in
set_option maxHeartbeats 2000000 in
theorem ref_nyy (a1 : Option Addr) (b2 o2 b3 o3 b4 o4 n1 c1 n2 c2 n3 c3 n4 c4 : Nat) (p1 p2 p3 p4 : List ByteArray) (w : World)
    (h2 : Row w b2 o2 n2 p2) (v2 : validP (bls p2) = true) (h3 : Row w b3 o3 n3 p3) (v3 : validP (bls p3) = true) (m1 : n1 ≤ 1048576) (h1 : SS w a1 n1 p1) (h4 : Row w b4 o4 n4 p4) (v4 : validV (bls p4) = true) :
    Calls Try.prog 7 #[.bool false, .bool true, .bool true, .slice a1 n1 c1, .slice (some ⟨b2, o2, none⟩) n2 c2, .slice (some ⟨b3, o3, none⟩) n3 c3, .slice (some ⟨b4, o4, none⟩) n4 c4] w fun e w' => e = .returned (.bool true) ∧ Below w.heap.size w w' := by
  have C26 : Hid (Calls Try.prog 26 #[.bool false, .bool true, .bool true, .slice a1 n1 c1, .slice (some ⟨b2, o2, none⟩) n2 c2, .slice (some ⟨b3, o3, none⟩) n3 c3, .slice (some ⟨b4, o4, none⟩) n4 c4] w fun e w' => IsB e ∧ w' = w) := bytes26 false true true a1 (some ⟨b2, o2, none⟩) (some ⟨b3, o3, none⟩) (some ⟨b4, o4, none⟩) n1 c1 n2 c2 n3 c3 n4 c4 p1 p2 p3 p4 w (by unfold maxLen; omega) h2.max h3.max h4.max h1 h2.ss h3.ss h4.ss
  have D2 : Hid (Calls Try.prog 22 #[.slice (some ⟨b2, o2, none⟩) n2 c2] w fun e w' => e = .returned (.bool true) ∧ w' = w) := by
    have := validP_any (some ⟨b2, o2, none⟩) n2 c2 p2 w h2.max h2.ss
    rw [v2] at this; exact this
  have D3 : Hid (Calls Try.prog 22 #[.slice (some ⟨b3, o3, none⟩) n3 c3] w fun e w' => e = .returned (.bool true) ∧ w' = w) := by
    have := validP_any (some ⟨b3, o3, none⟩) n3 c3 p3 w h3.max h3.ss
    rw [v3] at this; exact this
  have D4 : Hid (Calls Try.prog 23 #[.slice (some ⟨b4, o4, none⟩) n4 c4] w fun e w' => e = .returned (.bool true) ∧ w' = w) := by
    have := validV_any (some ⟨b4, o4, none⟩) n4 c4 p4 w h4.max h4.ss
    rw [v4] at this; exact this
  have m2 := h2.2.1
  have H2 : Hid (Row w b2 o2 n2 p2) := h2
  have V2 : Hid (validP (bls p2) = true) := v2
  have m3 := h3.2.1
  have H3 : Hid (Row w b3 o3 n3 p3) := h3
  have V3 : Hid (validP (bls p3) = true) := v3
  have m4 := h4.2.1
  have H4 : Hid (Row w b4 o4 n4 p4) := h4
  have V4 : Hid (validV (bls p4) = true) := v4
  clear h2 v2 h3 v3 h4 v4 h1
  have hne := fun (wx : World) (a : Option Addr) (n c : Nat) => run_neq_slice_nil_any (P := Try.prog) wx 26 9 a n c 0 0 Try.underlying26
  go_enter Try.func7, Try.ntmps7
  go_wp2_with fail
  refine C26.out.mono ?_
  rintro e w' ⟨⟨r, rfl⟩, rfl⟩
  cases r
  · go_wp2_with fail
    go_ret
    exact ⟨rfl, Below.refl _ _⟩
  go_wp2_with fail
  refine D2.out.mono ?_
  rintro e w' ⟨rfl, rfl⟩
  go_wp2_with fail
  refine D3.out.mono ?_
  rintro e w' ⟨rfl, rfl⟩
  go_wp2_with fail
  refine D4.out.mono ?_
  rintro e w' ⟨rfl, rfl⟩
  have hmk := run_make_row' (P := Try.prog) 26 9 (.string ByteArray.empty) 16 Try.underlying26 info9 rfl .i64 .i64 n4 (by omega) (by omega)
  go_wp2_with fail
  clear hmk
  obtain ⟨W1, hrun1, hcell1, hbel1, hsz1⟩ := copied w' b4 o4 n4 c4 p4 H4.out.1 H4.out.2.2.1
  rw [hrun1]
  have R4 : Hid (Row W1 w'.heap.size 0 n4 p4) := ⟨H4.out.1, m4, hcell1, H4.out.2.2.2⟩
  have HB : Hid (Below w'.heap.size w' W1 ∧ w'.heap.size < W1.heap.size) := ⟨hbel1, hsz1⟩
  clear hrun1 hcell1 hbel1 hsz1
  simp only [Result.andThen]
  rw [Oper.upon_value]
  have R2 : Hid (Row W1 b2 o2 n2 p2) := H2.out.later HB.out.1
  have R3 : Hid (Row W1 b3 o3 n3 p3) := H3.out.later HB.out.1
  have C27 := acc_nyy W1 b2 o2 n2 c2 b3 o3 n3 c3 w'.heap.size 0 n4 n4 p2 p3 p4 R2.out R3.out R4.out
  have L2 : Hid _ := least_law (bls p2) (bls p4) (okP_of V2.out) (okV_of V4.out)
  have L3 : Hid _ := great_law (bls p3) (bls p4) (okP_of V3.out) (okV_of V4.out)
  by_cases t2 : cmpV false (bls p2) (bls p4) ≤ 0
  · have s2 : leastC (bls p2) (bls p4) ≤ 0 := L2.out.1 t2
    have d2 : decide (cmpV false (bls p2) (bls p4) ≤ 0) = true := decide_eq_true t2
    rw [d2] at C27
    clear t2 d2
    by_cases t3 : 0 ≤ cmpV true (bls p3) (bls p4)
    · have d3 : decide (0 ≤ cmpV true (bls p3) (bls p4)) = true := decide_eq_true t3
      have s3 : leG (bls p3) (bls p4) = true := by rw [← L3.out]; exact d3
      rw [d3] at C27
      clear t3 d3
      have E : (true && true && true) = true := rfl
      rw [E] at C27
      have CC : Hid _ := C27
      clear C27 E
      go_wp2_with fail
      refine (Calls.mono CC.out ?_)
      rintro e W2 ⟨rfl, hb2⟩
      have HB2 : Hid (Below W1.heap.size W1 W2) := hb2
      clear hb2 CC
      go_wp2_with (first | (go_at_call 28; refine (least_row (R2.out.later (by first | exact HB2.out | exact Below.drewN HB2.out _)) (R4.out.later (by first | exact HB2.out | exact Below.drewN HB2.out _)) V2.out V4.out).mono ?_; rintro e w3 ⟨rfl, rfl⟩) | (go_at_call 29; refine (leG_row (R3.out.later (by first | exact HB2.out | exact Below.drewN HB2.out _)) (R4.out.later (by first | exact HB2.out | exact Below.drewN HB2.out _)) V3.out V4.out).mono ?_; rintro e w3 ⟨rfl, rfl⟩))
      go_ret
      exact ⟨rfl, by first | exact HB.out.1.trans (HB2.out.mono (Nat.le_of_lt HB.out.2)) | exact HB.out.1.trans ((Below.drewN HB2.out _).mono (Nat.le_of_lt HB.out.2))⟩
    · have d3 : decide (0 ≤ cmpV true (bls p3) (bls p4)) = false := decide_eq_false t3
      have s3 : leG (bls p3) (bls p4) = false := by rw [← L3.out]; exact d3
      rw [d3] at C27
      clear t3 d3
      have E : (true && true && false) = false := rfl
      rw [E] at C27
      have CC : Hid _ := C27
      clear C27 E
      go_wp2_with fail
      refine (Calls.mono CC.out ?_)
      rintro e W2 ⟨rfl, hb2⟩
      have HB2 : Hid (Below W1.heap.size W1 W2) := hb2
      clear hb2 CC
      go_wp2_with (first | (go_at_call 28; refine (least_row (R2.out.later (by first | exact HB2.out | exact Below.drewN HB2.out _)) (R4.out.later (by first | exact HB2.out | exact Below.drewN HB2.out _)) V2.out V4.out).mono ?_; rintro e w3 ⟨rfl, rfl⟩) | (go_at_call 29; refine (leG_row (R3.out.later (by first | exact HB2.out | exact Below.drewN HB2.out _)) (R4.out.later (by first | exact HB2.out | exact Below.drewN HB2.out _)) V3.out V4.out).mono ?_; rintro e w3 ⟨rfl, rfl⟩))
      go_ret
      exact ⟨rfl, by first | exact HB.out.1.trans (HB2.out.mono (Nat.le_of_lt HB.out.2)) | exact HB.out.1.trans ((Below.drewN HB2.out _).mono (Nat.le_of_lt HB.out.2))⟩
  · have s2 : ¬ leastC (bls p2) (bls p4) ≤ 0 := fun h => t2 (L2.out.2 h)
    have d2 : decide (cmpV false (bls p2) (bls p4) ≤ 0) = false := decide_eq_false t2
    rw [d2] at C27
    clear t2 d2
    have E : (true && false && decide (0 ≤ cmpV true (bls p3) (bls p4))) = false := by simp
    rw [E] at C27
    have CC : Hid _ := C27
    clear C27 E
    go_wp2_with fail
    refine (Calls.mono CC.out ?_)
    rintro e W2 ⟨rfl, hb2⟩
    have HB2 : Hid (Below W1.heap.size W1 W2) := hb2
    clear hb2 CC
    go_wp2_with (first | (go_at_call 28; refine (least_row (R2.out.later (by first | exact HB2.out | exact Below.drewN HB2.out _)) (R4.out.later (by first | exact HB2.out | exact Below.drewN HB2.out _)) V2.out V4.out).mono ?_; rintro e w3 ⟨rfl, rfl⟩) | (go_at_call 29; refine (leG_row (R3.out.later (by first | exact HB2.out | exact Below.drewN HB2.out _)) (R4.out.later (by first | exact HB2.out | exact Below.drewN HB2.out _)) V3.out V4.out).mono ?_; rintro e w3 ⟨rfl, rfl⟩))
    go_ret
    exact ⟨rfl, by first | exact HB.out.1.trans (HB2.out.mono (Nat.le_of_lt HB.out.2)) | exact HB.out.1.trans ((Below.drewN HB2.out _).mono (Nat.le_of_lt HB.out.2))⟩

set_option maxRecDepth 1000000 in
set_option maxHeartbeats 2000000 in
theorem ref_nyn (a1 a3 : Option Addr) (b2 o2 b4 o4 n1 c1 n2 c2 n3 c3 n4 c4 : Nat) (p1 p2 p3 p4 : List ByteArray) (w : World)
    (h2 : Row w b2 o2 n2 p2) (v2 : validP (bls p2) = true) (m1 : n1 ≤ 1048576) (h1 : SS w a1 n1 p1) (m3 : n3 ≤ 1048576) (h3 : SS w a3 n3 p3) (h4 : Row w b4 o4 n4 p4) (v4 : validV (bls p4) = true) :
    Calls Try.prog 7 #[.bool false, .bool true, .bool false, .slice a1 n1 c1, .slice (some ⟨b2, o2, none⟩) n2 c2, .slice a3 n3 c3, .slice (some ⟨b4, o4, none⟩) n4 c4] w fun e w' => e = .returned (.bool true) ∧ Below w.heap.size w w' := by
  have C26 : Hid (Calls Try.prog 26 #[.bool false, .bool true, .bool false, .slice a1 n1 c1, .slice (some ⟨b2, o2, none⟩) n2 c2, .slice a3 n3 c3, .slice (some ⟨b4, o4, none⟩) n4 c4] w fun e w' => IsB e ∧ w' = w) := bytes26 false true false a1 (some ⟨b2, o2, none⟩) a3 (some ⟨b4, o4, none⟩) n1 c1 n2 c2 n3 c3 n4 c4 p1 p2 p3 p4 w (by unfold maxLen; omega) h2.max (by unfold maxLen; omega) h4.max h1 h2.ss h3 h4.ss
  have D2 : Hid (Calls Try.prog 22 #[.slice (some ⟨b2, o2, none⟩) n2 c2] w fun e w' => e = .returned (.bool true) ∧ w' = w) := by
    have := validP_any (some ⟨b2, o2, none⟩) n2 c2 p2 w h2.max h2.ss
    rw [v2] at this; exact this
  have D4 : Hid (Calls Try.prog 23 #[.slice (some ⟨b4, o4, none⟩) n4 c4] w fun e w' => e = .returned (.bool true) ∧ w' = w) := by
    have := validV_any (some ⟨b4, o4, none⟩) n4 c4 p4 w h4.max h4.ss
    rw [v4] at this; exact this
  have m2 := h2.2.1
  have H2 : Hid (Row w b2 o2 n2 p2) := h2
  have V2 : Hid (validP (bls p2) = true) := v2
  have m4 := h4.2.1
  have H4 : Hid (Row w b4 o4 n4 p4) := h4
  have V4 : Hid (validV (bls p4) = true) := v4
  clear h2 v2 h4 v4 h1 h3
  have hne := fun (wx : World) (a : Option Addr) (n c : Nat) => run_neq_slice_nil_any (P := Try.prog) wx 26 9 a n c 0 0 Try.underlying26
  go_enter Try.func7, Try.ntmps7
  go_wp2_with fail
  refine C26.out.mono ?_
  rintro e w' ⟨⟨r, rfl⟩, rfl⟩
  cases r
  · go_wp2_with fail
    go_ret
    exact ⟨rfl, Below.refl _ _⟩
  go_wp2_with fail
  refine D2.out.mono ?_
  rintro e w' ⟨rfl, rfl⟩
  go_wp2_with fail
  refine D4.out.mono ?_
  rintro e w' ⟨rfl, rfl⟩
  have hmk := run_make_row' (P := Try.prog) 26 9 (.string ByteArray.empty) 16 Try.underlying26 info9 rfl .i64 .i64 n4 (by omega) (by omega)
  go_wp2_with fail
  clear hmk
  obtain ⟨W1, hrun1, hcell1, hbel1, hsz1⟩ := copied w' b4 o4 n4 c4 p4 H4.out.1 H4.out.2.2.1
  rw [hrun1]
  have R4 : Hid (Row W1 w'.heap.size 0 n4 p4) := ⟨H4.out.1, m4, hcell1, H4.out.2.2.2⟩
  have HB : Hid (Below w'.heap.size w' W1 ∧ w'.heap.size < W1.heap.size) := ⟨hbel1, hsz1⟩
  clear hrun1 hcell1 hbel1 hsz1
  simp only [Result.andThen]
  rw [Oper.upon_value]
  have R2 : Hid (Row W1 b2 o2 n2 p2) := H2.out.later HB.out.1
  have C27 := acc_nyn W1 b2 o2 n2 c2 w'.heap.size 0 n4 n4 p2 p4 R2.out R4.out
  have L2 : Hid _ := least_law (bls p2) (bls p4) (okP_of V2.out) (okV_of V4.out)
  by_cases t2 : cmpV false (bls p2) (bls p4) ≤ 0
  · have s2 : leastC (bls p2) (bls p4) ≤ 0 := L2.out.1 t2
    have d2 : decide (cmpV false (bls p2) (bls p4) ≤ 0) = true := decide_eq_true t2
    rw [d2] at C27
    clear t2 d2
    have E : (true && true && true) = true := rfl
    rw [E] at C27
    have CC : Hid _ := C27
    clear C27 E
    go_wp2_with fail
    refine (Calls.mono CC.out ?_)
    rintro e W2 ⟨rfl, hb2⟩
    have HB2 : Hid (Below W1.heap.size W1 W2) := hb2
    clear hb2 CC
    go_wp2_with (first | (go_at_call 28; refine (least_row (R2.out.later (by first | exact HB2.out | exact Below.drewN HB2.out _)) (R4.out.later (by first | exact HB2.out | exact Below.drewN HB2.out _)) V2.out V4.out).mono ?_; rintro e w3 ⟨rfl, rfl⟩))
    go_ret
    exact ⟨rfl, by first | exact HB.out.1.trans (HB2.out.mono (Nat.le_of_lt HB.out.2)) | exact HB.out.1.trans ((Below.drewN HB2.out _).mono (Nat.le_of_lt HB.out.2))⟩
  · have s2 : ¬ leastC (bls p2) (bls p4) ≤ 0 := fun h => t2 (L2.out.2 h)
    have d2 : decide (cmpV false (bls p2) (bls p4) ≤ 0) = false := decide_eq_false t2
    rw [d2] at C27
    clear t2 d2
    have E : (true && false && true) = false := by simp
    rw [E] at C27
    have CC : Hid _ := C27
    clear C27 E
    go_wp2_with fail
    refine (Calls.mono CC.out ?_)
    rintro e W2 ⟨rfl, hb2⟩
    have HB2 : Hid (Below W1.heap.size W1 W2) := hb2
    clear hb2 CC
    go_wp2_with (first | (go_at_call 28; refine (least_row (R2.out.later (by first | exact HB2.out | exact Below.drewN HB2.out _)) (R4.out.later (by first | exact HB2.out | exact Below.drewN HB2.out _)) V2.out V4.out).mono ?_; rintro e w3 ⟨rfl, rfl⟩))
    go_ret
    exact ⟨rfl, by first | exact HB.out.1.trans (HB2.out.mono (Nat.le_of_lt HB.out.2)) | exact HB.out.1.trans ((Below.drewN HB2.out _).mono (Nat.le_of_lt HB.out.2))⟩

set_option maxRecDepth 1000000 in
set_option maxHeartbeats 2000000 in
theorem ref_nny (a1 a2 : Option Addr) (b3 o3 b4 o4 n1 c1 n2 c2 n3 c3 n4 c4 : Nat) (p1 p2 p3 p4 : List ByteArray) (w : World)
    (h3 : Row w b3 o3 n3 p3) (v3 : validP (bls p3) = true) (m1 : n1 ≤ 1048576) (h1 : SS w a1 n1 p1) (m2 : n2 ≤ 1048576) (h2 : SS w a2 n2 p2) (h4 : Row w b4 o4 n4 p4) (v4 : validV (bls p4) = true) :
    Calls Try.prog 7 #[.bool false, .bool false, .bool true, .slice a1 n1 c1, .slice a2 n2 c2, .slice (some ⟨b3, o3, none⟩) n3 c3, .slice (some ⟨b4, o4, none⟩) n4 c4] w fun e w' => e = .returned (.bool true) ∧ Below w.heap.size w w' := by
  have C26 : Hid (Calls Try.prog 26 #[.bool false, .bool false, .bool true, .slice a1 n1 c1, .slice a2 n2 c2, .slice (some ⟨b3, o3, none⟩) n3 c3, .slice (some ⟨b4, o4, none⟩) n4 c4] w fun e w' => IsB e ∧ w' = w) := bytes26 false false true a1 a2 (some ⟨b3, o3, none⟩) (some ⟨b4, o4, none⟩) n1 c1 n2 c2 n3 c3 n4 c4 p1 p2 p3 p4 w (by unfold maxLen; omega) (by unfold maxLen; omega) h3.max h4.max h1 h2 h3.ss h4.ss
  have D3 : Hid (Calls Try.prog 22 #[.slice (some ⟨b3, o3, none⟩) n3 c3] w fun e w' => e = .returned (.bool true) ∧ w' = w) := by
    have := validP_any (some ⟨b3, o3, none⟩) n3 c3 p3 w h3.max h3.ss
    rw [v3] at this; exact this
  have D4 : Hid (Calls Try.prog 23 #[.slice (some ⟨b4, o4, none⟩) n4 c4] w fun e w' => e = .returned (.bool true) ∧ w' = w) := by
    have := validV_any (some ⟨b4, o4, none⟩) n4 c4 p4 w h4.max h4.ss
    rw [v4] at this; exact this
  have m3 := h3.2.1
  have H3 : Hid (Row w b3 o3 n3 p3) := h3
  have V3 : Hid (validP (bls p3) = true) := v3
  have m4 := h4.2.1
  have H4 : Hid (Row w b4 o4 n4 p4) := h4
  have V4 : Hid (validV (bls p4) = true) := v4
  clear h3 v3 h4 v4 h1 h2
  have hne := fun (wx : World) (a : Option Addr) (n c : Nat) => run_neq_slice_nil_any (P := Try.prog) wx 26 9 a n c 0 0 Try.underlying26
  go_enter Try.func7, Try.ntmps7
  go_wp2_with fail
  refine C26.out.mono ?_
  rintro e w' ⟨⟨r, rfl⟩, rfl⟩
  cases r
  · go_wp2_with fail
    go_ret
    exact ⟨rfl, Below.refl _ _⟩
  go_wp2_with fail
  refine D3.out.mono ?_
  rintro e w' ⟨rfl, rfl⟩
  go_wp2_with fail
  refine D4.out.mono ?_
  rintro e w' ⟨rfl, rfl⟩
  have hmk := run_make_row' (P := Try.prog) 26 9 (.string ByteArray.empty) 16 Try.underlying26 info9 rfl .i64 .i64 n4 (by omega) (by omega)
  go_wp2_with fail
  clear hmk
  obtain ⟨W1, hrun1, hcell1, hbel1, hsz1⟩ := copied w' b4 o4 n4 c4 p4 H4.out.1 H4.out.2.2.1
  rw [hrun1]
  have R4 : Hid (Row W1 w'.heap.size 0 n4 p4) := ⟨H4.out.1, m4, hcell1, H4.out.2.2.2⟩
  have HB : Hid (Below w'.heap.size w' W1 ∧ w'.heap.size < W1.heap.size) := ⟨hbel1, hsz1⟩
  clear hrun1 hcell1 hbel1 hsz1
  simp only [Result.andThen]
  rw [Oper.upon_value]
  have R3 : Hid (Row W1 b3 o3 n3 p3) := H3.out.later HB.out.1
  have C27 := acc_nny W1 b3 o3 n3 c3 w'.heap.size 0 n4 n4 p3 p4 R3.out R4.out
  have L3 : Hid _ := great_law (bls p3) (bls p4) (okP_of V3.out) (okV_of V4.out)
  by_cases t3 : 0 ≤ cmpV true (bls p3) (bls p4)
  · have d3 : decide (0 ≤ cmpV true (bls p3) (bls p4)) = true := decide_eq_true t3
    have s3 : leG (bls p3) (bls p4) = true := by rw [← L3.out]; exact d3
    rw [d3] at C27
    clear t3 d3
    have E : (true && true && true) = true := rfl
    rw [E] at C27
    have CC : Hid _ := C27
    clear C27 E
    go_wp2_with fail
    refine (Calls.mono CC.out ?_)
    rintro e W2 ⟨rfl, hb2⟩
    have HB2 : Hid (Below W1.heap.size W1 W2) := hb2
    clear hb2 CC
    go_wp2_with (first | (go_at_call 29; refine (leG_row (R3.out.later (by first | exact HB2.out | exact Below.drewN HB2.out _)) (R4.out.later (by first | exact HB2.out | exact Below.drewN HB2.out _)) V3.out V4.out).mono ?_; rintro e w3 ⟨rfl, rfl⟩))
    go_ret
    exact ⟨rfl, by first | exact HB.out.1.trans (HB2.out.mono (Nat.le_of_lt HB.out.2)) | exact HB.out.1.trans ((Below.drewN HB2.out _).mono (Nat.le_of_lt HB.out.2))⟩
  · have d3 : decide (0 ≤ cmpV true (bls p3) (bls p4)) = false := decide_eq_false t3
    have s3 : leG (bls p3) (bls p4) = false := by rw [← L3.out]; exact d3
    rw [d3] at C27
    clear t3 d3
    have E : (true && true && false) = false := rfl
    rw [E] at C27
    have CC : Hid _ := C27
    clear C27 E
    go_wp2_with fail
    refine (Calls.mono CC.out ?_)
    rintro e W2 ⟨rfl, hb2⟩
    have HB2 : Hid (Below W1.heap.size W1 W2) := hb2
    clear hb2 CC
    go_wp2_with (first | (go_at_call 29; refine (leG_row (R3.out.later (by first | exact HB2.out | exact Below.drewN HB2.out _)) (R4.out.later (by first | exact HB2.out | exact Below.drewN HB2.out _)) V3.out V4.out).mono ?_; rintro e w3 ⟨rfl, rfl⟩))
    go_ret
    exact ⟨rfl, by first | exact HB.out.1.trans (HB2.out.mono (Nat.le_of_lt HB.out.2)) | exact HB.out.1.trans ((Below.drewN HB2.out _).mono (Nat.le_of_lt HB.out.2))⟩

set_option maxRecDepth 1000000 in
set_option maxHeartbeats 2000000 in
theorem ref_nnn (a1 a2 a3 : Option Addr) (b4 o4 n1 c1 n2 c2 n3 c3 n4 c4 : Nat) (p1 p2 p3 p4 : List ByteArray) (w : World)
    (m1 : n1 ≤ 1048576) (h1 : SS w a1 n1 p1) (m2 : n2 ≤ 1048576) (h2 : SS w a2 n2 p2) (m3 : n3 ≤ 1048576) (h3 : SS w a3 n3 p3) (h4 : Row w b4 o4 n4 p4) (v4 : validV (bls p4) = true) :
    Calls Try.prog 7 #[.bool false, .bool false, .bool false, .slice a1 n1 c1, .slice a2 n2 c2, .slice a3 n3 c3, .slice (some ⟨b4, o4, none⟩) n4 c4] w fun e w' => e = .returned (.bool true) ∧ Below w.heap.size w w' := by
  have C26 : Hid (Calls Try.prog 26 #[.bool false, .bool false, .bool false, .slice a1 n1 c1, .slice a2 n2 c2, .slice a3 n3 c3, .slice (some ⟨b4, o4, none⟩) n4 c4] w fun e w' => IsB e ∧ w' = w) := bytes26 false false false a1 a2 a3 (some ⟨b4, o4, none⟩) n1 c1 n2 c2 n3 c3 n4 c4 p1 p2 p3 p4 w (by unfold maxLen; omega) (by unfold maxLen; omega) (by unfold maxLen; omega) h4.max h1 h2 h3 h4.ss
  have D4 : Hid (Calls Try.prog 23 #[.slice (some ⟨b4, o4, none⟩) n4 c4] w fun e w' => e = .returned (.bool true) ∧ w' = w) := by
    have := validV_any (some ⟨b4, o4, none⟩) n4 c4 p4 w h4.max h4.ss
    rw [v4] at this; exact this
  have m4 := h4.2.1
  have H4 : Hid (Row w b4 o4 n4 p4) := h4
  have V4 : Hid (validV (bls p4) = true) := v4
  clear h4 v4 h1 h2 h3
  have hne := fun (wx : World) (a : Option Addr) (n c : Nat) => run_neq_slice_nil_any (P := Try.prog) wx 26 9 a n c 0 0 Try.underlying26
  go_enter Try.func7, Try.ntmps7
  go_wp2_with fail
  refine C26.out.mono ?_
  rintro e w' ⟨⟨r, rfl⟩, rfl⟩
  cases r
  · go_wp2_with fail
    go_ret
    exact ⟨rfl, Below.refl _ _⟩
  go_wp2_with fail
  refine D4.out.mono ?_
  rintro e w' ⟨rfl, rfl⟩
  have hmk := run_make_row' (P := Try.prog) 26 9 (.string ByteArray.empty) 16 Try.underlying26 info9 rfl .i64 .i64 n4 (by omega) (by omega)
  go_wp2_with fail
  clear hmk
  obtain ⟨W1, hrun1, hcell1, hbel1, hsz1⟩ := copied w' b4 o4 n4 c4 p4 H4.out.1 H4.out.2.2.1
  rw [hrun1]
  have R4 : Hid (Row W1 w'.heap.size 0 n4 p4) := ⟨H4.out.1, m4, hcell1, H4.out.2.2.2⟩
  have HB : Hid (Below w'.heap.size w' W1 ∧ w'.heap.size < W1.heap.size) := ⟨hbel1, hsz1⟩
  clear hrun1 hcell1 hbel1 hsz1
  simp only [Result.andThen]
  rw [Oper.upon_value]
  have C27 := acc_nnn W1 w'.heap.size 0 n4 n4 p4 R4.out
  have E : (true && true && true) = true := rfl
  rw [E] at C27
  have CC : Hid _ := C27
  clear C27 E
  go_wp2_with fail
  refine (Calls.mono CC.out ?_)
  rintro e W2 ⟨rfl, hb2⟩
  have HB2 : Hid (Below W1.heap.size W1 W2) := hb2
  clear hb2 CC
  go_wp2_with fail
  go_ret
  exact ⟨rfl, by first | exact HB.out.1.trans (HB2.out.mono (Nat.le_of_lt HB.out.2)) | exact HB.out.1.trans ((Below.drewN HB2.out _).mono (Nat.le_of_lt HB.out.2))⟩

end Go.Proofs.Qxb6002344a.Num
