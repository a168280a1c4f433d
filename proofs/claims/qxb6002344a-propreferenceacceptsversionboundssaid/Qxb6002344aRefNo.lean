/- THE LAW PropReferenceAcceptsVersionBounds: THE INPUTS THAT LEAVE IT EARLY (seat b6002344a). -/
import Derived.Test.Qxb6002344aRefBytes
import Derived.Deep.RegionWith
set_option linter.unusedVariables false
namespace Go.Proofs.Qxb6002344a.Num
open Go.RowKit Dec

set_option maxHeartbeats 1000000 in
theorem ref_size (x1 x2 x3 : Bool) (a1 a2 a3 a4 : Option Addr) (n1 c1 n2 c2 n3 c3 n4 c4 : Nat) (p1 p2 p3 p4 : List ByteArray) (w : World) (hn1 : n1 ≤ maxLen) (hn2 : n2 ≤ maxLen) (hn3 : n3 ≤ maxLen) (hn4 : n4 ≤ maxLen) (hp1 : SS w a1 n1 p1) (hp2 : SS w a2 n2 p2) (hp3 : SS w a3 n3 p3) (hp4 : SS w a4 n4 p4)
    (h : ¬ (n1 ≤ 1048576 ∧ n2 ≤ 1048576 ∧ n3 ≤ 1048576 ∧ n4 ≤ 1048576)) :
    Calls Try.prog 7 #[.bool x1, .bool x2, .bool x3, .slice a1 n1 c1, .slice a2 n2 c2, .slice a3 n3 c3, .slice a4 n4 c4] w fun e w' => e = .returned (.bool true) ∧ Below w.heap.size w w' := by
  have C26 : Hid (Calls Try.prog 26 #[.bool x1, .bool x2, .bool x3, .slice a1 n1 c1, .slice a2 n2 c2, .slice a3 n3 c3, .slice a4 n4 c4] w fun e w' => IsB e ∧ w' = w) := bytes26 x1 x2 x3 a1 a2 a3 a4 n1 c1 n2 c2 n3 c3 n4 c4 p1 p2 p3 p4 w hn1 hn2 hn3 hn4 hp1 hp2 hp3 hp4
  clear hp1 hp2 hp3 hp4
  unfold maxLen at hn1 hn2 hn3 hn4
  by_cases h1 : n1 ≤ 1048576
  · by_cases h2 : n2 ≤ 1048576
    · by_cases h3 : n3 ≤ 1048576
      · have h4 : 1048576 < n4 := by omega
        clear h
        go_enter Try.func7, Try.ntmps7
        go_wp2_with fail
        refine C26.out.mono ?_
        rintro e w' ⟨⟨r, rfl⟩, rfl⟩
        cases r
        · go_wp2_with fail
          go_ret
          exact ⟨rfl, Below.refl _ _⟩
        go_wp2_with fail
        go_ret
        exact ⟨rfl, Below.refl _ _⟩
      · clear h
        go_enter Try.func7, Try.ntmps7
        go_wp2_with fail
        refine C26.out.mono ?_
        rintro e w' ⟨⟨r, rfl⟩, rfl⟩
        cases r
        · go_wp2_with fail
          go_ret
          exact ⟨rfl, Below.refl _ _⟩
        go_wp2_with fail
        go_ret
        exact ⟨rfl, Below.refl _ _⟩
    · clear h
      go_enter Try.func7, Try.ntmps7
      go_wp2_with fail
      refine C26.out.mono ?_
      rintro e w' ⟨⟨r, rfl⟩, rfl⟩
      cases r
      · go_wp2_with fail
        go_ret
        exact ⟨rfl, Below.refl _ _⟩
      go_wp2_with fail
      go_ret
      exact ⟨rfl, Below.refl _ _⟩
  · clear h
    go_enter Try.func7, Try.ntmps7
    go_wp2_with fail
    refine C26.out.mono ?_
    rintro e w' ⟨⟨r, rfl⟩, rfl⟩
    cases r
    · go_wp2_with fail
      go_ret
      exact ⟨rfl, Below.refl _ _⟩
    go_wp2_with fail
    go_ret
    exact ⟨rfl, Below.refl _ _⟩

set_option maxHeartbeats 1000000 in
theorem ref_no1 (x2 x3 : Bool) (a1 a2 a3 a4 : Option Addr) (n1 c1 n2 c2 n3 c3 n4 c4 : Nat) (p1 p2 p3 p4 : List ByteArray) (w : World) (hn1 : n1 ≤ maxLen) (hn2 : n2 ≤ maxLen) (hn3 : n3 ≤ maxLen) (hn4 : n4 ≤ maxLen) (hp1 : SS w a1 n1 p1) (hp2 : SS w a2 n2 p2) (hp3 : SS w a3 n3 p3) (hp4 : SS w a4 n4 p4)
    (h1 : n1 ≤ 1048576) (h2 : n2 ≤ 1048576) (h3 : n3 ≤ 1048576) (h4 : n4 ≤ 1048576) (v1 : validP (bls p1) = false) :
    Calls Try.prog 7 #[.bool true, .bool x2, .bool x3, .slice a1 n1 c1, .slice a2 n2 c2, .slice a3 n3 c3, .slice a4 n4 c4] w fun e w' => e = .returned (.bool true) ∧ Below w.heap.size w w' := by
  have C26 : Hid (Calls Try.prog 26 #[.bool true, .bool x2, .bool x3, .slice a1 n1 c1, .slice a2 n2 c2, .slice a3 n3 c3, .slice a4 n4 c4] w fun e w' => IsB e ∧ w' = w) := bytes26 true x2 x3 a1 a2 a3 a4 n1 c1 n2 c2 n3 c3 n4 c4 p1 p2 p3 p4 w hn1 hn2 hn3 hn4 hp1 hp2 hp3 hp4
  have D1 : Hid (Calls Try.prog 22 #[.slice a1 n1 c1] w fun e w' => e = .returned (.bool (validP (bls p1))) ∧ w' = w) := validP_any a1 n1 c1 p1 w hn1 hp1
  clear hp1 hp2 hp3 hp4
  unfold maxLen at hn1 hn2 hn3 hn4
  go_enter Try.func7, Try.ntmps7
  go_wp2_with fail
  refine C26.out.mono ?_
  rintro e w' ⟨⟨r, rfl⟩, rfl⟩
  cases r
  · go_wp2_with fail
    go_ret
    exact ⟨rfl, Below.refl _ _⟩
  go_wp2_with fail
  refine D1.out.mono ?_
  rintro e w' ⟨rfl, rfl⟩
  go_wp2_with fail
  go_ret
  exact ⟨rfl, Below.refl _ _⟩

set_option maxHeartbeats 1000000 in
theorem ref_no2t (x3 : Bool) (a1 a2 a3 a4 : Option Addr) (n1 c1 n2 c2 n3 c3 n4 c4 : Nat) (p1 p2 p3 p4 : List ByteArray) (w : World) (hn1 : n1 ≤ maxLen) (hn2 : n2 ≤ maxLen) (hn3 : n3 ≤ maxLen) (hn4 : n4 ≤ maxLen) (hp1 : SS w a1 n1 p1) (hp2 : SS w a2 n2 p2) (hp3 : SS w a3 n3 p3) (hp4 : SS w a4 n4 p4)
    (h1 : n1 ≤ 1048576) (h2 : n2 ≤ 1048576) (h3 : n3 ≤ 1048576) (h4 : n4 ≤ 1048576) (v1 : validP (bls p1) = true) (v2 : validP (bls p2) = false) :
    Calls Try.prog 7 #[.bool true, .bool true, .bool x3, .slice a1 n1 c1, .slice a2 n2 c2, .slice a3 n3 c3, .slice a4 n4 c4] w fun e w' => e = .returned (.bool true) ∧ Below w.heap.size w w' := by
  have C26 : Hid (Calls Try.prog 26 #[.bool true, .bool true, .bool x3, .slice a1 n1 c1, .slice a2 n2 c2, .slice a3 n3 c3, .slice a4 n4 c4] w fun e w' => IsB e ∧ w' = w) := bytes26 true true x3 a1 a2 a3 a4 n1 c1 n2 c2 n3 c3 n4 c4 p1 p2 p3 p4 w hn1 hn2 hn3 hn4 hp1 hp2 hp3 hp4
  have D1 : Hid (Calls Try.prog 22 #[.slice a1 n1 c1] w fun e w' => e = .returned (.bool (validP (bls p1))) ∧ w' = w) := validP_any a1 n1 c1 p1 w hn1 hp1
  have D2 : Hid (Calls Try.prog 22 #[.slice a2 n2 c2] w fun e w' => e = .returned (.bool (validP (bls p2))) ∧ w' = w) := validP_any a2 n2 c2 p2 w hn2 hp2
  clear hp1 hp2 hp3 hp4
  unfold maxLen at hn1 hn2 hn3 hn4
  go_enter Try.func7, Try.ntmps7
  go_wp2_with fail
  refine C26.out.mono ?_
  rintro e w' ⟨⟨r, rfl⟩, rfl⟩
  cases r
  · go_wp2_with fail
    go_ret
    exact ⟨rfl, Below.refl _ _⟩
  go_wp2_with fail
  refine D1.out.mono ?_
  rintro e w' ⟨rfl, rfl⟩
  go_wp2_with fail
  refine D2.out.mono ?_
  rintro e w' ⟨rfl, rfl⟩
  go_wp2_with fail
  go_ret
  exact ⟨rfl, Below.refl _ _⟩

set_option maxHeartbeats 1000000 in
theorem ref_no2f (x3 : Bool) (a1 a2 a3 a4 : Option Addr) (n1 c1 n2 c2 n3 c3 n4 c4 : Nat) (p1 p2 p3 p4 : List ByteArray) (w : World) (hn1 : n1 ≤ maxLen) (hn2 : n2 ≤ maxLen) (hn3 : n3 ≤ maxLen) (hn4 : n4 ≤ maxLen) (hp1 : SS w a1 n1 p1) (hp2 : SS w a2 n2 p2) (hp3 : SS w a3 n3 p3) (hp4 : SS w a4 n4 p4)
    (h1 : n1 ≤ 1048576) (h2 : n2 ≤ 1048576) (h3 : n3 ≤ 1048576) (h4 : n4 ≤ 1048576) (v2 : validP (bls p2) = false) :
    Calls Try.prog 7 #[.bool false, .bool true, .bool x3, .slice a1 n1 c1, .slice a2 n2 c2, .slice a3 n3 c3, .slice a4 n4 c4] w fun e w' => e = .returned (.bool true) ∧ Below w.heap.size w w' := by
  have C26 : Hid (Calls Try.prog 26 #[.bool false, .bool true, .bool x3, .slice a1 n1 c1, .slice a2 n2 c2, .slice a3 n3 c3, .slice a4 n4 c4] w fun e w' => IsB e ∧ w' = w) := bytes26 false true x3 a1 a2 a3 a4 n1 c1 n2 c2 n3 c3 n4 c4 p1 p2 p3 p4 w hn1 hn2 hn3 hn4 hp1 hp2 hp3 hp4
  have D2 : Hid (Calls Try.prog 22 #[.slice a2 n2 c2] w fun e w' => e = .returned (.bool (validP (bls p2))) ∧ w' = w) := validP_any a2 n2 c2 p2 w hn2 hp2
  clear hp1 hp2 hp3 hp4
  unfold maxLen at hn1 hn2 hn3 hn4
  go_enter Try.func7, Try.ntmps7
  go_wp2_with fail
  refine C26.out.mono ?_
  rintro e w' ⟨⟨r, rfl⟩, rfl⟩
  cases r
  · go_wp2_with fail
    go_ret
    exact ⟨rfl, Below.refl _ _⟩
  go_wp2_with fail
  refine D2.out.mono ?_
  rintro e w' ⟨rfl, rfl⟩
  go_wp2_with fail
  go_ret
  exact ⟨rfl, Below.refl _ _⟩

set_option maxHeartbeats 1000000 in
theorem ref_no3tt (a1 a2 a3 a4 : Option Addr) (n1 c1 n2 c2 n3 c3 n4 c4 : Nat) (p1 p2 p3 p4 : List ByteArray) (w : World) (hn1 : n1 ≤ maxLen) (hn2 : n2 ≤ maxLen) (hn3 : n3 ≤ maxLen) (hn4 : n4 ≤ maxLen) (hp1 : SS w a1 n1 p1) (hp2 : SS w a2 n2 p2) (hp3 : SS w a3 n3 p3) (hp4 : SS w a4 n4 p4)
    (h1 : n1 ≤ 1048576) (h2 : n2 ≤ 1048576) (h3 : n3 ≤ 1048576) (h4 : n4 ≤ 1048576) (v1 : validP (bls p1) = true) (v2 : validP (bls p2) = true) (v3 : validP (bls p3) = false) :
    Calls Try.prog 7 #[.bool true, .bool true, .bool true, .slice a1 n1 c1, .slice a2 n2 c2, .slice a3 n3 c3, .slice a4 n4 c4] w fun e w' => e = .returned (.bool true) ∧ Below w.heap.size w w' := by
  have C26 : Hid (Calls Try.prog 26 #[.bool true, .bool true, .bool true, .slice a1 n1 c1, .slice a2 n2 c2, .slice a3 n3 c3, .slice a4 n4 c4] w fun e w' => IsB e ∧ w' = w) := bytes26 true true true a1 a2 a3 a4 n1 c1 n2 c2 n3 c3 n4 c4 p1 p2 p3 p4 w hn1 hn2 hn3 hn4 hp1 hp2 hp3 hp4
  have D1 : Hid (Calls Try.prog 22 #[.slice a1 n1 c1] w fun e w' => e = .returned (.bool (validP (bls p1))) ∧ w' = w) := validP_any a1 n1 c1 p1 w hn1 hp1
  have D2 : Hid (Calls Try.prog 22 #[.slice a2 n2 c2] w fun e w' => e = .returned (.bool (validP (bls p2))) ∧ w' = w) := validP_any a2 n2 c2 p2 w hn2 hp2
  have D3 : Hid (Calls Try.prog 22 #[.slice a3 n3 c3] w fun e w' => e = .returned (.bool (validP (bls p3))) ∧ w' = w) := validP_any a3 n3 c3 p3 w hn3 hp3
  clear hp1 hp2 hp3 hp4
  unfold maxLen at hn1 hn2 hn3 hn4
  go_enter Try.func7, Try.ntmps7
  go_wp2_with fail
  refine C26.out.mono ?_
  rintro e w' ⟨⟨r, rfl⟩, rfl⟩
  cases r
  · go_wp2_with fail
    go_ret
    exact ⟨rfl, Below.refl _ _⟩
  go_wp2_with fail
  refine D1.out.mono ?_
  rintro e w' ⟨rfl, rfl⟩
  go_wp2_with fail
  refine D2.out.mono ?_
  rintro e w' ⟨rfl, rfl⟩
  go_wp2_with fail
  refine D3.out.mono ?_
  rintro e w' ⟨rfl, rfl⟩
  go_wp2_with fail
  go_ret
  exact ⟨rfl, Below.refl _ _⟩

set_option maxHeartbeats 1000000 in
theorem ref_no3tf (a1 a2 a3 a4 : Option Addr) (n1 c1 n2 c2 n3 c3 n4 c4 : Nat) (p1 p2 p3 p4 : List ByteArray) (w : World) (hn1 : n1 ≤ maxLen) (hn2 : n2 ≤ maxLen) (hn3 : n3 ≤ maxLen) (hn4 : n4 ≤ maxLen) (hp1 : SS w a1 n1 p1) (hp2 : SS w a2 n2 p2) (hp3 : SS w a3 n3 p3) (hp4 : SS w a4 n4 p4)
    (h1 : n1 ≤ 1048576) (h2 : n2 ≤ 1048576) (h3 : n3 ≤ 1048576) (h4 : n4 ≤ 1048576) (v1 : validP (bls p1) = true) (v3 : validP (bls p3) = false) :
    Calls Try.prog 7 #[.bool true, .bool false, .bool true, .slice a1 n1 c1, .slice a2 n2 c2, .slice a3 n3 c3, .slice a4 n4 c4] w fun e w' => e = .returned (.bool true) ∧ Below w.heap.size w w' := by
  have C26 : Hid (Calls Try.prog 26 #[.bool true, .bool false, .bool true, .slice a1 n1 c1, .slice a2 n2 c2, .slice a3 n3 c3, .slice a4 n4 c4] w fun e w' => IsB e ∧ w' = w) := bytes26 true false true a1 a2 a3 a4 n1 c1 n2 c2 n3 c3 n4 c4 p1 p2 p3 p4 w hn1 hn2 hn3 hn4 hp1 hp2 hp3 hp4
  have D1 : Hid (Calls Try.prog 22 #[.slice a1 n1 c1] w fun e w' => e = .returned (.bool (validP (bls p1))) ∧ w' = w) := validP_any a1 n1 c1 p1 w hn1 hp1
  have D3 : Hid (Calls Try.prog 22 #[.slice a3 n3 c3] w fun e w' => e = .returned (.bool (validP (bls p3))) ∧ w' = w) := validP_any a3 n3 c3 p3 w hn3 hp3
  clear hp1 hp2 hp3 hp4
  unfold maxLen at hn1 hn2 hn3 hn4
  go_enter Try.func7, Try.ntmps7
  go_wp2_with fail
  refine C26.out.mono ?_
  rintro e w' ⟨⟨r, rfl⟩, rfl⟩
  cases r
  · go_wp2_with fail
    go_ret
    exact ⟨rfl, Below.refl _ _⟩
  go_wp2_with fail
  refine D1.out.mono ?_
  rintro e w' ⟨rfl, rfl⟩
  go_wp2_with fail
  refine D3.out.mono ?_
  rintro e w' ⟨rfl, rfl⟩
  go_wp2_with fail
  go_ret
  exact ⟨rfl, Below.refl _ _⟩

set_option maxHeartbeats 1000000 in
theorem ref_no3ft (a1 a2 a3 a4 : Option Addr) (n1 c1 n2 c2 n3 c3 n4 c4 : Nat) (p1 p2 p3 p4 : List ByteArray) (w : World) (hn1 : n1 ≤ maxLen) (hn2 : n2 ≤ maxLen) (hn3 : n3 ≤ maxLen) (hn4 : n4 ≤ maxLen) (hp1 : SS w a1 n1 p1) (hp2 : SS w a2 n2 p2) (hp3 : SS w a3 n3 p3) (hp4 : SS w a4 n4 p4)
    (h1 : n1 ≤ 1048576) (h2 : n2 ≤ 1048576) (h3 : n3 ≤ 1048576) (h4 : n4 ≤ 1048576) (v2 : validP (bls p2) = true) (v3 : validP (bls p3) = false) :
    Calls Try.prog 7 #[.bool false, .bool true, .bool true, .slice a1 n1 c1, .slice a2 n2 c2, .slice a3 n3 c3, .slice a4 n4 c4] w fun e w' => e = .returned (.bool true) ∧ Below w.heap.size w w' := by
  have C26 : Hid (Calls Try.prog 26 #[.bool false, .bool true, .bool true, .slice a1 n1 c1, .slice a2 n2 c2, .slice a3 n3 c3, .slice a4 n4 c4] w fun e w' => IsB e ∧ w' = w) := bytes26 false true true a1 a2 a3 a4 n1 c1 n2 c2 n3 c3 n4 c4 p1 p2 p3 p4 w hn1 hn2 hn3 hn4 hp1 hp2 hp3 hp4
  have D2 : Hid (Calls Try.prog 22 #[.slice a2 n2 c2] w fun e w' => e = .returned (.bool (validP (bls p2))) ∧ w' = w) := validP_any a2 n2 c2 p2 w hn2 hp2
  have D3 : Hid (Calls Try.prog 22 #[.slice a3 n3 c3] w fun e w' => e = .returned (.bool (validP (bls p3))) ∧ w' = w) := validP_any a3 n3 c3 p3 w hn3 hp3
  clear hp1 hp2 hp3 hp4
  unfold maxLen at hn1 hn2 hn3 hn4
  go_enter Try.func7, Try.ntmps7
  go_wp2_with fail
  refine C26.out.mono ?_
  rintro e w' ⟨⟨r, rfl⟩, rfl⟩
  cases r
  · go_wp2_with fail
    go_ret
    exact ⟨rfl, Below.refl _ _⟩
  go_wp2_with fail
  refine D2.out.mono ?_
  rintro e w' ⟨rfl, rfl⟩
  go_wp2_with fail
  refine D3.out.mono ?_
  rintro e w' ⟨rfl, rfl⟩
  go_wp2_with fail
  go_ret
  exact ⟨rfl, Below.refl _ _⟩

set_option maxHeartbeats 1000000 in
theorem ref_no3ff (a1 a2 a3 a4 : Option Addr) (n1 c1 n2 c2 n3 c3 n4 c4 : Nat) (p1 p2 p3 p4 : List ByteArray) (w : World) (hn1 : n1 ≤ maxLen) (hn2 : n2 ≤ maxLen) (hn3 : n3 ≤ maxLen) (hn4 : n4 ≤ maxLen) (hp1 : SS w a1 n1 p1) (hp2 : SS w a2 n2 p2) (hp3 : SS w a3 n3 p3) (hp4 : SS w a4 n4 p4)
    (h1 : n1 ≤ 1048576) (h2 : n2 ≤ 1048576) (h3 : n3 ≤ 1048576) (h4 : n4 ≤ 1048576) (v3 : validP (bls p3) = false) :
    Calls Try.prog 7 #[.bool false, .bool false, .bool true, .slice a1 n1 c1, .slice a2 n2 c2, .slice a3 n3 c3, .slice a4 n4 c4] w fun e w' => e = .returned (.bool true) ∧ Below w.heap.size w w' := by
  have C26 : Hid (Calls Try.prog 26 #[.bool false, .bool false, .bool true, .slice a1 n1 c1, .slice a2 n2 c2, .slice a3 n3 c3, .slice a4 n4 c4] w fun e w' => IsB e ∧ w' = w) := bytes26 false false true a1 a2 a3 a4 n1 c1 n2 c2 n3 c3 n4 c4 p1 p2 p3 p4 w hn1 hn2 hn3 hn4 hp1 hp2 hp3 hp4
  have D3 : Hid (Calls Try.prog 22 #[.slice a3 n3 c3] w fun e w' => e = .returned (.bool (validP (bls p3))) ∧ w' = w) := validP_any a3 n3 c3 p3 w hn3 hp3
  clear hp1 hp2 hp3 hp4
  unfold maxLen at hn1 hn2 hn3 hn4
  go_enter Try.func7, Try.ntmps7
  go_wp2_with fail
  refine C26.out.mono ?_
  rintro e w' ⟨⟨r, rfl⟩, rfl⟩
  cases r
  · go_wp2_with fail
    go_ret
    exact ⟨rfl, Below.refl _ _⟩
  go_wp2_with fail
  refine D3.out.mono ?_
  rintro e w' ⟨rfl, rfl⟩
  go_wp2_with fail
  go_ret
  exact ⟨rfl, Below.refl _ _⟩

set_option maxHeartbeats 1000000 in
theorem ref_no4ttt (a1 a2 a3 a4 : Option Addr) (n1 c1 n2 c2 n3 c3 n4 c4 : Nat) (p1 p2 p3 p4 : List ByteArray) (w : World) (hn1 : n1 ≤ maxLen) (hn2 : n2 ≤ maxLen) (hn3 : n3 ≤ maxLen) (hn4 : n4 ≤ maxLen) (hp1 : SS w a1 n1 p1) (hp2 : SS w a2 n2 p2) (hp3 : SS w a3 n3 p3) (hp4 : SS w a4 n4 p4)
    (h1 : n1 ≤ 1048576) (h2 : n2 ≤ 1048576) (h3 : n3 ≤ 1048576) (h4 : n4 ≤ 1048576) (v1 : validP (bls p1) = true) (v2 : validP (bls p2) = true) (v3 : validP (bls p3) = true) (v4 : validV (bls p4) = false) :
    Calls Try.prog 7 #[.bool true, .bool true, .bool true, .slice a1 n1 c1, .slice a2 n2 c2, .slice a3 n3 c3, .slice a4 n4 c4] w fun e w' => e = .returned (.bool true) ∧ Below w.heap.size w w' := by
  have C26 : Hid (Calls Try.prog 26 #[.bool true, .bool true, .bool true, .slice a1 n1 c1, .slice a2 n2 c2, .slice a3 n3 c3, .slice a4 n4 c4] w fun e w' => IsB e ∧ w' = w) := bytes26 true true true a1 a2 a3 a4 n1 c1 n2 c2 n3 c3 n4 c4 p1 p2 p3 p4 w hn1 hn2 hn3 hn4 hp1 hp2 hp3 hp4
  have D1 : Hid (Calls Try.prog 22 #[.slice a1 n1 c1] w fun e w' => e = .returned (.bool (validP (bls p1))) ∧ w' = w) := validP_any a1 n1 c1 p1 w hn1 hp1
  have D2 : Hid (Calls Try.prog 22 #[.slice a2 n2 c2] w fun e w' => e = .returned (.bool (validP (bls p2))) ∧ w' = w) := validP_any a2 n2 c2 p2 w hn2 hp2
  have D3 : Hid (Calls Try.prog 22 #[.slice a3 n3 c3] w fun e w' => e = .returned (.bool (validP (bls p3))) ∧ w' = w) := validP_any a3 n3 c3 p3 w hn3 hp3
  have D4 : Hid (Calls Try.prog 23 #[.slice a4 n4 c4] w fun e w' => e = .returned (.bool (validV (bls p4))) ∧ w' = w) := validV_any a4 n4 c4 p4 w hn4 hp4
  clear hp1 hp2 hp3 hp4
  unfold maxLen at hn1 hn2 hn3 hn4
  go_enter Try.func7, Try.ntmps7
  go_wp2_with fail
  refine C26.out.mono ?_
  rintro e w' ⟨⟨r, rfl⟩, rfl⟩
  cases r
  · go_wp2_with fail
    go_ret
    exact ⟨rfl, Below.refl _ _⟩
  go_wp2_with fail
  refine D1.out.mono ?_
  rintro e w' ⟨rfl, rfl⟩
  go_wp2_with fail
  refine D2.out.mono ?_
  rintro e w' ⟨rfl, rfl⟩
  go_wp2_with fail
  refine D3.out.mono ?_
  rintro e w' ⟨rfl, rfl⟩
  go_wp2_with fail
  refine D4.out.mono ?_
  rintro e w' ⟨rfl, rfl⟩
  go_wp2_with fail
  go_ret
  exact ⟨rfl, Below.refl _ _⟩

set_option maxHeartbeats 1000000 in
theorem ref_no4ttf (a1 a2 a3 a4 : Option Addr) (n1 c1 n2 c2 n3 c3 n4 c4 : Nat) (p1 p2 p3 p4 : List ByteArray) (w : World) (hn1 : n1 ≤ maxLen) (hn2 : n2 ≤ maxLen) (hn3 : n3 ≤ maxLen) (hn4 : n4 ≤ maxLen) (hp1 : SS w a1 n1 p1) (hp2 : SS w a2 n2 p2) (hp3 : SS w a3 n3 p3) (hp4 : SS w a4 n4 p4)
    (h1 : n1 ≤ 1048576) (h2 : n2 ≤ 1048576) (h3 : n3 ≤ 1048576) (h4 : n4 ≤ 1048576) (v1 : validP (bls p1) = true) (v2 : validP (bls p2) = true) (v4 : validV (bls p4) = false) :
    Calls Try.prog 7 #[.bool true, .bool true, .bool false, .slice a1 n1 c1, .slice a2 n2 c2, .slice a3 n3 c3, .slice a4 n4 c4] w fun e w' => e = .returned (.bool true) ∧ Below w.heap.size w w' := by
  have C26 : Hid (Calls Try.prog 26 #[.bool true, .bool true, .bool false, .slice a1 n1 c1, .slice a2 n2 c2, .slice a3 n3 c3, .slice a4 n4 c4] w fun e w' => IsB e ∧ w' = w) := bytes26 true true false a1 a2 a3 a4 n1 c1 n2 c2 n3 c3 n4 c4 p1 p2 p3 p4 w hn1 hn2 hn3 hn4 hp1 hp2 hp3 hp4
  have D1 : Hid (Calls Try.prog 22 #[.slice a1 n1 c1] w fun e w' => e = .returned (.bool (validP (bls p1))) ∧ w' = w) := validP_any a1 n1 c1 p1 w hn1 hp1
  have D2 : Hid (Calls Try.prog 22 #[.slice a2 n2 c2] w fun e w' => e = .returned (.bool (validP (bls p2))) ∧ w' = w) := validP_any a2 n2 c2 p2 w hn2 hp2
  have D4 : Hid (Calls Try.prog 23 #[.slice a4 n4 c4] w fun e w' => e = .returned (.bool (validV (bls p4))) ∧ w' = w) := validV_any a4 n4 c4 p4 w hn4 hp4
  clear hp1 hp2 hp3 hp4
  unfold maxLen at hn1 hn2 hn3 hn4
  go_enter Try.func7, Try.ntmps7
  go_wp2_with fail
  refine C26.out.mono ?_
  rintro e w' ⟨⟨r, rfl⟩, rfl⟩
  cases r
  · go_wp2_with fail
    go_ret
    exact ⟨rfl, Below.refl _ _⟩
  go_wp2_with fail
  refine D1.out.mono ?_
  rintro e w' ⟨rfl, rfl⟩
  go_wp2_with fail
  refine D2.out.mono ?_
  rintro e w' ⟨rfl, rfl⟩
  go_wp2_with fail
  refine D4.out.mono ?_
  rintro e w' ⟨rfl, rfl⟩
  go_wp2_with fail
  go_ret
  exact ⟨rfl, Below.refl _ _⟩

set_option maxHeartbeats 1000000 in
theorem ref_no4tft (a1 a2 a3 a4 : Option Addr) (n1 c1 n2 c2 n3 c3 n4 c4 : Nat) (p1 p2 p3 p4 : List ByteArray) (w : World) (hn1 : n1 ≤ maxLen) (hn2 : n2 ≤ maxLen) (hn3 : n3 ≤ maxLen) (hn4 : n4 ≤ maxLen) (hp1 : SS w a1 n1 p1) (hp2 : SS w a2 n2 p2) (hp3 : SS w a3 n3 p3) (hp4 : SS w a4 n4 p4)
    (h1 : n1 ≤ 1048576) (h2 : n2 ≤ 1048576) (h3 : n3 ≤ 1048576) (h4 : n4 ≤ 1048576) (v1 : validP (bls p1) = true) (v3 : validP (bls p3) = true) (v4 : validV (bls p4) = false) :
    Calls Try.prog 7 #[.bool true, .bool false, .bool true, .slice a1 n1 c1, .slice a2 n2 c2, .slice a3 n3 c3, .slice a4 n4 c4] w fun e w' => e = .returned (.bool true) ∧ Below w.heap.size w w' := by
  have C26 : Hid (Calls Try.prog 26 #[.bool true, .bool false, .bool true, .slice a1 n1 c1, .slice a2 n2 c2, .slice a3 n3 c3, .slice a4 n4 c4] w fun e w' => IsB e ∧ w' = w) := bytes26 true false true a1 a2 a3 a4 n1 c1 n2 c2 n3 c3 n4 c4 p1 p2 p3 p4 w hn1 hn2 hn3 hn4 hp1 hp2 hp3 hp4
  have D1 : Hid (Calls Try.prog 22 #[.slice a1 n1 c1] w fun e w' => e = .returned (.bool (validP (bls p1))) ∧ w' = w) := validP_any a1 n1 c1 p1 w hn1 hp1
  have D3 : Hid (Calls Try.prog 22 #[.slice a3 n3 c3] w fun e w' => e = .returned (.bool (validP (bls p3))) ∧ w' = w) := validP_any a3 n3 c3 p3 w hn3 hp3
  have D4 : Hid (Calls Try.prog 23 #[.slice a4 n4 c4] w fun e w' => e = .returned (.bool (validV (bls p4))) ∧ w' = w) := validV_any a4 n4 c4 p4 w hn4 hp4
  clear hp1 hp2 hp3 hp4
  unfold maxLen at hn1 hn2 hn3 hn4
  go_enter Try.func7, Try.ntmps7
  go_wp2_with fail
  refine C26.out.mono ?_
  rintro e w' ⟨⟨r, rfl⟩, rfl⟩
  cases r
  · go_wp2_with fail
    go_ret
    exact ⟨rfl, Below.refl _ _⟩
  go_wp2_with fail
  refine D1.out.mono ?_
  rintro e w' ⟨rfl, rfl⟩
  go_wp2_with fail
  refine D3.out.mono ?_
  rintro e w' ⟨rfl, rfl⟩
  go_wp2_with fail
  refine D4.out.mono ?_
  rintro e w' ⟨rfl, rfl⟩
  go_wp2_with fail
  go_ret
  exact ⟨rfl, Below.refl _ _⟩

set_option maxHeartbeats 1000000 in
theorem ref_no4tff (a1 a2 a3 a4 : Option Addr) (n1 c1 n2 c2 n3 c3 n4 c4 : Nat) (p1 p2 p3 p4 : List ByteArray) (w : World) (hn1 : n1 ≤ maxLen) (hn2 : n2 ≤ maxLen) (hn3 : n3 ≤ maxLen) (hn4 : n4 ≤ maxLen) (hp1 : SS w a1 n1 p1) (hp2 : SS w a2 n2 p2) (hp3 : SS w a3 n3 p3) (hp4 : SS w a4 n4 p4)
    (h1 : n1 ≤ 1048576) (h2 : n2 ≤ 1048576) (h3 : n3 ≤ 1048576) (h4 : n4 ≤ 1048576) (v1 : validP (bls p1) = true) (v4 : validV (bls p4) = false) :
    Calls Try.prog 7 #[.bool true, .bool false, .bool false, .slice a1 n1 c1, .slice a2 n2 c2, .slice a3 n3 c3, .slice a4 n4 c4] w fun e w' => e = .returned (.bool true) ∧ Below w.heap.size w w' := by
  have C26 : Hid (Calls Try.prog 26 #[.bool true, .bool false, .bool false, .slice a1 n1 c1, .slice a2 n2 c2, .slice a3 n3 c3, .slice a4 n4 c4] w fun e w' => IsB e ∧ w' = w) := bytes26 true false false a1 a2 a3 a4 n1 c1 n2 c2 n3 c3 n4 c4 p1 p2 p3 p4 w hn1 hn2 hn3 hn4 hp1 hp2 hp3 hp4
  have D1 : Hid (Calls Try.prog 22 #[.slice a1 n1 c1] w fun e w' => e = .returned (.bool (validP (bls p1))) ∧ w' = w) := validP_any a1 n1 c1 p1 w hn1 hp1
  have D4 : Hid (Calls Try.prog 23 #[.slice a4 n4 c4] w fun e w' => e = .returned (.bool (validV (bls p4))) ∧ w' = w) := validV_any a4 n4 c4 p4 w hn4 hp4
  clear hp1 hp2 hp3 hp4
  unfold maxLen at hn1 hn2 hn3 hn4
  go_enter Try.func7, Try.ntmps7
  go_wp2_with fail
  refine C26.out.mono ?_
  rintro e w' ⟨⟨r, rfl⟩, rfl⟩
  cases r
  · go_wp2_with fail
    go_ret
    exact ⟨rfl, Below.refl _ _⟩
  go_wp2_with fail
  refine D1.out.mono ?_
  rintro e w' ⟨rfl, rfl⟩
  go_wp2_with fail
  refine D4.out.mono ?_
  rintro e w' ⟨rfl, rfl⟩
  go_wp2_with fail
  go_ret
  exact ⟨rfl, Below.refl _ _⟩

set_option maxHeartbeats 1000000 in
theorem ref_no4ftt (a1 a2 a3 a4 : Option Addr) (n1 c1 n2 c2 n3 c3 n4 c4 : Nat) (p1 p2 p3 p4 : List ByteArray) (w : World) (hn1 : n1 ≤ maxLen) (hn2 : n2 ≤ maxLen) (hn3 : n3 ≤ maxLen) (hn4 : n4 ≤ maxLen) (hp1 : SS w a1 n1 p1) (hp2 : SS w a2 n2 p2) (hp3 : SS w a3 n3 p3) (hp4 : SS w a4 n4 p4)
    (h1 : n1 ≤ 1048576) (h2 : n2 ≤ 1048576) (h3 : n3 ≤ 1048576) (h4 : n4 ≤ 1048576) (v2 : validP (bls p2) = true) (v3 : validP (bls p3) = true) (v4 : validV (bls p4) = false) :
    Calls Try.prog 7 #[.bool false, .bool true, .bool true, .slice a1 n1 c1, .slice a2 n2 c2, .slice a3 n3 c3, .slice a4 n4 c4] w fun e w' => e = .returned (.bool true) ∧ Below w.heap.size w w' := by
  have C26 : Hid (Calls Try.prog 26 #[.bool false, .bool true, .bool true, .slice a1 n1 c1, .slice a2 n2 c2, .slice a3 n3 c3, .slice a4 n4 c4] w fun e w' => IsB e ∧ w' = w) := bytes26 false true true a1 a2 a3 a4 n1 c1 n2 c2 n3 c3 n4 c4 p1 p2 p3 p4 w hn1 hn2 hn3 hn4 hp1 hp2 hp3 hp4
  have D2 : Hid (Calls Try.prog 22 #[.slice a2 n2 c2] w fun e w' => e = .returned (.bool (validP (bls p2))) ∧ w' = w) := validP_any a2 n2 c2 p2 w hn2 hp2
  have D3 : Hid (Calls Try.prog 22 #[.slice a3 n3 c3] w fun e w' => e = .returned (.bool (validP (bls p3))) ∧ w' = w) := validP_any a3 n3 c3 p3 w hn3 hp3
  have D4 : Hid (Calls Try.prog 23 #[.slice a4 n4 c4] w fun e w' => e = .returned (.bool (validV (bls p4))) ∧ w' = w) := validV_any a4 n4 c4 p4 w hn4 hp4
  clear hp1 hp2 hp3 hp4
  unfold maxLen at hn1 hn2 hn3 hn4
  go_enter Try.func7, Try.ntmps7
  go_wp2_with fail
  refine C26.out.mono ?_
  rintro e w' ⟨⟨r, rfl⟩, rfl⟩
  cases r
  · go_wp2_with fail
    go_ret
    exact ⟨rfl, Below.refl _ _⟩
  go_wp2_with fail
  refine D2.out.mono ?_
  rintro e w' ⟨rfl, rfl⟩
  go_wp2_with fail
  refine D3.out.mono ?_
  rintro e w' ⟨rfl, rfl⟩
  go_wp2_with fail
  refine D4.out.mono ?_
  rintro e w' ⟨rfl, rfl⟩
  go_wp2_with fail
  go_ret
  exact ⟨rfl, Below.refl _ _⟩

set_option maxHeartbeats 1000000 in
theorem ref_no4ftf (a1 a2 a3 a4 : Option Addr) (n1 c1 n2 c2 n3 c3 n4 c4 : Nat) (p1 p2 p3 p4 : List ByteArray) (w : World) (hn1 : n1 ≤ maxLen) (hn2 : n2 ≤ maxLen) (hn3 : n3 ≤ maxLen) (hn4 : n4 ≤ maxLen) (hp1 : SS w a1 n1 p1) (hp2 : SS w a2 n2 p2) (hp3 : SS w a3 n3 p3) (hp4 : SS w a4 n4 p4)
    (h1 : n1 ≤ 1048576) (h2 : n2 ≤ 1048576) (h3 : n3 ≤ 1048576) (h4 : n4 ≤ 1048576) (v2 : validP (bls p2) = true) (v4 : validV (bls p4) = false) :
    Calls Try.prog 7 #[.bool false, .bool true, .bool false, .slice a1 n1 c1, .slice a2 n2 c2, .slice a3 n3 c3, .slice a4 n4 c4] w fun e w' => e = .returned (.bool true) ∧ Below w.heap.size w w' := by
  have C26 : Hid (Calls Try.prog 26 #[.bool false, .bool true, .bool false, .slice a1 n1 c1, .slice a2 n2 c2, .slice a3 n3 c3, .slice a4 n4 c4] w fun e w' => IsB e ∧ w' = w) := bytes26 false true false a1 a2 a3 a4 n1 c1 n2 c2 n3 c3 n4 c4 p1 p2 p3 p4 w hn1 hn2 hn3 hn4 hp1 hp2 hp3 hp4
  have D2 : Hid (Calls Try.prog 22 #[.slice a2 n2 c2] w fun e w' => e = .returned (.bool (validP (bls p2))) ∧ w' = w) := validP_any a2 n2 c2 p2 w hn2 hp2
  have D4 : Hid (Calls Try.prog 23 #[.slice a4 n4 c4] w fun e w' => e = .returned (.bool (validV (bls p4))) ∧ w' = w) := validV_any a4 n4 c4 p4 w hn4 hp4
  clear hp1 hp2 hp3 hp4
  unfold maxLen at hn1 hn2 hn3 hn4
  go_enter Try.func7, Try.ntmps7
  go_wp2_with fail
  refine C26.out.mono ?_
  rintro e w' ⟨⟨r, rfl⟩, rfl⟩
  cases r
  · go_wp2_with fail
    go_ret
    exact ⟨rfl, Below.refl _ _⟩
  go_wp2_with fail
  refine D2.out.mono ?_
  rintro e w' ⟨rfl, rfl⟩
  go_wp2_with fail
  refine D4.out.mono ?_
  rintro e w' ⟨rfl, rfl⟩
  go_wp2_with fail
  go_ret
  exact ⟨rfl, Below.refl _ _⟩

set_option maxHeartbeats 1000000 in
theorem ref_no4fft (a1 a2 a3 a4 : Option Addr) (n1 c1 n2 c2 n3 c3 n4 c4 : Nat) (p1 p2 p3 p4 : List ByteArray) (w : World) (hn1 : n1 ≤ maxLen) (hn2 : n2 ≤ maxLen) (hn3 : n3 ≤ maxLen) (hn4 : n4 ≤ maxLen) (hp1 : SS w a1 n1 p1) (hp2 : SS w a2 n2 p2) (hp3 : SS w a3 n3 p3) (hp4 : SS w a4 n4 p4)
    (h1 : n1 ≤ 1048576) (h2 : n2 ≤ 1048576) (h3 : n3 ≤ 1048576) (h4 : n4 ≤ 1048576) (v3 : validP (bls p3) = true) (v4 : validV (bls p4) = false) :
    Calls Try.prog 7 #[.bool false, .bool false, .bool true, .slice a1 n1 c1, .slice a2 n2 c2, .slice a3 n3 c3, .slice a4 n4 c4] w fun e w' => e = .returned (.bool true) ∧ Below w.heap.size w w' := by
  have C26 : Hid (Calls Try.prog 26 #[.bool false, .bool false, .bool true, .slice a1 n1 c1, .slice a2 n2 c2, .slice a3 n3 c3, .slice a4 n4 c4] w fun e w' => IsB e ∧ w' = w) := bytes26 false false true a1 a2 a3 a4 n1 c1 n2 c2 n3 c3 n4 c4 p1 p2 p3 p4 w hn1 hn2 hn3 hn4 hp1 hp2 hp3 hp4
  have D3 : Hid (Calls Try.prog 22 #[.slice a3 n3 c3] w fun e w' => e = .returned (.bool (validP (bls p3))) ∧ w' = w) := validP_any a3 n3 c3 p3 w hn3 hp3
  have D4 : Hid (Calls Try.prog 23 #[.slice a4 n4 c4] w fun e w' => e = .returned (.bool (validV (bls p4))) ∧ w' = w) := validV_any a4 n4 c4 p4 w hn4 hp4
  clear hp1 hp2 hp3 hp4
  unfold maxLen at hn1 hn2 hn3 hn4
  go_enter Try.func7, Try.ntmps7
  go_wp2_with fail
  refine C26.out.mono ?_
  rintro e w' ⟨⟨r, rfl⟩, rfl⟩
  cases r
  · go_wp2_with fail
    go_ret
    exact ⟨rfl, Below.refl _ _⟩
  go_wp2_with fail
  refine D3.out.mono ?_
  rintro e w' ⟨rfl, rfl⟩
  go_wp2_with fail
  refine D4.out.mono ?_
  rintro e w' ⟨rfl, rfl⟩
  go_wp2_with fail
  go_ret
  exact ⟨rfl, Below.refl _ _⟩

set_option maxHeartbeats 1000000 in
theorem ref_no4fff (a1 a2 a3 a4 : Option Addr) (n1 c1 n2 c2 n3 c3 n4 c4 : Nat) (p1 p2 p3 p4 : List ByteArray) (w : World) (hn1 : n1 ≤ maxLen) (hn2 : n2 ≤ maxLen) (hn3 : n3 ≤ maxLen) (hn4 : n4 ≤ maxLen) (hp1 : SS w a1 n1 p1) (hp2 : SS w a2 n2 p2) (hp3 : SS w a3 n3 p3) (hp4 : SS w a4 n4 p4)
    (h1 : n1 ≤ 1048576) (h2 : n2 ≤ 1048576) (h3 : n3 ≤ 1048576) (h4 : n4 ≤ 1048576) (v4 : validV (bls p4) = false) :
    Calls Try.prog 7 #[.bool false, .bool false, .bool false, .slice a1 n1 c1, .slice a2 n2 c2, .slice a3 n3 c3, .slice a4 n4 c4] w fun e w' => e = .returned (.bool true) ∧ Below w.heap.size w w' := by
  have C26 : Hid (Calls Try.prog 26 #[.bool false, .bool false, .bool false, .slice a1 n1 c1, .slice a2 n2 c2, .slice a3 n3 c3, .slice a4 n4 c4] w fun e w' => IsB e ∧ w' = w) := bytes26 false false false a1 a2 a3 a4 n1 c1 n2 c2 n3 c3 n4 c4 p1 p2 p3 p4 w hn1 hn2 hn3 hn4 hp1 hp2 hp3 hp4
  have D4 : Hid (Calls Try.prog 23 #[.slice a4 n4 c4] w fun e w' => e = .returned (.bool (validV (bls p4))) ∧ w' = w) := validV_any a4 n4 c4 p4 w hn4 hp4
  clear hp1 hp2 hp3 hp4
  unfold maxLen at hn1 hn2 hn3 hn4
  go_enter Try.func7, Try.ntmps7
  go_wp2_with fail
  refine C26.out.mono ?_
  rintro e w' ⟨⟨r, rfl⟩, rfl⟩
  cases r
  · go_wp2_with fail
    go_ret
    exact ⟨rfl, Below.refl _ _⟩
  go_wp2_with fail
  refine D4.out.mono ?_
  rintro e w' ⟨rfl, rfl⟩
  go_wp2_with fail
  go_ret
  exact ⟨rfl, Below.refl _ _⟩

end Go.Proofs.Qxb6002344a.Num
