/- THE LAW PropReferenceAcceptsVersionBounds: ALL INPUTS (seat b6002344a). -/
import Derived.Test.Qxb6002344aRefYes
import Derived.Test.Qxb6002344aRefNo
set_option linter.unusedVariables false
namespace Go.Proofs.Qxb6002344a.Num
open Go.RowKit Dec

theorem SS.row {w : World} {a : Option Addr} {n : Nat} {p : List ByteArray} (h : SS w a n p) (h0 : 0 < p.length) (hm : n ≤ 1048576) : ∃ b off, a = some ⟨b, off, none⟩ ∧ Row w b off n p := by
  obtain ⟨hl, h1 | ⟨b, off, ha, hc⟩, hs⟩ := h
  · omega
  · exact ⟨b, off, ha, hl, hm, hc, hs⟩
theorem pos_P {p : List ByteArray} (h : validP (bls p) = true) : 0 < p.length := by have := validP_pos h; rwa [bls_len] at this
theorem pos_V {p : List ByteArray} (h : validV (bls p) = true) : 0 < p.length := by have := validV_pos h; rwa [bls_len] at this

theorem law7 (x1 x2 x3 : Bool) (a1 a2 a3 a4 : Option Addr) (n1 c1 n2 c2 n3 c3 n4 c4 : Nat) (p1 p2 p3 p4 : List ByteArray) (w : World)
    (hn1 : n1 ≤ maxLen) (hn2 : n2 ≤ maxLen) (hn3 : n3 ≤ maxLen) (hn4 : n4 ≤ maxLen) (hp1 : SS w a1 n1 p1) (hp2 : SS w a2 n2 p2) (hp3 : SS w a3 n3 p3) (hp4 : SS w a4 n4 p4) :
    Calls Try.prog 7 #[.bool x1, .bool x2, .bool x3, .slice a1 n1 c1, .slice a2 n2 c2, .slice a3 n3 c3, .slice a4 n4 c4] w fun e w' => e = .returned (.bool true) ∧ Below w.heap.size w w' := by
  by_cases hsz : n1 ≤ 1048576 ∧ n2 ≤ 1048576 ∧ n3 ≤ 1048576 ∧ n4 ≤ 1048576
  case neg => exact ref_size x1 x2 x3 a1 a2 a3 a4 n1 c1 n2 c2 n3 c3 n4 c4 p1 p2 p3 p4 w hn1 hn2 hn3 hn4 hp1 hp2 hp3 hp4 hsz
  obtain ⟨m1, m2, m3, m4⟩ := hsz
  cases x1 with
  | true =>
    cases v1 : validP (bls p1) with
    | false => exact ref_no1 x2 x3 a1 a2 a3 a4 n1 c1 n2 c2 n3 c3 n4 c4 p1 p2 p3 p4 w hn1 hn2 hn3 hn4 hp1 hp2 hp3 hp4 m1 m2 m3 m4 v1
    | true =>
      cases x2 with
      | true =>
        cases v2 : validP (bls p2) with
        | false => exact ref_no2t x3 a1 a2 a3 a4 n1 c1 n2 c2 n3 c3 n4 c4 p1 p2 p3 p4 w hn1 hn2 hn3 hn4 hp1 hp2 hp3 hp4 m1 m2 m3 m4 v1 v2
        | true =>
          cases x3 with
          | true =>
            cases v3 : validP (bls p3) with
            | false => exact ref_no3tt a1 a2 a3 a4 n1 c1 n2 c2 n3 c3 n4 c4 p1 p2 p3 p4 w hn1 hn2 hn3 hn4 hp1 hp2 hp3 hp4 m1 m2 m3 m4 v1 v2 v3
            | true =>
              cases v4 : validV (bls p4) with
              | false => exact ref_no4ttt a1 a2 a3 a4 n1 c1 n2 c2 n3 c3 n4 c4 p1 p2 p3 p4 w hn1 hn2 hn3 hn4 hp1 hp2 hp3 hp4 m1 m2 m3 m4 v1 v2 v3 v4
              | true =>
                obtain ⟨b1, o1, rfl, r1⟩ := hp1.row (pos_P v1) m1
                obtain ⟨b2, o2, rfl, r2⟩ := hp2.row (pos_P v2) m2
                obtain ⟨b3, o3, rfl, r3⟩ := hp3.row (pos_P v3) m3
                obtain ⟨b4, o4, rfl, r4⟩ := hp4.row (pos_V v4) m4
                exact ref_yyy b1 o1 b2 o2 b3 o3 b4 o4 n1 c1 n2 c2 n3 c3 n4 c4 p1 p2 p3 p4 w r1 v1 r2 v2 r3 v3 r4 v4
          | false =>
            cases v4 : validV (bls p4) with
            | false => exact ref_no4ttf a1 a2 a3 a4 n1 c1 n2 c2 n3 c3 n4 c4 p1 p2 p3 p4 w hn1 hn2 hn3 hn4 hp1 hp2 hp3 hp4 m1 m2 m3 m4 v1 v2 v4
            | true =>
              obtain ⟨b1, o1, rfl, r1⟩ := hp1.row (pos_P v1) m1
              obtain ⟨b2, o2, rfl, r2⟩ := hp2.row (pos_P v2) m2
              obtain ⟨b4, o4, rfl, r4⟩ := hp4.row (pos_V v4) m4
              exact ref_yyn a3 b1 o1 b2 o2 b4 o4 n1 c1 n2 c2 n3 c3 n4 c4 p1 p2 p3 p4 w r1 v1 r2 v2 m3 hp3 r4 v4
      | false =>
        cases x3 with
        | true =>
          cases v3 : validP (bls p3) with
          | false => exact ref_no3tf a1 a2 a3 a4 n1 c1 n2 c2 n3 c3 n4 c4 p1 p2 p3 p4 w hn1 hn2 hn3 hn4 hp1 hp2 hp3 hp4 m1 m2 m3 m4 v1 v3
          | true =>
            cases v4 : validV (bls p4) with
            | false => exact ref_no4tft a1 a2 a3 a4 n1 c1 n2 c2 n3 c3 n4 c4 p1 p2 p3 p4 w hn1 hn2 hn3 hn4 hp1 hp2 hp3 hp4 m1 m2 m3 m4 v1 v3 v4
            | true =>
              obtain ⟨b1, o1, rfl, r1⟩ := hp1.row (pos_P v1) m1
              obtain ⟨b3, o3, rfl, r3⟩ := hp3.row (pos_P v3) m3
              obtain ⟨b4, o4, rfl, r4⟩ := hp4.row (pos_V v4) m4
              exact ref_yny a2 b1 o1 b3 o3 b4 o4 n1 c1 n2 c2 n3 c3 n4 c4 p1 p2 p3 p4 w r1 v1 r3 v3 m2 hp2 r4 v4
        | false =>
          cases v4 : validV (bls p4) with
          | false => exact ref_no4tff a1 a2 a3 a4 n1 c1 n2 c2 n3 c3 n4 c4 p1 p2 p3 p4 w hn1 hn2 hn3 hn4 hp1 hp2 hp3 hp4 m1 m2 m3 m4 v1 v4
          | true =>
            obtain ⟨b1, o1, rfl, r1⟩ := hp1.row (pos_P v1) m1
            obtain ⟨b4, o4, rfl, r4⟩ := hp4.row (pos_V v4) m4
            exact ref_ynn a2 a3 b1 o1 b4 o4 n1 c1 n2 c2 n3 c3 n4 c4 p1 p2 p3 p4 w r1 v1 m2 hp2 m3 hp3 r4 v4
  | false =>
    cases x2 with
    | true =>
      cases v2 : validP (bls p2) with
      | false => exact ref_no2f x3 a1 a2 a3 a4 n1 c1 n2 c2 n3 c3 n4 c4 p1 p2 p3 p4 w hn1 hn2 hn3 hn4 hp1 hp2 hp3 hp4 m1 m2 m3 m4 v2
      | true =>
        cases x3 with
        | true =>
          cases v3 : validP (bls p3) with
          | false => exact ref_no3ft a1 a2 a3 a4 n1 c1 n2 c2 n3 c3 n4 c4 p1 p2 p3 p4 w hn1 hn2 hn3 hn4 hp1 hp2 hp3 hp4 m1 m2 m3 m4 v2 v3
          | true =>
            cases v4 : validV (bls p4) with
            | false => exact ref_no4ftt a1 a2 a3 a4 n1 c1 n2 c2 n3 c3 n4 c4 p1 p2 p3 p4 w hn1 hn2 hn3 hn4 hp1 hp2 hp3 hp4 m1 m2 m3 m4 v2 v3 v4
            | true =>
              obtain ⟨b2, o2, rfl, r2⟩ := hp2.row (pos_P v2) m2
              obtain ⟨b3, o3, rfl, r3⟩ := hp3.row (pos_P v3) m3
              obtain ⟨b4, o4, rfl, r4⟩ := hp4.row (pos_V v4) m4
              exact ref_nyy a1 b2 o2 b3 o3 b4 o4 n1 c1 n2 c2 n3 c3 n4 c4 p1 p2 p3 p4 w r2 v2 r3 v3 m1 hp1 r4 v4
        | false =>
          cases v4 : validV (bls p4) with
          | false => exact ref_no4ftf a1 a2 a3 a4 n1 c1 n2 c2 n3 c3 n4 c4 p1 p2 p3 p4 w hn1 hn2 hn3 hn4 hp1 hp2 hp3 hp4 m1 m2 m3 m4 v2 v4
          | true =>
            obtain ⟨b2, o2, rfl, r2⟩ := hp2.row (pos_P v2) m2
            obtain ⟨b4, o4, rfl, r4⟩ := hp4.row (pos_V v4) m4
            exact ref_nyn a1 a3 b2 o2 b4 o4 n1 c1 n2 c2 n3 c3 n4 c4 p1 p2 p3 p4 w r2 v2 m1 hp1 m3 hp3 r4 v4
    | false =>
      cases x3 with
      | true =>
        cases v3 : validP (bls p3) with
        | false => exact ref_no3ff a1 a2 a3 a4 n1 c1 n2 c2 n3 c3 n4 c4 p1 p2 p3 p4 w hn1 hn2 hn3 hn4 hp1 hp2 hp3 hp4 m1 m2 m3 m4 v3
        | true =>
          cases v4 : validV (bls p4) with
          | false => exact ref_no4fft a1 a2 a3 a4 n1 c1 n2 c2 n3 c3 n4 c4 p1 p2 p3 p4 w hn1 hn2 hn3 hn4 hp1 hp2 hp3 hp4 m1 m2 m3 m4 v3 v4
          | true =>
            obtain ⟨b3, o3, rfl, r3⟩ := hp3.row (pos_P v3) m3
            obtain ⟨b4, o4, rfl, r4⟩ := hp4.row (pos_V v4) m4
            exact ref_nny a1 a2 b3 o3 b4 o4 n1 c1 n2 c2 n3 c3 n4 c4 p1 p2 p3 p4 w r3 v3 m1 hp1 m2 hp2 r4 v4
      | false =>
        cases v4 : validV (bls p4) with
        | false => exact ref_no4fff a1 a2 a3 a4 n1 c1 n2 c2 n3 c3 n4 c4 p1 p2 p3 p4 w hn1 hn2 hn3 hn4 hp1 hp2 hp3 hp4 m1 m2 m3 m4 v4
        | true =>
          obtain ⟨b4, o4, rfl, r4⟩ := hp4.row (pos_V v4) m4
          exact ref_nnn a1 a2 a3 b4 o4 n1 c1 n2 c2 n3 c3 n4 c4 p1 p2 p3 p4 w m1 hp1 m2 hp2 m3 hp3 r4 v4
end Go.Proofs.Qxb6002344a.Num
