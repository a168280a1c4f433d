/- THE WALK OF zzBytes_PropReferenceAcceptsVersionBounds (seat b6002344a): it returns some bool and turns nothing. -/
import Derived.Test.Qxb6002344aVerBytes
set_option linter.unusedVariables false
namespace Go.Proofs.Qxb6002344a.Num
open Go.RowKit Dec

set_option maxHeartbeats 2000000 in
theorem bytes26 (x1 x2 x3 : Bool) (a1 a2 a3 a4 : Option Addr) (n1 c1 n2 c2 n3 c3 n4 c4 : Nat) (p1 p2 p3 p4 : List ByteArray) (w : World)
    (hn1 : n1 ≤ maxLen) (hn2 : n2 ≤ maxLen) (hn3 : n3 ≤ maxLen) (hn4 : n4 ≤ maxLen) (hp1 : SS w a1 n1 p1) (hp2 : SS w a2 n2 p2) (hp3 : SS w a3 n3 p3) (hp4 : SS w a4 n4 p4) :
    Calls Try.prog 26 #[.bool x1, .bool x2, .bool x3, .slice a1 n1 c1, .slice a2 n2 c2, .slice a3 n3 c3, .slice a4 n4 c4] w fun e w' => IsB e ∧ w' = w := by
  have hc1 := hp1.at
  have hc2 := hp2.at
  have hc3 := hp3.at
  have hc4 := hp4.at
  clear hp1 hp2 hp3 hp4
  unfold maxLen at hn1 hn2 hn3 hn4 hc1 hc2 hc3 hc4
  by_cases hm1 : n1 ≤ 1048576
  · go_enter Try.func26, Try.ntmps26
    go_wp2
    go_loop [15, 16] (fun z i => ∃ (k : Nat) (x : Int), k ≤ n1 ∧ i = .int .i64 k ∧ 0 ≤ x ∧ x ≤ 1048576 ∧ z = .int .i64 x) (fun _ i => n1 - (intOf i).toNat)
    case atStart => exact ⟨0, _, Nat.zero_le _, rfl, by omega, by omega, rfl⟩
    case round =>
      obtain ⟨k1, y1, hk1, rfl, y10, y11, rfl⟩ := hrel
      by_cases hlt : k1 < n1
      · obtain ⟨b, off, s, rfl, hcell, hsz⟩ := hc1 k1 hlt
        clear hc1 hc2 hc3 hc4
        by_cases h1 : s.size ≤ 1048576
        · by_cases h2 : y1 + s.size ≤ 1048576
          · go_wp2
            go_round
            case rel => exact ⟨k1 + 1, _, by omega, by go_num, by omega, h2, rfl⟩
            case measure => simp [intOf]; omega
          · go_wp2
            go_ret
            exact ⟨isB _, rfl⟩
        · go_wp2
          go_ret
          exact ⟨isB _, rfl⟩
      · clear hc1
        by_cases hm2 : n2 ≤ 1048576
        · by_cases hs2 : y1 + n2 ≤ 1048576
          · skip
            go_wp2
            go_loop [15, 17] (fun z i => ∃ (k : Nat) (x : Int), k ≤ n2 ∧ i = .int .i64 k ∧ 0 ≤ x ∧ x ≤ 1048576 ∧ z = .int .i64 x) (fun _ i => n2 - (intOf i).toNat)
            case atStart => exact ⟨0, _, Nat.zero_le _, rfl, by omega, by omega, rfl⟩
            case round =>
              obtain ⟨k2, y2, hk2, rfl, y20, y21, rfl⟩ := hrel
              by_cases hlt : k2 < n2
              · obtain ⟨b, off, s, rfl, hcell, hsz⟩ := hc2 k2 hlt
                clear hc2 hc3 hc4
                by_cases h1 : s.size ≤ 1048576
                · by_cases h2 : y2 + s.size ≤ 1048576
                  · go_wp2
                    go_round
                    case rel => exact ⟨k2 + 1, _, by omega, by go_num, by omega, h2, rfl⟩
                    case measure => simp [intOf]; omega
                  · go_wp2
                    go_ret
                    exact ⟨isB _, rfl⟩
                · go_wp2
                  go_ret
                  exact ⟨isB _, rfl⟩
              · clear hc2
                by_cases hm3 : n3 ≤ 1048576
                · by_cases hs3 : y2 + n3 ≤ 1048576
                  · skip
                    go_wp2
                    go_loop [15, 18] (fun z i => ∃ (k : Nat) (x : Int), k ≤ n3 ∧ i = .int .i64 k ∧ 0 ≤ x ∧ x ≤ 1048576 ∧ z = .int .i64 x) (fun _ i => n3 - (intOf i).toNat)
                    case atStart => exact ⟨0, _, Nat.zero_le _, rfl, by omega, by omega, rfl⟩
                    case round =>
                      obtain ⟨k3, y3, hk3, rfl, y30, y31, rfl⟩ := hrel
                      by_cases hlt : k3 < n3
                      · obtain ⟨b, off, s, rfl, hcell, hsz⟩ := hc3 k3 hlt
                        clear hc3 hc4
                        by_cases h1 : s.size ≤ 1048576
                        · by_cases h2 : y3 + s.size ≤ 1048576
                          · go_wp2
                            go_round
                            case rel => exact ⟨k3 + 1, _, by omega, by go_num, by omega, h2, rfl⟩
                            case measure => simp [intOf]; omega
                          · go_wp2
                            go_ret
                            exact ⟨isB _, rfl⟩
                        · go_wp2
                          go_ret
                          exact ⟨isB _, rfl⟩
                      · clear hc3
                        by_cases hm4 : n4 ≤ 1048576
                        · by_cases hs4 : y3 + n4 ≤ 1048576
                          · skip
                            go_wp2
                            go_loop [15, 19] (fun z i => ∃ (k : Nat) (x : Int), k ≤ n4 ∧ i = .int .i64 k ∧ 0 ≤ x ∧ x ≤ 1048576 ∧ z = .int .i64 x) (fun _ i => n4 - (intOf i).toNat)
                            case atStart => exact ⟨0, _, Nat.zero_le _, rfl, by omega, by omega, rfl⟩
                            case round =>
                              obtain ⟨k4, y4, hk4, rfl, y40, y41, rfl⟩ := hrel
                              by_cases hlt : k4 < n4
                              · obtain ⟨b, off, s, rfl, hcell, hsz⟩ := hc4 k4 hlt
                                clear hc4
                                by_cases h1 : s.size ≤ 1048576
                                · by_cases h2 : y4 + s.size ≤ 1048576
                                  · go_wp2
                                    go_round
                                    case rel => exact ⟨k4 + 1, _, by omega, by go_num, by omega, h2, rfl⟩
                                    case measure => simp [intOf]; omega
                                  · go_wp2
                                    go_ret
                                    exact ⟨isB _, rfl⟩
                                · go_wp2
                                  go_ret
                                  exact ⟨isB _, rfl⟩
                              · clear hc4
                                go_wp2
                                go_ret
                                exact ⟨isB _, rfl⟩
                          · clear hc4
                            go_wp2
                            go_ret
                            exact ⟨isB _, rfl⟩
                        · clear hc4
                          go_wp2
                          go_ret
                          exact ⟨isB _, rfl⟩
                  · clear hc3 hc4
                    go_wp2
                    go_ret
                    exact ⟨isB _, rfl⟩
                · clear hc3 hc4
                  go_wp2
                  go_ret
                  exact ⟨isB _, rfl⟩
          · clear hc2 hc3 hc4
            go_wp2
            go_ret
            exact ⟨isB _, rfl⟩
        · clear hc2 hc3 hc4
          go_wp2
          go_ret
          exact ⟨isB _, rfl⟩
  · clear hc1 hc2 hc3 hc4
    go_enter Try.func26, Try.ntmps26
    go_wp2
    go_ret
    exact ⟨isB _, rfl⟩
end Go.Proofs.Qxb6002344a.Num
