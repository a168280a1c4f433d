/- THE WALK OF zzBytes_PropVersionPatternMatchesDenotation (seat b6002344a): it returns some bool and turns nothing. -/
import Derived.Test.Qxb6002344aVerWalks
set_option linter.unusedVariables false
namespace Go.Proofs.Qxb6002344a.Num
open Go.RowKit Dec

theorem SS.at {w : World} {a : Option Addr} {n : Nat} {p : List ByteArray} (h : SS w a n p) : ∀ k, k < n → ∃ b off s, a = some ⟨b, off, none⟩ ∧ w.cell? ⟨b, off + k, none⟩ = some (.string s) ∧ s.size ≤ maxLen := by
  intro k hk
  obtain ⟨_, h0 | ⟨b, off, ha, hc⟩, hs⟩ := h
  · omega
  · exact ⟨b, off, _, ha, hc k hk, hs k hk⟩

/-- It returns a bool. -/
def IsB (e : Ending) : Prop := ∃ r, e = .returned (.bool r)
theorem isB (r : Bool) : IsB (.returned (.bool r)) := ⟨r, rfl⟩

set_option maxHeartbeats 1000000 in
theorem bytes21 (a a2 : Option Addr) (n c m c2 : Nat) (p v : List ByteArray) (w : World) (hn : n ≤ maxLen) (hm : m ≤ maxLen) (hp : SS w a n p) (hv : SS w a2 m v) :
    Calls Try.prog 21 #[.slice a n c, .slice a2 m c2] w fun e w' => IsB e ∧ w' = w := by
  have hc := hp.at
  have hc2 := hv.at
  clear hp hv
  unfold maxLen at hn hm hc hc2
  by_cases hn2 : n ≤ 1048576
  · go_enter Try.func21, Try.ntmps21
    go_wp2
    go_loop [5, 6] (fun z i => ∃ (k : Nat) (x : Int), k ≤ n ∧ i = .int .i64 k ∧ 0 ≤ x ∧ x ≤ 1048576 ∧ z = .int .i64 x) (fun _ i => n - (intOf i).toNat)
    case atStart => exact ⟨0, _, Nat.zero_le _, rfl, by omega, by omega, rfl⟩
    case round =>
      obtain ⟨k, x, hk, rfl, x0, x1, rfl⟩ := hrel
      by_cases hlt : k < n
      · obtain ⟨b, off, s, rfl, hcell, hsz⟩ := hc k hlt
        clear hc hc2
        by_cases h1 : s.size ≤ 1048576
        · by_cases h2 : x + s.size ≤ 1048576
          · go_wp2
            go_round
            case rel => exact ⟨k + 1, _, by omega, by go_num, by omega, h2, rfl⟩
            case measure => simp [intOf]; omega
          · go_wp2
            go_ret
            exact ⟨isB _, rfl⟩
        · go_wp2
          go_ret
          exact ⟨isB _, rfl⟩
      · clear hc
        by_cases hm2 : m ≤ 1048576
        · by_cases hm3 : x + m ≤ 1048576
          · go_wp2
            go_loop [5, 7] (fun z i => ∃ (k : Nat) (x : Int), k ≤ m ∧ i = .int .i64 k ∧ 0 ≤ x ∧ x ≤ 1048576 ∧ z = .int .i64 x) (fun _ i => m - (intOf i).toNat)
            case atStart => exact ⟨0, _, Nat.zero_le _, rfl, by omega, by omega, rfl⟩
            case round =>
              obtain ⟨k2, x2, hk2, rfl, y0, y1, rfl⟩ := hrel
              by_cases hlt2 : k2 < m
              · obtain ⟨b, off, s, rfl, hcell, hsz⟩ := hc2 k2 hlt2
                clear hc2
                by_cases h1 : s.size ≤ 1048576
                · by_cases h2 : x2 + s.size ≤ 1048576
                  · go_wp2
                    go_round
                    case rel => exact ⟨k2 + 1, _, by omega, by go_num, by omega, h2, rfl⟩
                    case measure => simp [intOf]; omega
                  · go_wp2
                    go_ret
                    exact ⟨isB _, rfl⟩
                · go_wp2
                  go_ret
                  exact ⟨isB _, rfl⟩
              · clear hc2
                go_wp2
                go_ret
                exact ⟨isB _, rfl⟩
          · clear hc2
            go_wp2
            go_ret
            exact ⟨isB _, rfl⟩
        · clear hc2
          go_wp2
          go_ret
          exact ⟨isB _, rfl⟩
  · clear hc hc2
    go_enter Try.func21, Try.ntmps21
    go_wp2
    go_ret
    exact ⟨isB _, rfl⟩
end Go.Proofs.Qxb6002344a.Num
