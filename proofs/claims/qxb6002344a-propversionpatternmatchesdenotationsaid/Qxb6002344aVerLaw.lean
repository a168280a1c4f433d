/- THE LAW PropVersionPatternMatchesDenotation (seat b6002344a). -/
import Derived.Test.Qxb6002344aVerBytes
import Derived.Test.Qxb6002344aMatch
import Derived.Test.Qxb6002344aDen
import Derived.Test.Qxb6002344aCopy
import Derived.OwnWalk
import Derived.Laws.CopyOwn
import Derived.Deep.OwnRows
import Derived.WalkSpells
set_option linter.unusedVariables false
namespace Go.Proofs.Qxb6002344a.Num
open Go.RowKit Dec

set_option maxRecDepth 1000000 in
set_option maxHeartbeats 1000000 in
theorem law6_yes (b off n c b2 off2 m c2 : Nat) (p v : List ByteArray) (w : World) (hn : n ≤ 1048576) (hm : m ≤ 1048576)
    (hl : n = p.length) (hl2 : m = v.length) (hP : validP (bls p) = true) (hV : validV (bls v) = true)
    (hc : ∀ j, j < n → w.cell? ⟨b, off + j, none⟩ = some (.string (p.getD j ByteArray.empty)))
    (hc2 : ∀ j, j < m → w.cell? ⟨b2, off2 + j, none⟩ = some (.string (v.getD j ByteArray.empty)))
    (hs : ∀ j, j < n → (p.getD j ByteArray.empty).size ≤ maxLen) (hs2 : ∀ j, j < m → (v.getD j ByteArray.empty).size ≤ maxLen) :
    Calls Try.prog 6 #[.slice (some ⟨b, off, none⟩) n c, .slice (some ⟨b2, off2, none⟩) m c2] w fun e w' => e = .returned (.bool true) ∧ Below w.heap.size w w' := by
  have HC : Hid (_ ∧ _ ∧ _ ∧ _) := And.intro hc (And.intro hc2 (And.intro hs hs2))
  have HL : Hid (n = p.length ∧ m = v.length) := ⟨hl, hl2⟩
  have C21 : Hid (Calls Try.prog 21 #[.slice (some ⟨b, off, none⟩) n c, .slice (some ⟨b2, off2, none⟩) m c2] w fun e w' => IsB e ∧ w' = w) :=
    bytes21 _ _ n c m c2 p v w (by unfold maxLen; omega) (by unfold maxLen; omega) ⟨hl, .inr ⟨b, off, rfl, hc⟩, hs⟩ ⟨hl2, .inr ⟨b2, off2, rfl, hc2⟩, hs2⟩
  have C22 : Hid (Calls Try.prog 22 #[.slice (some ⟨b, off, none⟩) n c] w fun e w' => e = .returned (.bool true) ∧ w' = w) := by
    have := validP_any (some ⟨b, off, none⟩) n c p w (by unfold maxLen; omega) ⟨hl, .inr ⟨b, off, rfl, hc⟩, hs⟩
    rw [hP] at this; exact this
  have C23 : Hid (Calls Try.prog 23 #[.slice (some ⟨b2, off2, none⟩) m c2] w fun e w' => e = .returned (.bool true) ∧ w' = w) := by
    have := validV_any (some ⟨b2, off2, none⟩) m c2 v w (by unfold maxLen; omega) ⟨hl2, .inr ⟨b2, off2, rfl, hc2⟩, hs2⟩
    rw [hV] at this; exact this
  have HV : Hid (validP (bls p) = true ∧ validV (bls v) = true) := ⟨hP, hV⟩
  clear hc hc2 hs hs2 hl hl2 hP hV
  have hne := fun (wx : World) (a : Option Addr) (n c : Nat) => run_neq_slice_nil_any (P := Try.prog) wx 26 9 a n c 0 0 Try.underlying26
  go_enter Try.func6, Try.ntmps6
  go_wp2_with fail
  refine C21.out.mono ?_
  rintro e w' ⟨⟨r, rfl⟩, rfl⟩
  cases r
  · go_wp2_with fail
    go_ret
    exact ⟨rfl, Below.refl _ _⟩
  go_wp2_with fail
  refine C22.out.mono ?_
  rintro e w' ⟨rfl, rfl⟩
  go_wp2_with fail
  refine C23.out.mono ?_
  rintro e w' ⟨rfl, rfl⟩
  have hmk := run_make_row' (P := Try.prog) 26 9 (.string ByteArray.empty) 16 Try.underlying26 info9 rfl .i64 .i64 n (by omega) (by omega)
  go_wp2_with fail
  clear hmk
  obtain ⟨W1, hrun1, hcell1, hbel1, hsz1⟩ := copied w' b off n c p HL.out.1 HC.out.1
  rw [hrun1]
  have H1 : Hid (_ ∧ _ ∧ _) := And.intro hcell1 (And.intro hbel1 hsz1)
  clear hrun1 hcell1 hbel1 hsz1
  simp only [Result.andThen]
  rw [Oper.upon_value]
  have hmk := run_make_row' (P := Try.prog) 26 9 (.string ByteArray.empty) 16 Try.underlying26 info9 rfl .i64 .i64 m (by omega) (by omega)
  go_wp2_with fail
  clear hmk
  have hcv : ∀ j, j < m → W1.cell? ⟨b2, off2 + j, none⟩ = some (.string (v.getD j ByteArray.empty)) := by
    intro j hj
    have h := HC.out.2.1 j hj
    rw [H1.out.2.1.cell (cell_lt h)]
    exact h
  obtain ⟨W2, hrun2, hcell2, hbel2, hsz2⟩ := copied W1 b2 off2 m c2 v HL.out.2 hcv
  rw [hrun2]
  have H2 : Hid (_ ∧ _ ∧ _) := And.intro hcell2 (And.intro hbel2 hsz2)
  clear hrun2 hcell2 hbel2 hsz2 hcv
  simp only [Result.andThen]
  rw [Oper.upon_value]
  have hcp : ∀ j, j < n → W2.cell? ⟨w'.heap.size, 0 + j, none⟩ = some (.string (p.getD j ByteArray.empty)) := by
    intro j hj
    rw [H2.out.2.1.cell (p := ⟨w'.heap.size, 0 + j, none⟩) H1.out.2.2]
    exact H1.out.1 j hj
  have HCP : Hid _ := hcp
  have hbl : Below w'.heap.size w' W2 := H1.out.2.1.trans (H2.out.2.1.mono (Nat.le_of_lt H1.out.2.2))
  have HBL : Hid _ := hbl
  clear hcp hbl
  go_wp2_with (go_at_call 24; go_in)
  refine (match_any w'.heap.size 0 n n W1.heap.size 0 m m p v W2 (by unfold maxLen; omega) (by unfold maxLen; omega) HL.out.1 HL.out.2 HV.out.1 HCP.out H2.out.1).mono ?_
  rintro e w1 ⟨rfl, rfl⟩
  go_wp2_with fail
  refine (den_any w'.heap.size 0 n n W1.heap.size 0 m m p v w1 (by unfold maxLen; omega) (by unfold maxLen; omega) HL.out.1 HL.out.2 HV.out.1 HV.out.2 HCP.out H2.out.1 HC.out.2.2.1 HC.out.2.2.2).mono ?_
  rintro e w2 ⟨rfl, q, rfl⟩
  go_wp2
  go_ret
  refine ⟨ret_bool (by simp), HBL.out.trans ⟨rfl, rfl, rfl, Nat.le_refl _, fun _ _ => rfl⟩⟩

set_option maxRecDepth 1000000 in
set_option maxHeartbeats 1000000 in
theorem law6_no (a a2 : Option Addr) (n c m c2 : Nat) (p v : List ByteArray) (w : World) (hn : n ≤ maxLen) (hm : m ≤ maxLen) (hp : SS w a n p) (hv : SS w a2 m v)
    (h : ¬ (n ≤ 1048576 ∧ m ≤ 1048576 ∧ validP (bls p) = true ∧ validV (bls v) = true)) :
    Calls Try.prog 6 #[.slice a n c, .slice a2 m c2] w fun e w' => e = .returned (.bool true) ∧ Below w.heap.size w w' := by
  have C21 : Hid (Calls Try.prog 21 #[.slice a n c, .slice a2 m c2] w fun e w' => IsB e ∧ w' = w) := bytes21 a a2 n c m c2 p v w hn hm hp hv
  have C22 : Hid (Calls Try.prog 22 #[.slice a n c] w fun e w' => e = .returned (.bool (validP (bls p))) ∧ w' = w) := validP_any a n c p w hn hp
  have C23 : Hid (Calls Try.prog 23 #[.slice a2 m c2] w fun e w' => e = .returned (.bool (validV (bls v))) ∧ w' = w) := validV_any a2 m c2 v w hm hv
  clear hp hv
  unfold maxLen at hn hm
  by_cases h1 : n ≤ 1048576
  · by_cases h2 : m ≤ 1048576
    · cases h3 : validP (bls p) with
      | false =>
        clear h
        go_enter Try.func6, Try.ntmps6
        go_wp2_with fail
        refine C21.out.mono ?_
        rintro e w' ⟨⟨r, rfl⟩, rfl⟩
        cases r
        · go_wp2_with fail
          go_ret
          exact ⟨rfl, Below.refl _ _⟩
        go_wp2_with fail
        refine C22.out.mono ?_
        rintro e w' ⟨rfl, rfl⟩
        go_wp2_with fail
        go_ret
        exact ⟨rfl, Below.refl _ _⟩
      | true =>
        have h4 : validV (bls v) = false := by
          cases h4 : validV (bls v) with
          | false => rfl
          | true => exact absurd ⟨h1, h2, h3, h4⟩ h
        clear h
        go_enter Try.func6, Try.ntmps6
        go_wp2_with fail
        refine C21.out.mono ?_
        rintro e w' ⟨⟨r, rfl⟩, rfl⟩
        cases r
        · go_wp2_with fail
          go_ret
          exact ⟨rfl, Below.refl _ _⟩
        go_wp2_with fail
        refine C22.out.mono ?_
        rintro e w' ⟨rfl, rfl⟩
        go_wp2_with fail
        refine C23.out.mono ?_
        rintro e w' ⟨rfl, rfl⟩
        go_wp2_with fail
        go_ret
        exact ⟨rfl, Below.refl _ _⟩
    · clear h
      go_enter Try.func6, Try.ntmps6
      go_wp2_with fail
      refine C21.out.mono ?_
      rintro e w' ⟨⟨r, rfl⟩, rfl⟩
      cases r
      · go_wp2_with fail
        go_ret
        exact ⟨rfl, Below.refl _ _⟩
      go_wp2_with fail
      go_ret
      exact ⟨rfl, Below.refl _ _⟩
  · clear h
    go_enter Try.func6, Try.ntmps6
    go_wp2_with fail
    refine C21.out.mono ?_
    rintro e w' ⟨⟨r, rfl⟩, rfl⟩
    cases r
    · go_wp2_with fail
      go_ret
      exact ⟨rfl, Below.refl _ _⟩
    go_wp2_with fail
    go_ret
    exact ⟨rfl, Below.refl _ _⟩

theorem law6 (a a2 : Option Addr) (n c m c2 : Nat) (p v : List ByteArray) (w : World) (hn : n ≤ maxLen) (hm : m ≤ maxLen) (hp : SS w a n p) (hv : SS w a2 m v) :
    Calls Try.prog 6 #[.slice a n c, .slice a2 m c2] w fun e w' => e = .returned (.bool true) ∧ Below w.heap.size w w' := by
  by_cases h : n ≤ 1048576 ∧ m ≤ 1048576 ∧ validP (bls p) = true ∧ validV (bls v) = true
  · have l1 := hp.1
    have l2 := hv.1
    have p1 := validP_pos h.2.2.1
    have p2 := validV_pos h.2.2.2
    rw [bls_len] at p1 p2
    obtain ⟨_, h0 | ⟨b, off, rfl, hc⟩, hs⟩ := hp
    · omega
    obtain ⟨_, h0 | ⟨b2, off2, rfl, hc2⟩, hs2⟩ := hv
    · omega
    exact law6_yes b off n c b2 off2 m c2 p v w h.1 h.2.1 l1 l2 h.2.2.1 h.2.2.2 hc hc2 hs hs2
  · exact law6_no a a2 n c m c2 p v w hn hm hp hv h
end Go.Proofs.Qxb6002344a.Num
