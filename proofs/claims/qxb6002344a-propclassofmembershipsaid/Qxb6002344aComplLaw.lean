/- THE LAW PropRuneSetComplementInvolutive (seat b6002344a). -/
import Derived.Test.Qxb6002344aHolds
set_option linter.unusedVariables false
namespace Go.Proofs.Qxb6002344a.Rune
open Go.RowKit

theorem cf_len : ∀ (l : List Int) (n : Int), (cf n l).length ≤ l.length + 2 := by
  intro l
  induction l using pairs_ind with
  | h0 => intro n; rw [cf_nil]; split <;> simp
  | h1 a => intro n; simp [cf]
  | h2 a b r ih =>
    intro n
    rw [cf_cons]
    have := ih (b + 1)
    split <;> simp <;> omega

set_option maxHeartbeats 1000000 in
theorem law5_yes (a : Option Addr) (n c : Nat) (x : Int) (l : List Int) (w : World) (hn : n ≤ 65536) (h0 : 0 ≤ x) (h1 : x ≤ 1114111) (hcn : cn 0 l = true) (hp : RS w a n l) (hnil : a = none → n = 0 ∧ c = 0) :
    Calls Try.prog 5 #[.slice a n c, .int .i32 x] w fun e w' => e = .returned (.bool true) ∧ Below w.heap.size w w' := by
  have HP : Hid (RS w a n l) := hp
  have HCN : Hid (cn 0 l = true) := hcn
  have HNil : Hid (a = none → n = 0 ∧ c = 0) := hnil
  have C16 : Hid (Calls Try.prog 16 #[.slice a n c] w fun e w' => e = .returned (.bool true) ∧ ∃ q, w' = w.drewN q) := by
    have := canon_any a n c l w hn hp
    rw [hcn] at this; exact this
  have HLen : Hid (n = l.length) := hp.1
  clear hp hcn hnil
  go_enter Try.func5, Try.ntmps5
  go_wp2_with (go_at_call 15; go_in)
  refine C16.out.mono ?_
  rintro e w1 ⟨rfl, q, hw1⟩
  have B1 : Hid (Below w.heap.size w w1) := by rw [hw1]; exact Below.drewN (Below.refl _ _) q
  clear hw1 C16
  go_wp2_with fail
  refine (copy_any a n c l w1 (by omega) (HP.out.later B1.out) HNil.out).mono ?_
  rintro e w2 ⟨a2, rfl, hr2, hb2, hn2⟩
  have R2 : Hid (RS w2 a2 n l ∧ Below w1.heap.size w1 w2) := ⟨hr2, hb2⟩
  clear hr2 hb2 hn2
  go_wp2_with fail
  refine (zzcompl_any a2 n n l w2 (by omega) HCN.out R2.out.1).mono ?_
  rintro e w3 ⟨a3, c3, rfl, hr3, hb3, _⟩
  have R3 : Hid (RS w3 a3 (cf 0 l).length (cf 0 l) ∧ Below w2.heap.size w2 w3) := ⟨hr3, hb3⟩
  clear hr3 hb3
  have HC2 : Hid (cn 0 (cf 0 l) = true) := cn_cf l 0 0 HCN.out (Int.le_refl _)
  have hk : (cf 0 l).length ≤ 65538 := by have := cf_len l 0; have := HLen.out; omega
  have CC : Hid (cf 0 (cf 0 l) = l) := cf_cf l HCN.out
  have HIn : Hid (inP (cf 0 l) x = !inP l x) := cf_inP l 0 x HCN.out h0 h1
  generalize cf 0 l = k at R3 HC2 hk CC HIn
  go_wp2_with fail
  refine (zzcompl_any a3 k.length c3 k w3 (by omega) HC2.out R3.out.1).mono ?_
  rintro e w4 ⟨a4, c4, rfl, hr4, hb4, _⟩
  rw [CC.out] at hr4
  rw [CC.out]
  rw [← HLen.out] at hr4
  rw [← HLen.out]
  have R4 : Hid (RS w4 a4 n l ∧ Below w3.heap.size w3 w4) := ⟨hr4, hb4⟩
  clear hr4 hb4
  have B4 : Hid (Below w.heap.size w w4) := B1.out.trans ((R2.out.2.mono B1.out.size).trans ((R3.out.2.mono (Nat.le_trans B1.out.size R2.out.2.size)).trans (R4.out.2.mono (Nat.le_trans B1.out.size (Nat.le_trans R2.out.2.size R3.out.2.size)))))
  go_wp2_with fail
  refine (eq_any a4 a n c4 c l w4 (by omega) R4.out.1 (HP.out.later B4.out)).mono ?_
  rintro e w5 ⟨rfl, q5, hw5⟩
  have B5 : Hid (Below w4.heap.size w4 w5) := by rw [hw5]; exact Below.drewN (Below.refl _ _) q5
  have B5' : Hid (Below w3.heap.size w3 w5) := by exact R4.out.2.trans (B5.out.mono R4.out.2.size)
  have B5'' : Hid (Below w.heap.size w w5) := by exact B4.out.trans (B5.out.mono B4.out.size)
  clear hw5
  go_wp2_with fail
  refine (zzholds_any a3 k.length c3 x k w5 (by omega) HC2.out (R3.out.1.later B5'.out)).mono ?_
  rintro e w6 ⟨rfl, hb6⟩
  have B6 : Hid (Below w.heap.size w w6) := B5''.out.trans (hb6.mono B5''.out.size)
  clear hb6
  go_wp2_with fail
  refine (copy_any a n c l w6 (by omega) (HP.out.later B6.out) HNil.out).mono ?_
  rintro e w7 ⟨a7, rfl, hr7, hb7, hn7⟩
  have R7 : Hid (RS w7 a7 n l) := hr7
  have B7 : Hid (Below w.heap.size w w7) := B6.out.trans (hb7.mono B6.out.size)
  clear hr7 hb7 hn7
  go_wp2_with fail
  refine (zzholds_any a7 n n x l w7 (by omega) HCN.out R7.out).mono ?_
  rintro e w8 ⟨rfl, hb8⟩
  have B8 : Hid (Below w.heap.size w w8) := B7.out.trans (hb8.mono B7.out.size)
  clear hb8
  go_wp2
  go_ret
  exact ⟨ret_bool (by rw [HIn.out]; cases inP l x <;> rfl), B8.out⟩

set_option maxHeartbeats 1000000 in
theorem law5 (a : Option Addr) (n c : Nat) (x : Int) (l : List Int) (w : World) (hm : n ≤ maxLen) (hp : RS w a n l) (hnil : a = none → n = 0 ∧ c = 0) :
    Calls Try.prog 5 #[.slice a n c, .int .i32 x] w fun e w' => e = .returned (.bool true) ∧ Below w.heap.size w w' := by
  unfold maxLen at hm
  by_cases h1 : n ≤ 1048576
  case neg =>
    clear hp hnil
    go_enter Try.func5, Try.ntmps5
    go_wp2_with (go_at_call 15; go_in)
    go_ret
    exact ⟨rfl, Below.refl _ _⟩
  by_cases h2 : n ≤ 65536
  case neg =>
    clear hp hnil
    go_enter Try.func5, Try.ntmps5
    go_wp2_with (go_at_call 15; go_in)
    go_ret
    exact ⟨rfl, Below.refl _ _⟩
  by_cases h3 : x < 0
  case pos =>
    clear hp hnil
    go_enter Try.func5, Try.ntmps5
    go_wp2_with (go_at_call 15; go_in)
    go_ret
    exact ⟨rfl, Below.refl _ _⟩
  by_cases h4 : 1114111 < x
  case pos =>
    clear hp hnil
    go_enter Try.func5, Try.ntmps5
    go_wp2_with (go_at_call 15; go_in)
    go_ret
    exact ⟨rfl, Below.refl _ _⟩
  cases h5 : cn 0 l with
  | true => exact law5_yes a n c x l w h2 (by omega) (by omega) h5 hp hnil
  | false =>
    have C16 : Hid (Calls Try.prog 16 #[.slice a n c] w fun e w' => e = .returned (.bool false) ∧ ∃ q, w' = w.drewN q) := by
      have := canon_any a n c l w h2 hp
      rw [h5] at this; exact this
    clear hp hnil h5
    go_enter Try.func5, Try.ntmps5
    go_wp2_with (go_at_call 15; go_in)
    refine C16.out.mono ?_
    rintro e w1 ⟨rfl, q, rfl⟩
    go_wp2
    go_ret
    exact ⟨rfl, Below.drewN (Below.refl _ _) q⟩

/-- From the shell's word for a slice of integers. -/
theorem rs_of_row {w : World} {a : Option Addr} {len cap : Nat} {zs : List Int}
    (h : (a = none ∧ len = 0 ∧ cap = 0 ∧ zs = []) ∨ ∃ x, a = some x ∧ len ≤ cap ∧ cap ≤ maxLen ∧ zs.length = cap ∧ (∀ i, i < zs.length → w.cell? (x.add i) = some (.int .i32 (zs.getD i 0))) ∧ ∀ n ∈ zs, (Lit.int .i32 n).wf = true) :
    RS w a len (zs.take len) ∧ (a = none → len = 0 ∧ cap = 0) ∧ len ≤ maxLen := by
  rcases h with ⟨rfl, rfl, rfl, rfl⟩ | ⟨x, rfl, hl, hm, hz, hcell, _⟩
  · exact ⟨⟨rfl, .inl rfl⟩, fun _ => ⟨rfl, rfl⟩, Nat.zero_le _⟩
  · refine ⟨⟨by simp; omega, ?_⟩, (fun h => by cases h), by omega⟩
    by_cases h0 : len = 0
    · exact .inl h0
    · right
      obtain ⟨b, off, spot⟩ := x
      have hspot : spot = none := by simpa [Addr.add] using World.cell?_spot (hcell 0 (by omega))
      subst hspot
      refine ⟨b, off, rfl, fun j hj => ?_⟩
      have e : (zs.take len).getD j 0 = zs.getD j 0 := by simp [List.getD_eq_getElem?_getD, hj]
      rw [e]
      have := hcell j (by omega)
      rwa [show (⟨b, off, none⟩ : Addr).add j = ⟨b, off + j, none⟩ from by simp [Addr.add]] at this
end Go.Proofs.Qxb6002344a.Rune
