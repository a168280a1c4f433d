/- THE WALKS OF classOf, ZZclassOf (seat b6002344a). -/
import Derived.Test.Qxb6002344aClass
set_option linter.unusedVariables false
namespace Go.Proofs.Qxb6002344a.Rune
open Go.RowKit

/-- The group, complemented or not. -/
def grp (neg : Bool) (l : List Int) : List Int := if neg then cf 0 l else l
theorem grp_facts {neg : Bool} {l : List Int} (hcn : cn 0 l = true) (hl : l.length ≤ 65536) : cn 0 (grp neg l) = true ∧ (grp neg l).length ≤ 65538 ∧ ∀ x, 0 ≤ x → x ≤ 1114111 → inP (grp neg l) x = (inP l x != neg) := by
  cases neg with
  | false => exact ⟨hcn, by show l.length ≤ _; omega, fun x _ _ => by show inP l x = _; simp⟩
  | true =>
    have h := cf_len l 0
    exact ⟨cn_cf l 0 0 hcn (Int.le_refl _), by show (cf 0 l).length ≤ _; omega, fun x h0 h1 => by show inP (cf 0 l) x = _; rw [cf_inP l 0 x hcn h0 h1]; simp⟩
theorem cls_plain {l1 g : List Int} {neg : Bool} (hg : cn 0 g = true) (hlen : g.length ≤ 65538) (hin : ∀ x, 0 ≤ x → x ≤ 1114111 → inP g x = (inP l1 x != neg)) : Cls l1 [] neg g :=
  ⟨hg, by omega, fun x h0 h1 => by rw [hin x h0 h1]; simp [inP]⟩

set_option maxHeartbeats 1000000 in
theorem classOf_sub (neg : Bool) (a1 : Option Addr) (x2 : Addr) (n1 c1 n2 c2 : Nat) (l1 l2 : List Int) (w : World) (h1 : n1 ≤ 65536) (h2 : n2 ≤ 65536) (k1 : cn 0 l1 = true) (k2 : cn 0 l2 = true)
    (hp1 : RS w a1 n1 l1) (hp2 : RS w (some x2) n2 l2) :
    Calls Try.prog 48 #[.slice a1 n1 c1, .bool neg, .slice (some x2) n2 c2] w fun e w' => ∃ a' c' u, e = .returned (.slice a' u.length c') ∧ RS w' a' u.length u ∧ Below w.heap.size w w' ∧ Cls l1 l2 neg u := by
  have hne := fun (wx : World) (a : Option Addr) (n c : Nat) => run_neq_slice_nil_any (P := Try.prog) wx 59 21 a n c 0 0 Try.underlying59
  have HL : Hid (n1 = l1.length ∧ n2 = l2.length) := ⟨hp1.1, hp2.1⟩
  have HP2 : Hid (RS w (some x2) n2 l2) := hp2
  have K2 : Hid (cn 0 l2 = true) := k2
  have HG : Hid (cn 0 (grp neg l1) = true ∧ (grp neg l1).length ≤ 65538 ∧ ∀ x, 0 ≤ x → x ≤ 1114111 → inP (grp neg l1) x = (inP l1 x != neg)) := grp_facts k1 (by have := HL.out; omega)
  cases neg with
  | false =>
    have RG : Hid (RS w a1 n1 l1) := hp1
    have BG : Hid (Below w.heap.size w w) := Below.refl _ _
    change Hid (cn 0 l1 = true ∧ l1.length ≤ 65538 ∧ ∀ x, 0 ≤ x → x ≤ 1114111 → inP l1 x = (inP l1 x != false)) at HG
    clear hp1 hp2 k1 k2
    go_enter Try.func48, Try.ntmps48
    go_wp2_with fail
    clear hne
    refine (compl_rs a1 n1 c1 l1 w (by omega) HG.out.1 RG.out).mono ?_
    rintro e w2 ⟨a3, c3, rfl, hr3, hb3, hn3⟩
    have B2 : Hid (Below w.heap.size w w2) := BG.out.trans (hb3.mono BG.out.size)
    have R3 : Hid (RS w2 a3 (cf 0 l1).length (cf 0 l1) ∧ (a3 = none → (cf 0 l1).length = 0 ∧ c3 = 0) ∧ cn 0 (cf 0 l1) = true) := ⟨hr3, hn3, cn_cf l1 0 0 HG.out.1 (Int.le_refl _)⟩
    have hd : (cf 0 l1).length ≤ 65540 := by have e1 := cf_len l1 0; have e2 := HG.out.2.1; omega
    have HS : Hid (∀ u2, cn 0 u2 = true → (∀ x, inP u2 x = (inP (cf 0 l1) x || inP l2 x)) → u2.length ≤ (cf 0 l1).length + l2.length → Cls l1 l2 false (cf 0 u2)) := fun u2 q1 q2 q3 => cls_sub HG.out.1 HG.out.2.1 (by have := HL.out; omega) HG.out.2.2 q1 q2 q3
    clear hr3 hb3 hn3 RG BG HG
    generalize cf 0 l1 = d at *
    go_wp2_with fail
    refine (union_any a3 (some x2) d.length c3 n2 c2 d l2 w2 (by omega) (by omega) R3.out.2.2 K2.out R3.out.1 (HP2.out.later B2.out) R3.out.2.1 (fun h => by cases h)).mono ?_
    rintro e w3 ⟨a4, c4, u, rfl, hr4, hb4, hcn4, hin4, hul4⟩
    have B3 : Hid (Below w.heap.size w w3) := B2.out.trans (hb4.mono B2.out.size)
    have R4 : Hid (RS w3 a4 u.length u ∧ cn 0 u = true ∧ Cls l1 l2 false (cf 0 u)) := ⟨hr4, hcn4, HS.out u hcn4 hin4 (by have := HL.out; omega)⟩
    have hu : u.length ≤ 262144 := by omega
    clear hr4 hb4 hcn4 hin4 hul4 HS R3
    go_wp2_with fail
    refine (compl_rs a4 u.length c4 u w3 (by omega) R4.out.2.1 R4.out.1).mono ?_
    rintro e w4 ⟨a5, c5, rfl, hr5, hb5, _⟩
    have R5 : Hid (RS w4 a5 (cf 0 u).length (cf 0 u) ∧ Below w.heap.size w w4) := ⟨hr5, B3.out.trans (hb5.mono B3.out.size)⟩
    have F5 : Hid (Cls l1 l2 false (cf 0 u)) := R4.out.2.2
    clear hr5 hb5 R4
    generalize cf 0 u = z at *
    go_wp2
    go_ret
    exact ⟨a5, c5, z, rfl, R5.out.1, R5.out.2, F5.out⟩
  | true =>
    have C0 : Hid (Calls Try.prog 42 #[.slice a1 n1 c1] w fun e w' => ∃ a' c', e = .returned (.slice a' (cf 0 l1).length c') ∧ RS w' a' (cf 0 l1).length (cf 0 l1) ∧ Below w.heap.size w w' ∧ (a' = none → (cf 0 l1).length = 0 ∧ c' = 0)) := compl_rs a1 n1 c1 l1 w (by omega) k1 hp1
    change Hid (cn 0 (cf 0 l1) = true ∧ (cf 0 l1).length ≤ 65538 ∧ ∀ x, 0 ≤ x → x ≤ 1114111 → inP (cf 0 l1) x = (inP l1 x != true)) at HG
    clear hp1 hp2 k1 k2
    generalize cf 0 l1 = gg at *
    have hgl : gg.length ≤ 65538 := HG.out.2.1
    go_enter Try.func48, Try.ntmps48
    go_wp2_with fail
    refine C0.out.mono ?_
    rintro e w1 ⟨ag, cg, rfl, hr1, hb1, _⟩
    have RG : Hid (RS w1 ag gg.length gg) := hr1
    have BG : Hid (Below w.heap.size w w1) := hb1
    clear hr1 hb1 C0
    go_wp2_with fail
    clear hne
    refine (compl_rs ag gg.length cg gg w1 (by omega) HG.out.1 RG.out).mono ?_
    rintro e w2 ⟨a3, c3, rfl, hr3, hb3, hn3⟩
    have B2 : Hid (Below w.heap.size w w2) := BG.out.trans (hb3.mono BG.out.size)
    have R3 : Hid (RS w2 a3 (cf 0 gg).length (cf 0 gg) ∧ (a3 = none → (cf 0 gg).length = 0 ∧ c3 = 0) ∧ cn 0 (cf 0 gg) = true) := ⟨hr3, hn3, cn_cf gg 0 0 HG.out.1 (Int.le_refl _)⟩
    have hd : (cf 0 gg).length ≤ 65540 := by have e1 := cf_len gg 0; have e2 := HG.out.2.1; omega
    have HS : Hid (∀ u2, cn 0 u2 = true → (∀ x, inP u2 x = (inP (cf 0 gg) x || inP l2 x)) → u2.length ≤ (cf 0 gg).length + l2.length → Cls l1 l2 true (cf 0 u2)) := fun u2 q1 q2 q3 => cls_sub HG.out.1 HG.out.2.1 (by have := HL.out; omega) HG.out.2.2 q1 q2 q3
    clear hr3 hb3 hn3 RG BG HG
    generalize cf 0 gg = d at *
    go_wp2_with fail
    refine (union_any a3 (some x2) d.length c3 n2 c2 d l2 w2 (by omega) (by omega) R3.out.2.2 K2.out R3.out.1 (HP2.out.later B2.out) R3.out.2.1 (fun h => by cases h)).mono ?_
    rintro e w3 ⟨a4, c4, u, rfl, hr4, hb4, hcn4, hin4, hul4⟩
    have B3 : Hid (Below w.heap.size w w3) := B2.out.trans (hb4.mono B2.out.size)
    have R4 : Hid (RS w3 a4 u.length u ∧ cn 0 u = true ∧ Cls l1 l2 true (cf 0 u)) := ⟨hr4, hcn4, HS.out u hcn4 hin4 (by have := HL.out; omega)⟩
    have hu : u.length ≤ 262144 := by omega
    clear hr4 hb4 hcn4 hin4 hul4 HS R3
    go_wp2_with fail
    refine (compl_rs a4 u.length c4 u w3 (by omega) R4.out.2.1 R4.out.1).mono ?_
    rintro e w4 ⟨a5, c5, rfl, hr5, hb5, _⟩
    have R5 : Hid (RS w4 a5 (cf 0 u).length (cf 0 u) ∧ Below w.heap.size w w4) := ⟨hr5, B3.out.trans (hb5.mono B3.out.size)⟩
    have F5 : Hid (Cls l1 l2 true (cf 0 u)) := R4.out.2.2
    clear hr5 hb5 R4
    generalize cf 0 u = z at *
    go_wp2
    go_ret
    exact ⟨a5, c5, z, rfl, R5.out.1, R5.out.2, F5.out⟩

set_option maxHeartbeats 1000000 in
theorem classOf_nil (neg : Bool) (a1 : Option Addr) (n1 c1 n2 c2 : Nat) (l1 : List Int) (w : World) (h1 : n1 ≤ 65536) (k1 : cn 0 l1 = true) (hp1 : RS w a1 n1 l1) :
    Calls Try.prog 48 #[.slice a1 n1 c1, .bool neg, .slice none n2 c2] w fun e w' => ∃ a' c' u, e = .returned (.slice a' u.length c') ∧ RS w' a' u.length u ∧ Below w.heap.size w w' ∧ Cls l1 [] neg u := by
  have hne := fun (wx : World) (a : Option Addr) (n c : Nat) => run_neq_slice_nil_any (P := Try.prog) wx 59 21 a n c 0 0 Try.underlying59
  have hl : n1 = l1.length := hp1.1
  have HG : Hid (cn 0 (grp neg l1) = true ∧ (grp neg l1).length ≤ 65538 ∧ ∀ x, 0 ≤ x → x ≤ 1114111 → inP (grp neg l1) x = (inP l1 x != neg)) := grp_facts k1 (by omega)
  cases neg with
  | false =>
    have RG : Hid (RS w a1 n1 l1) := hp1
    have HL : Hid (n1 = l1.length) := hl
    clear hp1 k1 hl
    go_enter Try.func48, Try.ntmps48
    go_wp2
    go_ret
    exact ⟨a1, c1, l1, by rw [HL.out]; rfl, by rw [← HL.out]; exact RG.out, Below.refl _ _, cls_plain HG.out.1 HG.out.2.1 HG.out.2.2⟩
  | true =>
    have C0 : Hid (Calls Try.prog 42 #[.slice a1 n1 c1] w fun e w' => ∃ a' c', e = .returned (.slice a' (cf 0 l1).length c') ∧ RS w' a' (cf 0 l1).length (cf 0 l1) ∧ Below w.heap.size w w' ∧ (a' = none → (cf 0 l1).length = 0 ∧ c' = 0)) := compl_rs a1 n1 c1 l1 w (by omega) k1 hp1
    change Hid (cn 0 (cf 0 l1) = true ∧ (cf 0 l1).length ≤ 65538 ∧ ∀ x, 0 ≤ x → x ≤ 1114111 → inP (cf 0 l1) x = (inP l1 x != true)) at HG
    clear hp1 k1 hl
    generalize cf 0 l1 = gg at *
    go_enter Try.func48, Try.ntmps48
    go_wp2_with fail
    refine C0.out.mono ?_
    rintro e w1 ⟨ag, cg, rfl, hr1, hb1, _⟩
    have RG : Hid (RS w1 ag gg.length gg ∧ Below w.heap.size w w1) := ⟨hr1, hb1⟩
    clear hr1 hb1 C0
    go_wp2
    go_ret
    exact ⟨ag, cg, gg, rfl, RG.out.1, RG.out.2, cls_plain HG.out.1 HG.out.2.1 HG.out.2.2⟩

/-- ZZclassOf. -/
theorem zzclassOf_any (neg : Bool) (a1 a2 : Option Addr) (n1 c1 n2 c2 : Nat) (l1 l2 : List Int) (w : World) (h1 : n1 ≤ 65536) (h2 : n2 ≤ 65536) (k1 : cn 0 l1 = true) (k2 : cn 0 l2 = true)
    (hp1 : RS w a1 n1 l1) (hp2 : RS w a2 n2 l2) (hn2 : a2 = none → n2 = 0) :
    Calls Try.prog 39 #[.slice a1 n1 c1, .bool neg, .slice a2 n2 c2] w fun e w' => ∃ a' c' u, e = .returned (.slice a' u.length c') ∧ RS w' a' u.length u ∧ Below w.heap.size w w' ∧ Cls l1 l2 neg u := by
  have C : Hid (Calls Try.prog 48 #[.slice a1 n1 c1, .bool neg, .slice a2 n2 c2] w fun e w' => ∃ a' c' u, e = .returned (.slice a' u.length c') ∧ RS w' a' u.length u ∧ Below w.heap.size w w' ∧ Cls l1 l2 neg u) := by
    cases a2 with
    | some x2 => exact classOf_sub neg a1 x2 n1 c1 n2 c2 l1 l2 w h1 h2 k1 k2 hp1 hp2
    | none =>
      obtain rfl : l2 = [] := List.eq_nil_of_length_eq_zero (by rw [← hp2.1]; exact hn2 rfl)
      exact classOf_nil neg a1 n1 c1 n2 c2 l1 w h1 k1 hp1
  clear hp1 hp2 hn2 k1 k2
  go_enter Try.func39, Try.ntmps39
  go_wp2_with fail
  refine C.out.mono ?_
  rintro e w1 ⟨a', c', u, rfl, hr, hb, hc⟩
  have F : Hid (RS w1 a' u.length u ∧ Below w.heap.size w w1 ∧ Cls l1 l2 neg u) := ⟨hr, hb, hc⟩
  clear hr hb hc C
  go_wp2
  go_ret
  exact ⟨a', c', u, rfl, F.out⟩
end Go.Proofs.Qxb6002344a.Rune
