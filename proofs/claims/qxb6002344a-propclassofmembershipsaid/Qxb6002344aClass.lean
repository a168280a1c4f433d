/- THE WALKS OF (runeSet).union, classOf, ZZclassOf (seat b6002344a). -/
import Derived.Test.Qxb6002344aConcat
set_option linter.unusedVariables false
namespace Go.Proofs.Qxb6002344a.Rune
open Go.RowKit

theorem ok_of_cn : ∀ (l : List Int) (lo : Int), 0 ≤ lo → cn lo l = true → ∀ p ∈ prs l, okP p := by
  intro l
  induction l using pairs_ind with
  | h0 => intro lo _ _ p hp; cases hp
  | h1 a => intro lo _ _ p hp; cases hp
  | h2 a b r ih =>
    intro lo h0 h p hp
    rw [cn_cons] at h
    have hM : b ≤ 1114111 := h.2.2.1
    rcases List.mem_cons.1 hp with rfl | hp
    · exact ⟨by have := h.1; show 0 ≤ a; omega, h.2.1, hM⟩
    · exact ih (b + 2) (by have := h.1; have := h.2.1; omega) h.2.2.2 p hp
theorem prs_app : ∀ (l r : List Int), l.length % 2 = 0 → prs (l ++ r) = prs l ++ prs r := by
  intro l
  induction l using pairs_ind with
  | h0 => intro r _; rfl
  | h1 a => intro r h; simp at h
  | h2 a b t ih =>
    intro r h
    show (a, b) :: prs (t ++ r) = (a, b) :: (prs t ++ prs r)
    rw [ih r (by simp only [List.length_cons] at h; omega)]

/-- complement, with the slice written out. -/
theorem compl_rs (a : Option Addr) (n c : Nat) (l : List Int) (w : World) (hn : n ≤ 1048576) (hcn : cn 0 l = true) (hp : RS w a n l) :
    Calls Try.prog 42 #[.slice a n c] w fun e w' => ∃ a' c', e = .returned (.slice a' (cf 0 l).length c') ∧ RS w' a' (cf 0 l).length (cf 0 l) ∧ Below w.heap.size w w' ∧ (a' = none → (cf 0 l).length = 0 ∧ c' = 0) := by
  refine (compl_any a n c l w hn hcn hp).mono ?_
  rintro e w' ⟨v, rfl, hown, hbel⟩
  obtain ⟨a', c', rfl, hrs, hnil⟩ := rs_of_owns hown
  exact ⟨a', c', rfl, hrs, hbel, hnil⟩

set_option maxHeartbeats 1000000 in
theorem union_any (a1 a2 : Option Addr) (n1 c1 n2 c2 : Nat) (l1 l2 : List Int) (w : World) (h1 : n1 ≤ 262144) (h2 : n2 ≤ 262144) (k1 : cn 0 l1 = true) (k2 : cn 0 l2 = true)
    (hp1 : RS w a1 n1 l1) (hp2 : RS w a2 n2 l2) (hn1 : a1 = none → n1 = 0 ∧ c1 = 0) (hn2 : a2 = none → n2 = 0 ∧ c2 = 0) :
    Calls Try.prog 58 #[.slice a1 n1 c1, .slice a2 n2 c2] w fun e w' => ∃ a' c' u, e = .returned (.slice a' u.length c') ∧ RS w' a' u.length u ∧ Below w.heap.size w w' ∧ cn 0 u = true ∧ (∀ x, inP u x = (inP l1 x || inP l2 x)) ∧ u.length ≤ n1 + n2 := by
  have B0 : Hid (Below w.heap.size w (w.alloc (.cells #[.slice a1 n1 c1, .slice a2 n2 c2] 59))) := (Below.refl _ _).alloc (Nat.le_refl _) _
  have C64 : Hid (Calls Try.prog 64 #[.slice (some ⟨w.heap.size, 0, none⟩) 2 2] (w.alloc (.cells #[.slice a1 n1 c1, .slice a2 n2 c2] 59)) fun e w' => ∃ v, e = .returned v ∧ w'.ownsRow (w.alloc (.cells #[.slice a1 n1 c1, .slice a2 n2 c2] 59)).heap.size 21 1 v (l1 ++ l2).length (ri (l1 ++ l2)) ∧ Below (w.alloc (.cells #[.slice a1 n1 c1, .slice a2 n2 c2] 59)).heap.size (w.alloc (.cells #[.slice a1 n1 c1, .slice a2 n2 c2] 59)) w') :=
    concat_any w.heap.size a1 a2 n1 c1 n2 c2 l1 l2 _ h1 h2 (by rw [cell_of_row _ _ 0 _ 59 (0, 0) (heap_alloc_new w _)]; rfl) (by rw [cell_of_row _ _ 1 _ 59 (0, 0) (heap_alloc_new w _)]; rfl) (hp1.later B0.out) (hp2.later B0.out) hn1 hn2
  have HL : Hid (n1 = l1.length ∧ n2 = l2.length) := ⟨hp1.1, hp2.1⟩
  have HE : Hid (l1.length % 2 = 0 ∧ l2.length % 2 = 0) := ⟨cn_even _ _ k1, cn_even _ _ k2⟩
  have HOk : Hid (∀ p ∈ prs (l1 ++ l2), okP p) := by
    intro p hp
    rw [prs_app _ _ HE.out.1, List.mem_append] at hp
    rcases hp with hp | hp
    · exact ok_of_cn l1 0 (Int.le_refl _) k1 p hp
    · exact ok_of_cn l2 0 (Int.le_refl _) k2 p hp
  clear hp1 hp2 hn1 hn2 k1 k2
  go_enter Try.func58, Try.ntmps58
  go_wp2_with fail
  refine C64.out.mono ?_
  rintro e w1 ⟨v, rfl, hown, hbel⟩
  obtain ⟨a3, c3, rfl, hrs, _⟩ := rs_of_owns hown
  have B1 : Hid (Below w.heap.size w w1) := B0.out.trans (hbel.mono B0.out.size)
  have R1 : Hid (RS w1 a3 (l1 ++ l2).length (l1 ++ l2)) := hrs
  clear hown hrs hbel C64 B0
  have hlen : l1.length + l2.length ≤ 524288 := by have := HL.out; omega
  have HH : Hid ((∀ x, inP (l1 ++ l2) x = (inP l1 x || inP l2 x)) ∧ (l1 ++ l2).length = n1 + n2 ∧ (l1 ++ l2).length % 2 = 0) := by
    refine ⟨fun x => inP_append _ _ _ HE.out.1, ?_, ?_⟩
    · rw [List.length_append]; have := HL.out; omega
    · rw [List.length_append]; have := HE.out; omega
  clear HE HL
  generalize l1 ++ l2 = l at *
  have hl : l.length ≤ 524288 := by have := HH.out.2.1; omega
  go_wp2_with fail
  refine (rso_any a3 l.length c3 l w1 (by omega) HH.out.2.2 HOk.out R1.out).mono ?_
  rintro e w2 ⟨v, u, rfl, hown, hbel, hcn, hin, hul⟩
  obtain ⟨a4, c4, rfl, hrs, _⟩ := rs_of_owns hown
  have F : Hid (RS w2 a4 u.length u ∧ Below w.heap.size w w2 ∧ cn 0 u = true ∧ (∀ x, inP u x = (inP l1 x || inP l2 x)) ∧ u.length ≤ n1 + n2) :=
    ⟨hrs, B1.out.trans (hbel.mono B1.out.size), hcn, fun x => (hin x).trans (HH.out.1 x), by rw [← HH.out.2.1]; exact hul⟩
  clear hown hrs hbel hcn hin hul R1 B1 HH HOk
  go_wp2
  go_ret
  exact ⟨a4, c4, u, rfl, F.out⟩

/-- What classOf's set holds. -/
def Cls (l1 l2 : List Int) (neg : Bool) (u : List Int) : Prop := cn 0 u = true ∧ u.length ≤ 262144 ∧ ∀ x, 0 ≤ x → x ≤ 1114111 → inP u x = ((inP l1 x != neg) && !inP l2 x)

/-- The last steps, from a group g that has been complemented or not. -/
theorem cls_sub {l1 l2 g u2 : List Int} {neg : Bool} (hg : cn 0 g = true) (hlen : g.length ≤ 65538) (hl2 : l2.length ≤ 65536) (hin : ∀ x, 0 ≤ x → x ≤ 1114111 → inP g x = (inP l1 x != neg))
    (hu : cn 0 u2 = true) (hui : ∀ x, inP u2 x = (inP (cf 0 g) x || inP l2 x)) (hul : u2.length ≤ (cf 0 g).length + l2.length) : Cls l1 l2 neg (cf 0 u2) := by
  have e1 := cf_len g 0
  have e2 := cf_len u2 0
  refine ⟨cn_cf u2 0 0 hu (Int.le_refl _), by omega, fun x h0 h1 => ?_⟩
  rw [cf_inP u2 0 x hu h0 h1, hui, cf_inP g 0 x hg h0 h1, hin x h0 h1]
  cases inP l1 x <;> cases neg <;> cases inP l2 x <;> rfl
end Go.Proofs.Qxb6002344a.Rune
