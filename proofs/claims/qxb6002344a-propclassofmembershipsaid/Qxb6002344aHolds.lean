/- THE WALKS OF (runeSet).holds, ITS CLOSURE, sort.Search AT IT (seat b6002344a). -/
import Derived.Test.Qxb6002344aCompl
set_option linter.unusedVariables false
namespace Go.Proofs.Qxb6002344a.Rune
open Go.RowKit

theorem ret_int {k : IntKind} {a b : Int} (h : a = b) : Ending.returned (.int k a) = .returned (.int k b) := by rw [h]

/-- The two boxes and the row. -/
def Boxed (W : World) (B : Nat) (a : Option Addr) (n c : Nat) (x : Int) (l : List Int) : Prop :=
  W.cell? ⟨B, 0, none⟩ = some (.slice a n c) ∧ W.cell? ⟨B + 1, 0, none⟩ = some (.int .i32 x) ∧ RS W a n l

set_option maxHeartbeats 1000000 in
theorem clos_any (W : World) (B : Nat) (a : Option Addr) (n c : Nat) (x : Int) (l : List Int) (i : Nat) (hn : n ≤ 1048576) (hi : i < n / 2) (hB : Boxed W B a n c x l) :
    Calls Try.prog 53 #[.int .i64 i, .pointer (some ⟨B, 0, none⟩), .pointer (some ⟨B + 1, 0, none⟩)] W fun e w' => e = .returned (.bool (decide (x ≤ en l i))) ∧ ∃ q, w' = W.drewN q := by
  obtain ⟨c1, c2, hl, hx⟩ := hB
  obtain ⟨b, off, rfl, hc⟩ := hx.resolve_left (by omega)
  have g := hc (2 * i + 1) (by omega)
  have E : Hid (l.getD (2 * i + 1) 0 = en l i) := rfl
  generalize l.getD (2 * i + 1) 0 = p at g E
  have b1 : (0 : Int) ≤ 2 * (i : Int) + 1 := by omega
  have b2 : 2 * (i : Int) + 1 < (n : Int) := by omega
  clear hx hc hl
  go_enter Try.func53, Try.ntmps53
  go_wp2
  go_quiet (fail)
  go_wp2
  go_ret
  exact ⟨ret_bool (by rw [E.out]), _, rfl⟩

theorem before_of {l : List Int} {x : Int} {m i : Nat} (hm : m = l.length / 2) (hi : i ≤ m) (h1 : ∀ a, a < i → ¬ x ≤ en l a) (h2 : ∀ a, i ≤ a → a < m → x ≤ en l a) : before l x = i := by
  unfold before
  rw [← hm]
  obtain ⟨d, rfl⟩ : ∃ d, m = i + d := ⟨m - i, by omega⟩
  clear hm
  rw [List.range_add, List.countP_append, List.countP_map]
  have e1 : (List.range i).countP (fun j => !decide (x ≤ en l j)) = i := by
    have : (List.range i).countP (fun j => !decide (x ≤ en l j)) = (List.range i).length := by
      rw [List.countP_eq_length]
      intro j hj
      have := h1 j (List.mem_range.1 hj)
      simp [this]
    rw [this, List.length_range]
  rw [e1]
  have e2 : (List.range d).countP ((fun j => !decide (x ≤ en l j)) ∘ fun j => i + j) = 0 := by
    refine countP_zero fun j hj => ?_
    have := h2 (i + j) (by omega) (by omega)
    simp [this]
  rw [e2]
  rfl

set_option maxHeartbeats 1000000 in
theorem search_any (W : World) (B : Nat) (a : Option Addr) (n c : Nat) (x : Int) (l : List Int) (m : Nat) (hn : n ≤ 1048576) (hm : m = n / 2) (hcn : cn 0 l = true) (hB : Boxed W B a n c x l) :
    Calls Try.prog 52 #[.int .i64 m, .func (.func 53) #[] #[.pointer (some ⟨B, 0, none⟩), .pointer (some ⟨B + 1, 0, none⟩)]] W fun e w' => e = .returned (.int .i64 (before l x)) ∧ ∃ q, w' = W.drewN q := by
  have HB : Hid (Boxed W B a n c x l) := hB
  have HM : Hid (m = n / 2) := hm
  have hm2 : m ≤ 524288 := by omega
  have HCN : Hid (cn 0 l = true) := hcn
  clear hB hcn hm
  go_enter Try.func52, Try.ntmps52
  go_wp2
  go_loopw [5, 6] (fun i j wr => ∃ (p r q : Nat), p ≤ r ∧ r ≤ m ∧ i = .int .i64 p ∧ j = .int .i64 r ∧ Hid (∀ a, a < p → en l a < x) ∧ Hid (∀ a, r ≤ a → a < m → x ≤ en l a) ∧ wr = W.drewN q) (fun i j _ => (intOf j).toNat - (intOf i).toNat)
  case atStart => exact ⟨0, m, 0, Nat.zero_le _, Nat.le_refl _, rfl, rfl, fun a h => absurd h (Nat.not_lt_zero _), fun a h1 h2 => absurd h2 (by omega), rfl⟩
  case round =>
    obtain ⟨p, r, q, hpr, hrm, rfl, rfl, H1, H2, hwr⟩ := hrel
    have HW : Hid (wr = W.drewN q) := hwr
    clear hwr
    by_cases hlt : p < r
    · obtain ⟨h, hh⟩ : ∃ h : Nat, ((p : Int) + (r : Int)) / 2 = (h : Int) := ⟨(p + r) / 2, by omega⟩
      have hp1 : p ≤ h := by omega
      have hr1 : h < r := by omega
      have HB2 : Hid (Boxed wr B a n c x l) := by rw [HW.out]; exact HB.out
      have C : Hid (Calls Try.prog 53 #[.int .i64 h, .pointer (some ⟨B, 0, none⟩), .pointer (some ⟨B + 1, 0, none⟩)] wr fun e w' => e = .returned (.bool (decide (x ≤ en l h))) ∧ ∃ q, w' = wr.drewN q) := clos_any wr B a n c x l h hn (by rw [← HM.out]; omega) HB2.out
      by_cases hx : x ≤ en l h
      · have dx : decide (x ≤ en l h) = true := decide_eq_true hx
        rw [dx] at C
        have H3 : Hid (∀ a, h ≤ a → a < m → x ≤ en l a) := fun b h1 h2 => by
          have hlen : m = l.length / 2 := by rw [HM.out, HB.out.2.2.1]
          have := en_mono l 0 HCN.out h b h1 (by omega)
          omega
        clear dx hx
        go_wp2_with fail
        refine C.out.mono ?_
        rintro e w' ⟨rfl, q', rfl⟩
        clear hh
        go_wp2
        go_roundw
        case rel => exact ⟨p, h, q + q', by omega, by omega, rfl, rfl, H1, H3, by rw [HW.out]; exact World.drewN_drewN _ _ _⟩
        case measure => simp [intOf]; omega
      · have dx : decide (x ≤ en l h) = false := decide_eq_false hx
        rw [dx] at C
        have H3 : Hid (∀ a, a < h + 1 → en l a < x) := fun b h1 => by
          have hlen : m = l.length / 2 := by rw [HM.out, HB.out.2.2.1]
          have := en_mono l 0 HCN.out b h (by omega) (by omega)
          omega
        clear dx hx
        go_wp2_with fail
        refine C.out.mono ?_
        rintro e w' ⟨rfl, q', rfl⟩
        clear hh
        go_wp2
        go_roundw
        case rel => exact ⟨h + 1, r, q + q', by omega, by omega, by go_num, rfl, H3, H2, by rw [HW.out]; exact World.drewN_drewN _ _ _⟩
        case measure => simp [intOf]; omega
    · have HN : Hid (before l x = p) := before_of (m := m) (by rw [HM.out, HB.out.2.2.1]) (by omega) (fun a h => by have := H1.out a h; omega) (fun a h1 h2 => H2.out a (by omega) h2)
      go_wp2
      go_ret
      exact ⟨ret_int (by rw [HN.out]), _, HW.out⟩

theorem RS.later {w w' : World} {a : Option Addr} {n : Nat} {l : List Int} (h : RS w a n l) (hb : Below w.heap.size w w') : RS w' a n l := by
  obtain ⟨hl, h0 | ⟨b, off, ha, hc⟩⟩ := h
  · exact ⟨hl, .inl h0⟩
  · refine ⟨hl, .inr ⟨b, off, ha, fun j hj => ?_⟩⟩
    have := hc j hj
    rw [hb.cell (cell_lt this)]; exact this

theorem Below.drewN {B : Nat} {a w : World} (h : Below B a w) (q : Nat) : Below B a (w.drewN q) := ⟨h.os, h.tape, h.output, h.size, h.block⟩

set_option maxHeartbeats 1000000 in
theorem holds_any (a : Option Addr) (n c : Nat) (x : Int) (l : List Int) (w : World) (hn : n ≤ 1048576) (hcn : cn 0 l = true) (hp : RS w a n l) :
    Calls Try.prog 43 #[.slice a n c, .int .i32 x] w fun e w' => e = .returned (.bool (inP l x)) ∧ Below w.heap.size w w' := by
  have hmf : ∀ (fn : Fn) (first cap : Array Value) (w : World), (Instr.makeFunc fn first cap).run Try.prog w = .ok (.func fn first cap) w := fun _ _ _ _ => rfl
  have hbel : Below w.heap.size w ((w.alloc (.cells #[.slice a n c] 59)).alloc (.cells #[.int .i32 x] 21)) := ((Below.refl _ _).alloc (Nat.le_refl _) _).alloc (by simp) _
  have hbox : Boxed ((w.alloc (.cells #[.slice a n c] 59)).alloc (.cells #[.int .i32 x] 21)) w.heap.size a n c x l := by
    refine ⟨?_, ?_, hp.later hbel⟩
    · rw [World.cell?_alloc_past _ _ _ (by simp), World.cell?_alloc_at _ _ _ _ rfl]; rfl
    · rw [World.cell?_alloc_at _ _ _ _ (by simp)]; rfl
  have HS : Hid (Calls Try.prog 52 #[.int .i64 (n / 2 : Nat), .func (.func 53) #[] #[.pointer (some ⟨w.heap.size, 0, none⟩), .pointer (some ⟨w.heap.size + 1, 0, none⟩)]] ((w.alloc (.cells #[.slice a n c] 59)).alloc (.cells #[.int .i32 x] 21)) fun e w' => e = .returned (.int .i64 (before l x)) ∧ ∃ q, w' = ((w.alloc (.cells #[.slice a n c] 59)).alloc (.cells #[.int .i32 x] 21)).drewN q) :=
    search_any _ w.heap.size a n c x l (n / 2) hn rfl hcn hbox
  have HBx : Hid (Boxed ((w.alloc (.cells #[.slice a n c] 59)).alloc (.cells #[.int .i32 x] 21)) w.heap.size a n c x l) := hbox
  have HBl : Hid (Below w.heap.size w ((w.alloc (.cells #[.slice a n c] 59)).alloc (.cells #[.int .i32 x] 21))) := hbel
  have HH : Hid (hol l x = inP l x) := hol_inP l 0 x hcn
  have HLen : Hid (n = l.length) := hp.1
  clear hbel hbox hp hcn
  have e2 : ((n / 2 : Nat) : Int) = (n : Int) / 2 := by omega
  rw [e2] at HS
  clear e2
  go_enter Try.func43, Try.ntmps43
  go_wp2_with fail
  refine HS.out.mono ?_
  rintro e W1 ⟨rfl, q, hW1⟩
  have HB1 : Hid (Boxed W1 w.heap.size a n c x l) := by rw [hW1]; exact HBx.out
  have HL1 : Hid (Below w.heap.size w W1) := by rw [hW1]; exact Below.drewN HBl.out q
  clear hW1 HBx HBl HS hmf
  have c1 := HB1.out.1
  have c2 := HB1.out.2.1
  have HN : Hid ((decide (before l x < n / 2) && decide (l.getD (2 * before l x) 0 ≤ x)) = inP l x) := by show _ = _; rw [← HH.out, HLen.out]; rfl
  clear HH
  generalize before l x = i at HN
  by_cases hi : i < n / 2
  · obtain ⟨b, off, rfl, hc⟩ := HB1.out.2.2.2.resolve_left (by omega)
    have g := hc (2 * i) (by omega)
    generalize l.getD (2 * i) 0 = p at g HN
    have t1 : (i : Int) < (n : Int) / 2 := by omega
    have b1 : (0 : Int) ≤ 2 * (i : Int) := by omega
    have b2 : 2 * (i : Int) < (n : Int) := by omega
    clear hc
    have HN2 : Hid (decide (p ≤ x) = inP l x) := by show _ = _; rw [← HN.out]; simp [hi]
    clear HN
    go_wp2
    go_quiet (fail)
    go_wp2
    go_ret
    exact ⟨ret_bool HN2.out, Below.drewN HL1.out _⟩
  · have t1 : decide ((i : Int) < (n : Int) / 2) = false := decide_eq_false (by omega)
    have HN2 : Hid (false = inP l x) := by show _ = _; rw [← HN.out]; simp [hi]
    clear HN
    go_wp2
    go_quiet (fail)
    go_wp2
    go_ret
    exact ⟨ret_bool HN2.out, Below.drewN HL1.out _⟩

/-- ZZholds. -/
theorem zzholds_any (a : Option Addr) (n c : Nat) (x : Int) (l : List Int) (w : World) (hn : n ≤ 1048576) (hcn : cn 0 l = true) (hp : RS w a n l) :
    Calls Try.prog 20 #[.slice a n c, .int .i32 x] w fun e w' => e = .returned (.bool (inP l x)) ∧ Below w.heap.size w w' := by
  have C : Hid (Calls Try.prog 43 #[.slice a n c, .int .i32 x] w fun e w' => e = .returned (.bool (inP l x)) ∧ Below w.heap.size w w') := holds_any a n c x l w hn hcn hp
  clear hp hn hcn
  go_enter Try.func20, Try.ntmps20
  go_wp2_with fail
  refine C.out.mono ?_
  rintro e w' ⟨rfl, hbel⟩
  have H : Hid _ := hbel
  clear hbel
  go_wp2
  go_ret
  exact ⟨rfl, H.out⟩

end Go.Proofs.Qxb6002344a.Rune
