/- THE WALKS OF slices.Grow (at nil) AND slices.Concat (two row of runes) (seat b6002344a). -/
import Derived.Test.Qxb6002344aSetLaw
import Derived.Lib.AppendZeros
import Derived.Laws.AppendOwnNone
import Derived.Lib.Hide
set_option linter.unusedVariables false
namespace Go.Proofs.Qxb6002344a.Rune
open Go.RowKit

theorem zeros_size (n : Nat) : (Builtin.zeroCells #[Value.int .i32 0] n).size = n := by simp [Builtin.zeroCells]

set_option maxRecDepth 100000 in
set_option maxHeartbeats 1000000 in
theorem grow_any (n : Nat) (w : World) (hn : n ≤ 1048576) :
    Calls Try.prog 76 #[.slice none 0 0, .int .i64 n] w fun e w' => ∃ v, e = .returned v ∧ w'.ownsRow w.heap.size 21 1 v 0 [] ∧ Below w.heap.size w w' := by
  by_cases h0 : n = 0
  · subst h0
    clear hn
    go_enter Try.func76, Try.ntmps76
    go_wp2
    go_ret
    exact ⟨_, rfl, ⟨rfl, .inl ⟨rfl, rfl⟩⟩, Below.refl _ _⟩
  obtain ⟨i1, hi, hz0, hz1, hz2⟩ := info_parts info21
  have hr := fun ty => Lib.run_append_nil_zeros (P := Try.prog) w 59 3 ty 21 i1 (.int .i32 0) .i64 .i64 Try.underlying59 Try.underlying3 hi hz0 n (by omega) (by omega) (by omega) (by rw [hz2]; omega)
  have HR : Hid (∀ ty, _) := hr
  have hge := grownCap_ge w n 0 21
  have hle := grownCap_le_maxLen w n 0 21 (by unfold maxLen; omega)
  unfold maxLen at hle
  clear hr hi hz0 hz1 hz2
  generalize grownCap w n 0 21 = G at HR hge hle
  go_enter Try.func76, Try.ntmps76
  go_wp2_with (at_builtin; (refine Lib.wpList_append_run _ rfl (.tmp 20) (.tmp 21) 59 3 rfl _ _ rfl rfl _ _ (HR.out _) ?_))
  go_ret
  refine ⟨_, rfl, ?_, ?_⟩
  · refine ⟨rfl, .inr ⟨w.heap.size, G, _, rfl, Nat.le_refl _, Go.Deep.blk_alloc_new _ _, Nat.zero_le _, (by unfold maxLen; omega), ?_, by simp⟩⟩
    rw [Array.size_append, zeros_size, zeros_size]; omega
  · exact ((Below.refl _ _).alloc (Nat.le_refl _) _).drew

theorem ri_len (l : List Int) : (ri l).length = l.length := by simp [ri]
theorem ri_one (l : List Int) : ∀ u ∈ ri l, u.oneCell' = true := by
  intro u hu
  simp only [ri, List.mem_map] at hu
  obtain ⟨x, _, rfl⟩ := hu
  rfl
theorem ri_app (l r : List Int) : ri (l ++ r) = ri l ++ ri r := by simp [ri]
theorem rs_news {w : World} {ad : Addr} {n : Nat} {l : List Int} (h : RS w (some ad) n l) : ∀ j u, (ri l)[j]? = some u → w.cell? (ad.add j) = some u := by
  intro j u hu
  have hj : j < l.length := by
    have := (List.getElem?_eq_some_iff.1 hu).1
    rwa [ri_len] at this
  obtain ⟨hl, h0 | ⟨b, off, ha, hc⟩⟩ := h
  · omega
  · injection ha with ha
    subst ha
    rw [show (⟨b, off, none⟩ : Addr).add j = ⟨b, off + j, none⟩ from by simp [Addr.add], hc j (by omega)]
    unfold ri at hu
    rw [List.getElem?_map, List.getElem?_eq_getElem hj] at hu
    rw [List.getD_eq_getElem?_getD, List.getElem?_eq_getElem hj]
    exact hu
/-- Behind an append of a row of runes. -/
theorem app_more {w wr w1 : World} {v v' : Value} {acc l : List Int} {n : Nat} (hown : wr.ownsRow w.heap.size 21 1 v acc.length (ri acc)) (hbel : Below w.heap.size w wr) (hB : w.heap.size ≤ wr.heap.size)
    (hown' : w1.ownsRow w.heap.size 21 1 v' (acc.length + n) (ri acc ++ ri l)) (hgrow : wr.grownBy w1 v.ownBlock) (hn : n = l.length) :
    w1.ownsRow w.heap.size 21 1 v' (acc ++ l).length (ri (acc ++ l)) ∧ Below w.heap.size w w1 := by
  refine ⟨?_, hbel.grown hgrow hB (fun k hk => (hown.lt k hk).1)⟩
  rw [List.length_append, ri_app, ← hn]; exact hown'

set_option maxRecDepth 1000000 in
set_option maxHeartbeats 2000000 in
theorem concat_any (b : Nat) (a1 a2 : Option Addr) (n1 c1 n2 c2 : Nat) (l1 l2 : List Int) (w : World) (h1 : n1 ≤ 262144) (h2 : n2 ≤ 262144) (q1 : w.cell? ⟨b, 0, none⟩ = some (.slice a1 n1 c1)) (q2 : w.cell? ⟨b, 1, none⟩ = some (.slice a2 n2 c2))
    (hp1 : RS w a1 n1 l1) (hp2 : RS w a2 n2 l2) (hn1 : a1 = none → n1 = 0 ∧ c1 = 0) (hn2 : a2 = none → n2 = 0 ∧ c2 = 0) :
    Calls Try.prog 64 #[.slice (some ⟨b, 0, none⟩) 2 2] w fun e w' => ∃ v, e = .returned v ∧ w'.ownsRow w.heap.size 21 1 v (l1 ++ l2).length (ri (l1 ++ l2)) ∧ Below w.heap.size w w' := by
  have R1 : Hid (RS w a1 n1 l1) := hp1
  have R2 : Hid (RS w a2 n2 l2) := hp2
  have HL1 : Hid (n1 = l1.length) := hp1.1
  have HL2 : Hid (n2 = l2.length) := hp2.1
  have HN1 : Hid (a1 = none → n1 = 0 ∧ c1 = 0) := hn1
  have HN2 : Hid (a2 = none → n2 = 0 ∧ c2 = 0) := hn2
  have hbb : Hid (b < w.heap.size) := cell_lt q1
  clear hp1 hp2 hn1 hn2
  obtain ⟨i1, hi, hz0, hz1, hz2⟩ := info_parts info21
  have HI1 : Hid (_ ∧ _ ∧ _ ∧ _) := And.intro hi (And.intro hz0 (And.intro hz1 hz2))
  clear hi hz0 hz1 hz2
  go_enter Try.func64, Try.ntmps64
  go_wp2
  go_loop [3, 11] (fun z i => (i = .int .i64 0 ∧ z = .int .i64 0) ∨ (i = .int .i64 1 ∧ z = .int .i64 n1) ∨ (i = .int .i64 2 ∧ z = .int .i64 (n1 + n2 : Nat))) (fun _ i => 2 - (intOf i).toNat)
  case atStart => exact .inl ⟨rfl, rfl⟩
  case round =>
    rcases hrel with ⟨rfl, rfl⟩ | ⟨rfl, rfl⟩ | ⟨rfl, rfl⟩
    · go_wp2
      go_round
      case rel => exact .inr (.inl ⟨rfl, by first | rfl | go_num⟩)
      case measure => simp [intOf]
    · go_wp2
      go_round
      case rel => exact .inr (.inr ⟨rfl, by go_num⟩)
      case measure => simp [intOf]
    · have C76 : Hid _ := grow_any (n1 + n2) w (by omega)
      go_wp2_with fail
      refine (grow_any (n1 + n2) w (by omega)).mono ?_
      rintro e w2 ⟨v, rfl, hown, hbel⟩
      have O0 : Hid (w2.ownsRow w.heap.size 21 1 v 0 []) := hown
      have B0 : Hid (Below w.heap.size w w2) := hbel
      clear hown hbel C76
      go_wp2
      go_loopw [6, 27] (fun v i wr => ∃ (k : Nat) (acc : List Int), k ≤ 2 ∧ i = .int .i64 k ∧ Hid (wr.ownsRow w.heap.size 21 1 v acc.length (ri acc)) ∧ Hid (Below w.heap.size w wr) ∧ Hid (k = 0 ∧ acc = [] ∨ k = 1 ∧ acc = l1 ∨ k = 2 ∧ acc = l1 ++ l2)) (fun _ i _ => 2 - (intOf i).toNat)
      case atStart => exact ⟨0, [], by omega, rfl, O0.out, B0.out, .inl ⟨rfl, rfl⟩⟩
      case round =>
        obtain ⟨k, acc, hk, rfl, HO, HB, hc⟩ := hrel
        have HC : Hid (k = 0 ∧ acc = [] ∨ k = 1 ∧ acc = l1 ∨ k = 2 ∧ acc = l1 ++ l2) := hc
        clear hc O0 B0
        by_cases hlt : k < 2
        · obtain ⟨a, n, c, l, qk, RL, HL, HN, hnx, hal, hnl⟩ : ∃ (a : Option Addr) (n c : Nat) (l : List Int), wr.cell? ⟨b, k, none⟩ = some (.slice a n c) ∧ Hid (RS w a n l) ∧ Hid (n = l.length) ∧ Hid (a = none → n = 0 ∧ c = 0) ∧ Hid (k + 1 = 0 ∧ acc ++ l = [] ∨ k + 1 = 1 ∧ acc ++ l = l1 ∨ k + 1 = 2 ∧ acc ++ l = l1 ++ l2) ∧ acc.length ≤ 262144 ∧ n ≤ 262144 := by
            rcases HC.out with ⟨rfl, rfl⟩ | ⟨rfl, rfl⟩ | ⟨rfl, _⟩
            · exact ⟨a1, n1, c1, l1, by rw [HB.out.cell (p := ⟨b, 0, none⟩) hbb.out]; exact q1, R1, HL1, HN1, .inr (.inl ⟨rfl, by simp⟩), by simp, h1⟩
            · exact ⟨a2, n2, c2, l2, by rw [HB.out.cell (p := ⟨b, 1, none⟩) hbb.out]; exact q2, R2, HL2, HN2, .inr (.inr ⟨rfl, rfl⟩), by rw [← HL1.out]; exact h1, h2⟩
            · omega
          have b0 : (0 : Int) ≤ (k : Int) := by omega
          have b1 : (k : Int) < 2 := by omega
          clear q1 q2 HC R1 R2 HL1 HL2 HN1 HN2
          cases a with
          | none =>
            obtain ⟨rfl, rfl⟩ := HN.out rfl
            have hnil : Hid (l = []) := List.eq_nil_of_length_eq_zero HL.out.symm
            have hnx2 : Hid (k + 1 = 0 ∧ acc = [] ∨ k + 1 = 1 ∧ acc = l1 ∨ k + 1 = 2 ∧ acc = l1 ++ l2) := by
              have h := hnx.out
              rw [hnil.out, List.append_nil] at h
              exact h
            clear hnx hnil HN RL HL
            go_wp2_with (at_builtin; (refine wpList_append_own_none (w := wr) rfl (.tmp 31) (.tmp 32) 59 rfl w.heap.size 21 i1 1 Try.underlying59 HI1.out.1 _ _ _ rfl HO.out rfl ?_))
            go_roundw
            case rel => exact ⟨k + 1, acc, by omega, by go_num, HO.out, HB.out, hnx2.out⟩
            case measure => simp [intOf]; omega
          | some ad =>
            have RL2 : Hid (RS wr (some ad) n l) := RL.out.later HB.out
            have hsz : w.heap.size ≤ wr.heap.size := HB.out.size
            clear RL HN
            go_wp2_with (at_builtin; (refine wpList_append_own _ rfl (.tmp 31) (.tmp 32) 59 rfl w.heap.size 21 i1 (.int .i32 0) 1 4 Try.underlying59 HI1.out.1 HI1.out.2.1 HI1.out.2.2.1 HI1.out.2.2.2 rfl (by decide) _ _ _ rfl HO.out ad n c (ri l) rfl (by rw [ri_len, HL.out, Nat.mul_one]) (by exact rs_news RL2.out) (ri_one l) (by unfold maxLen; omega) (by omega) hsz ?_); intro v' w4 hown' hgrow _; have HR : Hid (w4.ownsRow w.heap.size 21 1 v' (acc ++ l).length (ri (acc ++ l)) ∧ Below w.heap.size w w4) := app_more HO.out HB.out hsz hown' hgrow HL.out; clear hown' hgrow)
            go_roundw
            case rel => exact ⟨k + 1, acc ++ l, by omega, by go_num, HR.out.1, HR.out.2, hnx.out⟩
            case measure => simp [intOf]; omega
        · have HF : Hid (acc = l1 ++ l2) := by
            rcases HC.out with ⟨h, _⟩ | ⟨h, _⟩ | ⟨_, h⟩
            · omega
            · omega
            · exact h
          have HO2 : Hid (wr.ownsRow w.heap.size 21 1 u6 (l1 ++ l2).length (ri (l1 ++ l2))) := by rw [← HF.out]; exact HO.out
          clear HO HC HF q1 q2
          go_wp2
          go_ret
          exact ⟨_, rfl, HO2.out, HB.out⟩
end Go.Proofs.Qxb6002344a.Rune
