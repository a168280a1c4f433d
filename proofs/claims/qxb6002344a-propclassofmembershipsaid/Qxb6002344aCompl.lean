/- THE WALK OF (runeSet).complement (seat b6002344a). -/
import Derived.Test.Qxb6002344aRunePlain
import Derived.OwnWalk
import Derived.WalkSmall
set_option linter.unusedVariables false
namespace Go.Proofs.Qxb6002344a.Rune
open Go.RowKit

def ri (l : List Int) : List Value := l.map (Value.int .i32)

/-- Behind an append of two runes. -/
theorem two_more {w wr w1 : World} {v v' : Value} {acc : List Int} {y z : Int} {o : Obj} (hB : w.heap.size < wr.heap.size) (hown : wr.ownsRow w.heap.size 21 1 v acc.length (ri acc)) (hbel : Below w.heap.size w wr)
    (hown' : w1.ownsRow w.heap.size 21 1 v' (acc.length + 2) (ri acc ++ [.int .i32 y, .int .i32 z])) (hgrow : (wr.alloc o).grownBy w1 v.ownBlock) :
    w1.ownsRow w.heap.size 21 1 v' (acc ++ [y, z]).length (ri (acc ++ [y, z])) ∧ Below w.heap.size w w1 ∧ w.heap.size < w1.heap.size := by
  refine ⟨?_, ?_, ?_⟩
  · have e1 : (acc ++ [y, z]).length = acc.length + 2 := by simp
    have e2 : ri (acc ++ [y, z]) = ri acc ++ [.int .i32 y, .int .i32 z] := by simp [ri]
    rw [e1, e2]; exact hown'
  · refine (hbel.alloc (Nat.le_of_lt hB) o).grown hgrow (by rw [World.size_alloc]; omega) (fun k hk => (hown.lt k hk).1)
  · have := hgrow.size
    rw [World.size_alloc] at this
    omega

theorem two_one (y z : Int) : ∀ u ∈ ([.int .i32 y, .int .i32 z] : List Value), u.oneCell' = true := by
  intro u hu
  simp at hu
  rcases hu with rfl | rfl <;> rfl

set_option maxRecDepth 1000000 in
set_option maxHeartbeats 2000000 in
theorem compl_any (a : Option Addr) (n c : Nat) (l : List Int) (w : World) (hn : n ≤ 1048576) (hcn : cn 0 l = true) (hp : RS w a n l) :
    Calls Try.prog 42 #[.slice a n c] w fun e w' => ∃ v, e = .returned v ∧ w'.ownsRow w.heap.size 21 1 v (cf 0 l).length (ri (cf 0 l)) ∧ Below w.heap.size w w' := by
  obtain ⟨hl, hx⟩ := hp
  have HX : Hid (n = 0 ∨ ∃ b off, a = some ⟨b, off, none⟩ ∧ ∀ j, j < n → w.cell? ⟨b, off + j, none⟩ = some (.int .i32 (l.getD j 0))) := hx
  clear hx
  have HL : Hid (n = l.length) := hl
  have HCN : Hid (cn 0 l = true) := hcn
  have HE : Hid (n % 2 = 0) := by show _ = _; rw [hl]; exact cn_even l 0 hcn
  have HRg : Hid (∀ i, i < l.length → 0 ≤ l.getD i 0 ∧ l.getD i 0 ≤ 1114111) := cn_range l 0 hcn
  clear hl hcn
  obtain ⟨i0, hi, hz0, hz1, hz2⟩ := info_parts info21
  have HI : Hid (_ ∧ _ ∧ _ ∧ _) := And.intro hi (And.intro hz0 (And.intro hz1 hz2))
  clear hi hz0 hz1 hz2
  go_enter Try.func42, Try.ntmps42
  go_wp2
  go_loopw [3, 4, 5] (fun v x i wr => ∃ (k : Nat) (y : Int) (acc : List Int), k ≤ n ∧ Hid (k % 2 = 0) ∧ i = .int .i64 k ∧ x = .int .i32 y ∧ 0 ≤ y ∧ y ≤ 1114112 ∧ wr.ownsRow w.heap.size 21 1 v acc.length (ri acc) ∧ Below w.heap.size w wr ∧ w.heap.size < wr.heap.size ∧ acc.length ≤ k ∧ Hid (acc ++ cf y (l.drop k) = cf 0 l)) (fun _ _ i _ => n - (intOf i).toNat)
  case atStart =>
    refine ⟨0, 0, [], Nat.zero_le _, rfl, rfl, rfl, by omega, by omega, ?_, (Below.refl _ _).alloc (Nat.le_refl _) _, by simp, Nat.le_refl _, rfl⟩
    exact ⟨rfl, .inr ⟨_, 0, #[], rfl, Nat.le_refl _, Go.Deep.blk_alloc_new _ _, Nat.le_refl _, Nat.zero_le _, rfl, rfl⟩⟩
  case round =>
    obtain ⟨k, y, acc, hk, KE, rfl, rfl, hy0, hy1, hown, hbel, hsz, hal, H⟩ := hrel
    have HO : Hid (wr.ownsRow w.heap.size 21 1 u3 acc.length (ri acc)) := hown
    have HBl : Hid (Below w.heap.size w wr) := hbel
    clear hown hbel
    by_cases hlt : k < n
    · have hlt2 : k + 1 < n := by have := HE.out; have := KE.out; omega
      obtain ⟨b, off, rfl, hc⟩ := HX.out.resolve_left (by omega)
      clear HX
      have g0 : wr.cell? ⟨b, off + k, none⟩ = some (.int .i32 (l.getD k 0)) := by rw [HBl.out.cell (cell_lt (hc k hlt))]; exact hc k hlt
      have g1 : wr.cell? ⟨b, off + (k + 1), none⟩ = some (.int .i32 (l.getD (k + 1) 0)) := by rw [HBl.out.cell (cell_lt (hc (k + 1) hlt2))]; exact hc (k + 1) hlt2
      have HD : Hid _ := drop_two (l := l) (k := k) (by rw [← HL.out]; exact hlt2)
      have r0 := HRg.out k (by rw [← HL.out]; omega)
      have r1 := HRg.out (k + 1) (by rw [← HL.out]; omega)
      have hbb := cell_lt (hc k hlt)
      generalize l.getD k 0 = p at g0 HD r0
      generalize l.getD (k + 1) 0 = q at g1 HD r1
      clear hc
      by_cases hgt : y < p
      · have HN : Hid (acc ++ [y, p - 1] ++ cf (q + 1) (l.drop (k + 2)) = cf 0 l) := by
          show _ = _
          rw [← H.out, HD.out, cf_cons, if_pos hgt]; simp
        have G2 : ∀ w1, Below w.heap.size w w1 → w1.cell? ⟨b, off + (k + 1), none⟩ = some (.int .i32 q) := fun w1 hb => by
          rw [hb.cell (p := ⟨b, off + (k + 1), none⟩) hbb, ← HBl.out.cell (p := ⟨b, off + (k + 1), none⟩) hbb]; exact g1
        have HG2 : Hid _ := G2
        clear G2
        go_wp2_with (at_builtin; (refine wpList_append_own _ rfl (.tmp 19) (.tmp 26) 59 rfl w.heap.size 21 i0 (.int .i32 0) 1 4 Try.underlying59 HI.out.1 HI.out.2.1 HI.out.2.2.1 HI.out.2.2.2 rfl (by decide) _ _ _ rfl (HO.out.alloc _) ⟨wr.heap.size, 0, none⟩ 2 2 [.int .i32 y, .int .i32 (p - 1)] rfl rfl (cell_two_new _ _ _ _) (two_one _ _) (by unfold maxLen; omega) (by omega) (by rw [World.size_alloc]; omega) ?_); intro v' w1 hown' hgrow _; have R := two_more hsz HO.out HBl.out hown' hgrow; have HR : Hid (w1.ownsRow w.heap.size 21 1 v' (acc ++ [y, p - 1]).length (ri (acc ++ [y, p - 1])) ∧ Below w.heap.size w w1) := ⟨R.1, R.2.1⟩; have hsz1 := R.2.2; have g2 : w1.cell? ⟨b, off + (k + 1), none⟩ = some (.int .i32 q) := HG2.out w1 R.2.1; clear R hown' hgrow g0 g1 hsz HO H)
        go_roundw
        case rel => exact ⟨k + 2, q + 1, acc ++ [y, p - 1], by omega, by have := KE.out; show _ = _; omega, by go_num, rfl, by omega, by omega, HR.out.1, HR.out.2, hsz1, by simp; omega, HN⟩
        case measure => simp [intOf]; omega
      · have HN : Hid (acc ++ cf (q + 1) (l.drop (k + 2)) = cf 0 l) := by
          show _ = _
          rw [← H.out, HD.out, cf_cons, if_neg hgt]
        clear H
        go_wp2
        go_roundw
        case rel => exact ⟨k + 2, q + 1, acc, by omega, by have := KE.out; show _ = _; omega, by go_num, rfl, by omega, by omega, HO.out, HBl.out, hsz, by omega, HN⟩
        case measure => simp [intOf]; omega
    · have hke : l.drop k = [] := List.drop_eq_nil_of_le (by rw [← HL.out]; omega)
      have HK : Hid (acc ++ cf y [] = cf 0 l) := by show _ = _; rw [← H.out, hke]
      clear hke H
      by_cases hle : y ≤ 1114111
      · have HN : Hid (acc ++ [y, 1114111] = cf 0 l) := by show _ = _; rw [← HK.out, cf_nil, if_pos (show y ≤ M from hle)]; rfl
        clear HK
        go_wp2_with (at_builtin; (refine wpList_append_own _ rfl (.tmp 36) (.tmp 38) 59 rfl w.heap.size 21 i0 (.int .i32 0) 1 4 Try.underlying59 HI.out.1 HI.out.2.1 HI.out.2.2.1 HI.out.2.2.2 rfl (by decide) _ _ _ rfl (HO.out.alloc _) ⟨wr.heap.size, 0, none⟩ 2 2 [.int .i32 y, .int .i32 1114111] rfl rfl (cell_two_new _ _ _ _) (two_one _ _) (by unfold maxLen; omega) (by omega) (by rw [World.size_alloc]; omega) ?_); intro v' w1 hown' hgrow _)
        have R := two_more hsz HO.out HBl.out hown' hgrow
        rw [HN.out] at R
        have HR : Hid (w1.ownsRow w.heap.size 21 1 v' (cf 0 l).length (ri (cf 0 l)) ∧ Below w.heap.size w w1) := ⟨R.1, R.2.1⟩
        clear R hown' hgrow hsz HO HN
        go_wp2
        go_ret
        exact ⟨_, rfl, HR.out.1, HR.out.2⟩
      · have HN : Hid (acc = cf 0 l) := by show _ = _; rw [← HK.out, cf_nil, if_neg (show ¬ y ≤ M from hle)]; simp
        have HO2 : Hid (wr.ownsRow w.heap.size 21 1 u3 (cf 0 l).length (ri (cf 0 l))) := by rw [← HN.out]; exact HO.out
        clear HK HN HO
        go_wp2
        go_ret
        exact ⟨_, rfl, HO2.out, HBl.out⟩
theorem rs_of_owns {w : World} {base : Nat} {v : Value} {l : List Int} (h : w.ownsRow base 21 1 v l.length (ri l)) : ∃ a c, v = .slice a l.length c ∧ RS w a l.length l ∧ (a = none → l.length = 0 ∧ c = 0) := by
  obtain ⟨_, ⟨rfl, h0⟩ | ⟨g, cap, cur, rfl, _, hg, hle, _, hsz, hxs⟩⟩ := h
  · exact ⟨none, 0, by rw [h0], ⟨rfl, .inl h0⟩, fun _ => ⟨h0, rfl⟩⟩
  · refine ⟨_, cap, rfl, ⟨rfl, .inr ⟨g, 0, rfl, fun j hj => ?_⟩⟩, fun h => by cases h⟩
    unfold World.cell?
    rw [hg]
    simp only [Option.isSome_none, Bool.false_eq_true, if_false, Nat.zero_add]
    have e : (ri l)[j]? = cur.toList[j]? := by rw [← hxs, List.getElem?_take_of_lt (by omega)]
    rw [← Array.getElem?_toList, ← e]
    unfold ri
    rw [List.getElem?_map, List.getElem?_eq_getElem hj, List.getD_eq_getElem?_getD, List.getElem?_eq_getElem hj]
    rfl

/-- ZZcomplement. -/
theorem zzcompl_any (a : Option Addr) (n c : Nat) (l : List Int) (w : World) (hn : n ≤ 1048576) (hcn : cn 0 l = true) (hp : RS w a n l) :
    Calls Try.prog 17 #[.slice a n c] w fun e w' => ∃ a' c', e = .returned (.slice a' (cf 0 l).length c') ∧ RS w' a' (cf 0 l).length (cf 0 l) ∧ Below w.heap.size w w' ∧ (a' = none → (cf 0 l).length = 0 ∧ c' = 0) := by
  have C : Hid (Calls Try.prog 42 #[.slice a n c] w fun e w' => ∃ v, e = .returned v ∧ w'.ownsRow w.heap.size 21 1 v (cf 0 l).length (ri (cf 0 l)) ∧ Below w.heap.size w w') := compl_any a n c l w hn hcn hp
  clear hp hn hcn
  go_enter Try.func17, Try.ntmps17
  go_wp2_with fail
  refine C.out.mono ?_
  rintro e w' ⟨v, rfl, hown, hbel⟩
  obtain ⟨a', c', rfl, hrs, hnil⟩ := rs_of_owns hown
  have H : Hid (RS w' a' (cf 0 l).length (cf 0 l) ∧ Below w.heap.size w w' ∧ (a' = none → (cf 0 l).length = 0 ∧ c' = 0)) := ⟨hrs, hbel, hnil⟩
  clear hown hbel hrs hnil
  go_wp2
  go_ret
  exact ⟨a', c', rfl, H.out.1, H.out.2.1, H.out.2.2⟩

end Go.Proofs.Qxb6002344a.Rune
