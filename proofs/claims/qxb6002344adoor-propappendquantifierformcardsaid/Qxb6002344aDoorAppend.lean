/- THE WALK OF zzc4AppendInt (seat b6002344aD). -/
import Derived.Test.Qxb6002344aDoorProg
import Derived.WalkKit
import Derived.Below
import Derived.OwnWalk
import Derived.WalkSmall
import Derived.Deep.OwnRows
import Derived.Deep.AppendLies
import Derived.Lib.ItoaNum
import Derived.Lib.ItoaMem
import Derived.Lib.ItoaLen
import Derived.Lib.UnsafeStr
import Derived.Lib.Hide
set_option linter.unusedVariables false
namespace Go.Proofs.Qxb6002344aDoor.App
open Go.RowKit

theorem info5 : (Tryd.prog.info? 5).map (fun i => (i.zero, i.size, i.bytes)) = some (some (.int .u8 0), 1, 1) := by kernel_rfl

theorem dec_big {u : Nat} (h : ¬ u < 10) : Lib.decDigits u = Lib.decDigits (u / 10) ++ [UInt8.ofNat (48 + u % 10)] := by rw [Lib.decDigits, dif_neg h]
theorem dec_pos (u : Nat) : 1 ≤ (Lib.decDigits u).length := by rw [Lib.decDigits_length]; exact Lib.nDigits_pos u
theorem ofNat_val {x : Nat} (h : x < 256) : (UInt8.ofNat x).toNat = x := by simp; omega

/-- What the array holds: from k on the tail. -/
def fill (k : Nat) (tail : List UInt8) (j : Nat) : Value := if j < k then .int .u8 0 else .int .u8 ((tail.getD (j - k) 0).toNat : Int)

theorem fill_set {w : World} {g k : Nat} {tail : List UInt8} {x : Nat} (hk : 1 ≤ k) (hk2 : k ≤ 20) (hx : x < 256) (h : w.rowIs g 35 20 (fill k tail)) :
    (w.setCell ⟨g, k - 1, none⟩ (.int .u8 (x : Int))).rowIs g 35 20 (fill (k - 1) (UInt8.ofNat x :: tail)) := by
  refine (h.set (k - 1) _).congr fun j hj => ?_
  unfold fill
  by_cases e : j = k - 1
  · subst e
    simp only [if_true, Nat.lt_irrefl, if_false, Nat.sub_self, List.getD_cons_zero]
    rw [ofNat_val hx]
  · rw [if_neg e]
    by_cases h1 : j < k
    · rw [if_pos h1, if_pos (by omega)]
    · rw [if_neg h1, if_neg (by omega)]
      have : j - (k - 1) = (j - k) + 1 := by omega
      rw [this, List.getD_cons_succ]

theorem fill_start (w : World) : (w.alloc (.cells #[.int .u8 0, .int .u8 0, .int .u8 0, .int .u8 0, .int .u8 0, .int .u8 0, .int .u8 0, .int .u8 0, .int .u8 0, .int .u8 0, .int .u8 0, .int .u8 0, .int .u8 0, .int .u8 0, .int .u8 0, .int .u8 0, .int .u8 0, .int .u8 0, .int .u8 0, .int .u8 0] 35)).rowIs w.heap.size 35 20 (fill 20 []) := by
  refine ⟨_, Go.Deep.blk_alloc_new _ _, rfl, fun i hi => ?_⟩
  unfold fill
  rw [if_pos hi]
  have : i = 0 ∨ i = 1 ∨ i = 2 ∨ i = 3 ∨ i = 4 ∨ i = 5 ∨ i = 6 ∨ i = 7 ∨ i = 8 ∨ i = 9 ∨ i = 10 ∨ i = 11 ∨ i = 12 ∨ i = 13 ∨ i = 14 ∨ i = 15 ∨ i = 16 ∨ i = 17 ∨ i = 18 ∨ i = 19 := by omega
  rcases this with rfl | rfl | rfl | rfl | rfl | rfl | rfl | rfl | rfl | rfl | rfl | rfl | rfl | rfl | rfl | rfl | rfl | rfl | rfl | rfl <;> rfl

/-- The cells of d[k:]. -/
theorem fill_cells {w : World} {g k : Nat} {tail : List UInt8} (h : w.rowIs g 35 20 (fill k tail)) (hk : k + tail.length = 20) : ∀ j u, (Lib.byteCells tail)[j]? = some u → w.cell? ((⟨g, k, none⟩ : Addr).add j) = some u := by
  intro j u hu
  have hj : j < tail.length := by
    have := (List.getElem?_eq_some_iff.1 hu).1
    rwa [Lib.byteCells_length] at this
  rw [show (⟨g, k, none⟩ : Addr).add j = ⟨g, k + j, none⟩ from by simp [Addr.add], h.cell (by omega)]
  unfold fill
  rw [if_neg (by omega), Nat.add_sub_cancel_left]
  unfold Lib.byteCells at hu
  rw [List.getElem?_map, List.getElem?_eq_getElem hj] at hu
  rw [List.getD_eq_getElem?_getD, List.getElem?_eq_getElem hj]
  exact hu

theorem bytes_one (l : List UInt8) : ∀ u ∈ Lib.byteCells l, u.oneCell' = true := by
  intro u hu
  unfold Lib.byteCells at hu
  obtain ⟨b, _, rfl⟩ := List.mem_map.1 hu
  rfl

theorem al35 : Tryd.prog.arrayLen 35 = 20 := by kernel_rfl
theorem el35 : Tryd.prog.elem 35 = 5 := by kernel_rfl
theorem un35 : Tryd.prog.underlying 35 = some (.array (Tryd.prog.arrayLen 35) (Tryd.prog.elem 35)) := by kernel_rfl
theorem so5 (w : World) : (Go.sizeOf 5).run Tryd.prog w = .ok 1 w := by kernel_rfl

/-- 'd[i:]'. -/
theorem slice20 (w : World) (g k : Nat) (h1 : 1 ≤ k) (h2 : k ≤ 20) : (Instr.sliceAt 35 (.pointer (some ⟨g, 0, none⟩)) (some (.int .i64 ((k : Int) - 1))) none none).run Tryd.prog w = .ok (.slice (some ⟨g, k - 1, none⟩) (21 - k) (21 - k)) w := by
  rw [run_sliceAt_array_l w 35 ⟨g, 0, none⟩ un35 .i64 ((k : Int) - 1) (by omega) (by rw [al35]; omega), el35, so5, al35]
  have e1 : ((k : Int) - 1).toNat = k - 1 := by omega
  have e2 : ¬ (20 : Nat) = k - 1 := by omega
  have e3 : 20 - (k - 1) = 21 - k := by omega
  show Result.ok (slicedAt _ _ _ _ _) w = _
  unfold slicedAt
  rw [e1, if_neg e2, e3]
  simp [Addr.add]
  intro h
  omega

theorem owns_later {w w' : World} {B n : Nat} {v : Value} {xs : List Value} (h : w.ownsRow B 5 1 v n xs) (hb : Below w.heap.size w w') : w'.ownsRow B 5 1 v n xs := by
  obtain ⟨h1, h2 | ⟨g, cap, cur, hv, hg1, hg2, h3⟩⟩ := h
  · exact ⟨h1, .inl h2⟩
  · refine ⟨h1, .inr ⟨g, cap, cur, hv, hg1, ?_, h3⟩⟩
    rw [hb.block g (Array.getElem?_eq_some_iff.1 hg2).1]; exact hg2

set_option maxRecDepth 100000 in
set_option maxHeartbeats 2000000 in
theorem appInt_pos (B n : Nat) (i : Int) (h0 : 0 ≤ i) (h1 : i ≤ 9223372036854775807) (v : Value) (xs : List Value) (w : World) (hown : w.ownsRow B 5 1 v n xs) (hB : B ≤ w.heap.size) (hlim : n ≤ 1000) :
    Calls Tryd.prog 6 #[v, .int .i64 i] w fun e w' => ∃ v', e = .returned v' ∧ w'.ownsRow B 5 1 v' (n + (Lib.decDigits i.toNat).length) (xs ++ Lib.byteCells (Lib.decDigits i.toNat)) ∧ Below B w w' := by
  have HO : Hid (w.ownsRow B 5 1 v n xs) := hown
  clear hown
  have hlen := Lib.nDigits_le20 i.toNat (by omega)
  have HLen : Hid ((Lib.decDigits i.toNat).length ≤ 20) := by show _ ≤ _; rw [Lib.decDigits_length]; exact hlen
  clear hlen
  obtain ⟨i0, hi, hz0, hz1, hz2⟩ := info_parts info5
  have HI : Hid (_ ∧ _ ∧ _ ∧ _) := And.intro hi (And.intro hz0 (And.intro hz1 hz2))
  clear hi hz0 hz1 hz2
  go_enter Tryd.func6, Tryd.ntmps6
  go_wp2
  go_loopw [5, 7] (fun u i' wr => ∃ (a : Int) (k : Nat) (tail : List UInt8), 0 ≤ a ∧ a ≤ 9223372036854775808 ∧ k ≤ 20 ∧ u = .int .u64 a ∧ i' = .int .i64 k ∧ Hid (k + tail.length = 20) ∧ Hid (Lib.decDigits i.toNat = Lib.decDigits a.toNat ++ tail) ∧ wr.rowIs w.heap.size 35 20 (fill k tail) ∧ Below w.heap.size w wr ∧ w.heap.size < wr.heap.size) (fun _ i' _ => (intOf i').toNat)
  case atStart => exact ⟨_, 20, [], by omega, by omega, Nat.le_refl _, rfl, rfl, rfl, by show _ = _; simp, fill_start w, (Below.refl _ _).alloc (Nat.le_refl _) _, by simp⟩
  case round =>
    obtain ⟨a, k, tail, ha0, ha1, hk, rfl, rfl, HT, HD, hrow, hbel, hsz⟩ := hrel
    have HR : Hid (wr.rowIs w.heap.size 35 20 (fill k tail)) := hrow
    have HBl : Hid (Below w.heap.size w wr) := hbel
    clear hrow hbel
    have hk1 : 1 ≤ k := by
      have h1 := HLen.out
      rw [HD.out, List.length_append] at h1
      have h2 := dec_pos a.toNat
      have h3 := HT.out
      omega
    have hf : wr.frozen? ⟨w.heap.size, k - 1, none⟩ = false := HR.out.frozen _
    obtain ⟨u, hu⟩ : ∃ u, wr.cell? ⟨w.heap.size, k - 1, none⟩ = some u := ⟨_, HR.out.cell (by omega)⟩
    have b1 : (0 : Int) ≤ (k : Int) - 1 := by omega
    have b2 : (k : Int) - 1 < 20 := by omega
    have hx : (48 + a % 10 : Int) = ((48 + a.toNat % 10 : Nat) : Int) := by omega
    have HR2 : Hid ((wr.setCell ⟨w.heap.size, k - 1, none⟩ (.int .u8 (48 + a % 10))).rowIs w.heap.size 35 20 (fill (k - 1) (UInt8.ofNat (48 + a.toNat % 10) :: tail))) := by
      rw [hx]; exact fill_set hk1 hk (by omega) HR.out
    have HB2 : Hid (Below w.heap.size w (wr.setCell ⟨w.heap.size, k - 1, none⟩ (.int .u8 (48 + a % 10)))) := HBl.out.setCell (Nat.le_refl _) _
    clear hx
    by_cases hsm : a < 10
    · have hsl := fun wx => slice20 wx w.heap.size k hk1 hk
      have HT2 : Hid (Lib.decDigits i.toNat = UInt8.ofNat (48 + a.toNat % 10) :: tail) := by
        show _ = _
        rw [HD.out, Lib.decDigits_one (by omega)]
        have : a.toNat % 10 = a.toNat := by omega
        rw [this]; rfl
      have hlen2 : (Lib.decDigits i.toNat).length = 21 - k := by rw [HT2.out, List.length_cons]; have := HT.out; omega
      have HC1 : Hid ((Lib.byteCells (Lib.decDigits i.toNat)).length = (21 - k) * 1) := by show _ = _; rw [Lib.byteCells_length, hlen2]; omega
      have HC2 : Hid (∀ j u, (Lib.byteCells (Lib.decDigits i.toNat))[j]? = some u → (wr.setCell ⟨w.heap.size, k - 1, none⟩ (.int .u8 (48 + a % 10))).cell? ((⟨w.heap.size, k - 1, none⟩ : Addr).add j) = some u) := by
        rw [HT2.out]
        exact fill_cells HR2.out (by rw [List.length_cons]; have := HT.out; omega)
      have HO2 : Hid ((wr.setCell ⟨w.heap.size, k - 1, none⟩ (.int .u8 (48 + a % 10))).ownsRow B 5 1 v n xs) := owns_later HO.out HB2.out
      have HC3 : Hid (B ≤ (wr.setCell ⟨w.heap.size, k - 1, none⟩ (.int .u8 (48 + a % 10))).heap.size) := by have := HB2.out.size; have := ((Below.refl B w)).size; show _ ≤ _; omega
      have HLn : Hid _ := hlen2
      clear hlen2
      go_wp2_with (at_builtin; refine wpList_append_own _ rfl (.tmp 29) (.tmp 31) 22 rfl B 5 i0 (.int .u8 0) 1 1 Tryd.underlying22 HI.out.1 HI.out.2.1 HI.out.2.2.1 HI.out.2.2.2 rfl (by decide) _ _ _ rfl HO2.out ⟨w.heap.size, k - 1, none⟩ (21 - k) (21 - k) (Lib.byteCells (Lib.decDigits i.toNat)) rfl HC1.out HC2.out (bytes_one _) (by unfold maxLen; omega) (by omega) HC3.out ?_; intro v' w1 hown' hgrow _)
      have R : w1.ownsRow B 5 1 v' (n + (Lib.decDigits i.toNat).length) (xs ++ Lib.byteCells (Lib.decDigits i.toNat)) := by rw [HLn.out]; exact hown'
      have R2 : Below B w w1 := (((Below.refl B w)).trans (HB2.out.mono (by have := ((Below.refl B w)).size; omega))).grown hgrow HC3.out (fun k hk => (HO2.out.lt k hk).1)
      have HRR : Hid (_ ∧ _) := And.intro R R2
      clear R R2 hown' hgrow
      go_wp2
      go_ret
      exact ⟨_, rfl, HRR.out.1, HRR.out.2⟩
    · have HT2 : Hid (Lib.decDigits i.toNat = Lib.decDigits (a / 10).toNat ++ (UInt8.ofNat (48 + a.toNat % 10) :: tail)) := by
        show _ = _
        rw [HD.out, dec_big (by omega)]
        have : (a / 10).toNat = a.toNat / 10 := by omega
        rw [this]; simp
      go_wp2
      go_roundw
      case rel => exact ⟨a / 10, k - 1, UInt8.ofNat (48 + a.toNat % 10) :: tail, by omega, by omega, by omega, rfl, by go_num, by have := HT.out; show _ = _; rw [List.length_cons]; omega, HT2, HR2.out, HB2.out, by simp [World.setCell]; exact hsz⟩
      case measure => simp [intOf]; omega

theorem negwrap (i : Int) (h0 : i < 0) (h1 : -9223372036854775808 ≤ i) : IntKind.u64.wrap (-IntKind.u64.wrap i) = -i := by
  simp [IntKind.wrap, IntKind.bits, IntKind.signed]; omega
theorem one_one (x : Int) : ∀ u ∈ ([.int .u8 x] : List Value), u.oneCell' = true := by
  intro u hu
  simp at hu
  rw [hu]; rfl
theorem cell_one (w : World) (x : Value) (t : TypeId) : ∀ j u, [x][j]? = some u → (w.alloc (.cells #[x] t)).cell? ((⟨w.heap.size, 0, none⟩ : Addr).add j) = some u := by
  intro j u hj
  match j, hj with
  | 0, hj => simp at hj; subst hj; simp [Addr.add]

set_option maxRecDepth 100000 in
set_option maxHeartbeats 2000000 in
theorem appInt_neg (B n : Nat) (i : Int) (h0 : i < 0) (h1 : -9223372036854775808 ≤ i) (v : Value) (xs : List Value) (w : World) (hown : w.ownsRow B 5 1 v n xs) (hB : B ≤ w.heap.size) (hlim : n ≤ 999) :
    Calls Tryd.prog 6 #[v, .int .i64 i] w fun e w' => ∃ v', e = .returned v' ∧ w'.ownsRow B 5 1 v' (n + 1 + (Lib.decDigits i.natAbs).length) (xs ++ [.int .u8 45] ++ Lib.byteCells (Lib.decDigits i.natAbs)) ∧ Below B w w' := by
  have HO : Hid (w.ownsRow B 5 1 v n xs) := hown
  clear hown
  have hlen := Lib.nDigits_le20 i.natAbs (by omega)
  have HLen : Hid ((Lib.decDigits i.natAbs).length ≤ 20) := by show _ ≤ _; rw [Lib.decDigits_length]; exact hlen
  clear hlen
  obtain ⟨i0, hi, hz0, hz1, hz2⟩ := info_parts info5
  have HI : Hid (_ ∧ _ ∧ _ ∧ _) := And.intro hi (And.intro hz0 (And.intro hz1 hz2))
  clear hi hz0 hz1 hz2
  go_enter Tryd.func6, Tryd.ntmps6
  go_wp2_with (at_builtin; refine wpList_append_own _ rfl (.tmp 12) (.tmp 13) 22 rfl B 5 i0 (.int .u8 0) 1 1 Tryd.underlying22 HI.out.1 HI.out.2.1 HI.out.2.2.1 HI.out.2.2.2 rfl (by decide) _ _ _ rfl (HO.out.alloc _) ⟨w.heap.size, 0, none⟩ 1 1 [.int .u8 45] rfl rfl (cell_one _ _ _) (one_one _) (by unfold maxLen; omega) (by omega) (by rw [World.size_alloc]; omega) ?_; intro v1 w1 hown1 hgrow1 _; refine Hid.out ?_)
  refine Lib.hid ?_
  have R1 : Hid (w1.ownsRow B 5 1 v1 (n + 1) (xs ++ [.int .u8 45])) := hown1
  have R2 : Hid (Below B w w1) := ((Below.refl B w).alloc hB _).grown hgrow1 (by rw [World.size_alloc]; omega) (fun k hk => (HO.out.lt k hk).1)
  rename_i hnn
  clear hown1 hgrow1 hnn
  go_wp2_with fail
  go_loopw [5, 7] (fun u i' wr => ∃ (a : Int) (k : Nat) (tail : List UInt8), 0 ≤ a ∧ a ≤ 9223372036854775808 ∧ k ≤ 20 ∧ u = .int .u64 a ∧ i' = .int .i64 k ∧ Hid (k + tail.length = 20) ∧ Hid (Lib.decDigits i.natAbs = Lib.decDigits a.toNat ++ tail) ∧ wr.rowIs w1.heap.size 35 20 (fill k tail) ∧ Below w1.heap.size w1 wr ∧ w1.heap.size < wr.heap.size) (fun _ i' _ => (intOf i').toNat)
  case atStart => exact ⟨-i, 20, [], by omega, by omega, Nat.le_refl _, by rw [negwrap i h0 h1], rfl, rfl, by show _ = _; rw [show (-i).toNat = i.natAbs from by omega]; simp, fill_start w1, (Below.refl _ _).alloc (Nat.le_refl _) _, by simp⟩
  case round =>
    obtain ⟨a, k, tail, ha0, ha1, hk, rfl, rfl, HT, HD, hrow, hbel, hsz⟩ := hrel
    have HR : Hid (wr.rowIs w1.heap.size 35 20 (fill k tail)) := hrow
    have HBl : Hid (Below w1.heap.size w1 wr) := hbel
    clear hrow hbel
    have hk1 : 1 ≤ k := by
      have h1 := HLen.out
      rw [HD.out, List.length_append] at h1
      have h2 := dec_pos a.toNat
      have h3 := HT.out
      omega
    have hf : wr.frozen? ⟨w1.heap.size, k - 1, none⟩ = false := HR.out.frozen _
    obtain ⟨u, hu⟩ : ∃ u, wr.cell? ⟨w1.heap.size, k - 1, none⟩ = some u := ⟨_, HR.out.cell (by omega)⟩
    have b1 : (0 : Int) ≤ (k : Int) - 1 := by omega
    have b2 : (k : Int) - 1 < 20 := by omega
    have hx : (48 + a % 10 : Int) = ((48 + a.toNat % 10 : Nat) : Int) := by omega
    have HR2 : Hid ((wr.setCell ⟨w1.heap.size, k - 1, none⟩ (.int .u8 (48 + a % 10))).rowIs w1.heap.size 35 20 (fill (k - 1) (UInt8.ofNat (48 + a.toNat % 10) :: tail))) := by
      rw [hx]; exact fill_set hk1 hk (by omega) HR.out
    have HB2 : Hid (Below w1.heap.size w1 (wr.setCell ⟨w1.heap.size, k - 1, none⟩ (.int .u8 (48 + a % 10)))) := HBl.out.setCell (Nat.le_refl _) _
    clear hx
    by_cases hsm : a < 10
    · have hsl := fun wx => slice20 wx w1.heap.size k hk1 hk
      have HT2 : Hid (Lib.decDigits i.natAbs = UInt8.ofNat (48 + a.toNat % 10) :: tail) := by
        show _ = _
        rw [HD.out, Lib.decDigits_one (by omega)]
        have : a.toNat % 10 = a.toNat := by omega
        rw [this]; rfl
      have hlen2 : (Lib.decDigits i.natAbs).length = 21 - k := by rw [HT2.out, List.length_cons]; have := HT.out; omega
      have HC1 : Hid ((Lib.byteCells (Lib.decDigits i.natAbs)).length = (21 - k) * 1) := by show _ = _; rw [Lib.byteCells_length, hlen2]; omega
      have HC2 : Hid (∀ j u, (Lib.byteCells (Lib.decDigits i.natAbs))[j]? = some u → (wr.setCell ⟨w1.heap.size, k - 1, none⟩ (.int .u8 (48 + a % 10))).cell? ((⟨w1.heap.size, k - 1, none⟩ : Addr).add j) = some u) := by
        rw [HT2.out]
        exact fill_cells HR2.out (by rw [List.length_cons]; have := HT.out; omega)
      have HO2 : Hid ((wr.setCell ⟨w1.heap.size, k - 1, none⟩ (.int .u8 (48 + a % 10))).ownsRow B 5 1 v1 (n + 1) (xs ++ [.int .u8 45])) := owns_later R1.out HB2.out
      have HC3 : Hid (B ≤ (wr.setCell ⟨w1.heap.size, k - 1, none⟩ (.int .u8 (48 + a % 10))).heap.size) := by have := HB2.out.size; have := R2.out.size; show _ ≤ _; omega
      have HLn : Hid _ := hlen2
      clear hlen2
      go_wp2_with (at_builtin; refine wpList_append_own _ rfl (.tmp 29) (.tmp 31) 22 rfl B 5 i0 (.int .u8 0) 1 1 Tryd.underlying22 HI.out.1 HI.out.2.1 HI.out.2.2.1 HI.out.2.2.2 rfl (by decide) _ _ _ rfl HO2.out ⟨w1.heap.size, k - 1, none⟩ (21 - k) (21 - k) (Lib.byteCells (Lib.decDigits i.natAbs)) rfl HC1.out HC2.out (bytes_one _) (by unfold maxLen; omega) (by omega) HC3.out ?_; intro v' w9 hown' hgrow _)
      have R : w9.ownsRow B 5 1 v' (n + 1 + (Lib.decDigits i.natAbs).length) (xs ++ [.int .u8 45] ++ Lib.byteCells (Lib.decDigits i.natAbs)) := by rw [HLn.out]; exact hown'
      have R2' : Below B w w9 := (R2.out.trans (HB2.out.mono (by have := R2.out.size; omega))).grown hgrow HC3.out (fun k hk => (HO2.out.lt k hk).1)
      have HRR : Hid (_ ∧ _) := And.intro R R2'
      clear R R2' hown' hgrow
      go_wp2
      go_ret
      exact ⟨_, rfl, HRR.out.1, HRR.out.2⟩
    · have HT2 : Hid (Lib.decDigits i.natAbs = Lib.decDigits (a / 10).toNat ++ (UInt8.ofNat (48 + a.toNat % 10) :: tail)) := by
        show _ = _
        rw [HD.out, dec_big (by omega)]
        have : (a / 10).toNat = a.toNat / 10 := by omega
        rw [this]; simp
      go_wp2
      go_roundw
      case rel => exact ⟨a / 10, k - 1, UInt8.ofNat (48 + a.toNat % 10) :: tail, by omega, by omega, by omega, rfl, by go_num, by have := HT.out; show _ = _; rw [List.length_cons]; omega, HT2, HR2.out, HB2.out, by simp [World.setCell]; exact hsz⟩
      case measure => simp [intOf]; omega

/-- zzc4AppendInt: 'n' in decimal behind what was there. -/
theorem appInt (B n : Nat) (i : Int) (h0 : -9223372036854775808 ≤ i) (h1 : i ≤ 9223372036854775807) (v : Value) (xs : List Value) (w : World) (hown : w.ownsRow B 5 1 v n xs) (hB : B ≤ w.heap.size) (hlim : n ≤ 999) :
    Calls Tryd.prog 6 #[v, .int .i64 i] w fun e w' => ∃ v', e = .returned v' ∧ w'.ownsRow B 5 1 v' (n + (Lib.itoa i).length) (xs ++ Lib.byteCells (Lib.itoa i)) ∧ Below B w w' := by
  by_cases h : i < 0
  · have e : Lib.itoa i = 45 :: Lib.decDigits i.natAbs := by unfold Lib.itoa; rw [if_pos h]
    refine (appInt_neg B n i h h0 v xs w hown hB hlim).mono fun e' w' ⟨v', he, ho, hb⟩ => ⟨v', he, ?_, hb⟩
    rw [e]
    have e1 : n + (45 :: Lib.decDigits i.natAbs).length = n + 1 + (Lib.decDigits i.natAbs).length := by rw [List.length_cons]; omega
    have e2 : xs ++ Lib.byteCells (45 :: Lib.decDigits i.natAbs) = xs ++ [.int .u8 45] ++ Lib.byteCells (Lib.decDigits i.natAbs) := by simp [Lib.byteCells]
    rw [e1, e2]; exact ho
  · have e : Lib.itoa i = Lib.decDigits i.toNat := by unfold Lib.itoa; rw [if_neg h]
    rw [e]
    exact appInt_pos B n i (by omega) h1 v xs w hown hB (by omega)
end Go.Proofs.Qxb6002344aDoor.App
