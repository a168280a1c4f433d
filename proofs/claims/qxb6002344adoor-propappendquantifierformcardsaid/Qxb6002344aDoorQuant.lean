/- THE WALK OF appendQuantifier (seat b6002344aD). -/
import Derived.Test.Qxb6002344aDoorRows
import Derived.Test.Qxb6002344aDoorAppend
import Derived.Test.Qxb6002344aDoorShelf
import Derived.Lib.AppendIntMem
set_option linter.unusedVariables false
set_option linter.unusedSimpArgs false
namespace Go.Proofs.Qxb6002344aDoor.App
open Go.RowKit

/-- The table's name, off the given row. -/
def tabN : String := Rows.propAppendQuantifierFormRow.named.getD 0 default
def Tab (w : World) : Prop := Lib.TabIs Tryd.prog w tabN .u64 Lib.pow10Tab

/-- strconv.AppendInt at base 10, by the shelf's contract. -/
theorem ai15 (B n : Nat) (i : Int) (h0 : -9223372036854775808 ≤ i) (h1 : i ≤ 9223372036854775807) (sv : Value) (xs : List Value) (w : World) (hown : w.ownsRow B 5 1 sv n xs) (hBw : B ≤ w.heap.size) (hlim : n ≤ 1000)
    (htab : Lib.TabBelow Tryd.prog B w tabN .u64 Lib.pow10Tab) :
    Calls Tryd.prog 15 #[sv, .int .i64 i, .int .i64 10] w fun e w' => ∃ v', e = .returned v' ∧ w'.ownsRow B 5 1 v' (n + (Lib.itoa i).length) (xs ++ Lib.byteCells (Lib.itoa i)) ∧ Below B w w' :=
  (Any.strconv_AppendInt_10 Tryd.layAppend B n i h0 h1 sv xs w hown hBw (by omega) htab).mono fun e w' ⟨v', he, ho, hb, _⟩ => ⟨v', he, ho, hb⟩

/-- A byte row that is owned, the call's own blocks from B on. -/
def Own (B : Nat) (w wr : World) (v : Value) (l : List UInt8) : Prop := wr.ownsRow B 5 1 v l.length (Lib.byteCells l) ∧ Below B w wr ∧ B ≤ wr.heap.size

theorem push_one {B : Nat} {w wr w1 : World} {v v' : Value} {l : List UInt8} {o : Obj} (c : UInt8) (h : Own B w wr v l) (ho : w1.ownsRow B 5 1 v' (l.length + 1) (Lib.byteCells l ++ [.int .u8 (c.toNat : Int)])) (hg : (wr.alloc o).grownBy w1 v.ownBlock) : Own B w w1 v' (l ++ [c]) := by
  obtain ⟨h1, h2, h3⟩ := h
  have hb : Below B w w1 := (h2.alloc h3 o).grown hg (by rw [World.size_alloc]; omega) (fun k hk => (h1.lt k hk).1)
  refine ⟨?_, hb, ?_⟩
  · have e1 : (l ++ [c]).length = l.length + 1 := by simp
    have e2 : Lib.byteCells (l ++ [c]) = Lib.byteCells l ++ [.int .u8 (c.toNat : Int)] := by simp [Lib.byteCells]
    rw [e1, e2]; exact ho
  · have := hg.size
    rw [World.size_alloc] at this
    omega
theorem push_list {B : Nat} {w wr w1 : World} {v v' : Value} {l r : List UInt8} (h : Own B w wr v l) (ho : w1.ownsRow B 5 1 v' (l.length + r.length) (Lib.byteCells l ++ Lib.byteCells r)) (hb : Below B wr w1) : Own B w w1 v' (l ++ r) := by
  obtain ⟨h1, h2, h3⟩ := h
  refine ⟨?_, h2.trans hb, Nat.le_trans h3 hb.size⟩
  rw [List.length_append, Lib.byteCells_append]; exact ho

/-- What appendQuantifier writes behind least. -/
def mid (least most : Int) : List UInt8 := if most < 0 then [44] else if least < most then 44 :: Lib.itoa most else []
def tailQ (lazy : Bool) : List UInt8 := if lazy then [125, 63] else [125]
def quant (least most : Int) (lazy : Bool) : List UInt8 := [123] ++ Lib.itoa least ++ mid least most ++ tailQ lazy

set_option maxRecDepth 100000 in
set_option maxHeartbeats 2000000 in
theorem quant_neg_l (least most : Int) (ha0 : -9223372036854775808 ≤ least) (ha1 : least ≤ 9223372036854775807) (hb0 : -9223372036854775808 ≤ most) (hb1 : most ≤ 9223372036854775807) (hc : most < 0) (w : World) (htab : Tab w) :
    Calls Tryd.prog 13 #[.slice none 0 0, .int .i64 least, .int .i64 most, .bool true] w fun e w' => ∃ v', e = .returned v' ∧ Own w.heap.size w w' v' (quant least most true) := by
  have HT : Hid (Lib.TabBelow Tryd.prog w.heap.size w tabN .u64 Lib.pow10Tab) := Lib.tabBelow_of_tabIs htab
  have la := Lib.itoa_length_le least ha0 ha1
  have lb := Lib.itoa_length_le most hb0 hb1
  clear htab
  obtain ⟨i0, hi, hz0, hz1, hz2⟩ := info_parts info5
  have HI : Hid (_ ∧ _ ∧ _ ∧ _) := And.intro hi (And.intro hz0 (And.intro hz1 hz2))
  clear hi hz0 hz1 hz2
  go_enter Tryd.func13, Tryd.ntmps13
  go_wp2_with (at_builtin; refine wpList_append_own _ rfl (.tmp 9) (.tmp 10) 22 rfl w.heap.size 5 i0 (.int .u8 0) 1 1 Tryd.underlying22 HI.out.1 HI.out.2.1 HI.out.2.2.1 HI.out.2.2.2 rfl (by decide) _ _ _ rfl ((World.ownsRow_nil w w.heap.size 5 1).alloc _) ⟨w.heap.size, 0, none⟩ 1 1 [.int .u8 123] rfl rfl (cell_one _ _ _) (one_one _) (by unfold maxLen; omega) (by omega) (by rw [World.size_alloc]; omega) ?_; intro v1 w1 ho1 hg1 hx1; refine Hid.out ?_)
  refine Lib.hid ?_
  have O1 : Hid (Own w.heap.size w w1 v1 [123]) := by
    have h0 : Own w.heap.size w w (.slice none 0 0) [] := ⟨World.ownsRow_nil w w.heap.size 5 1, Below.refl _ _, Nat.le_refl _⟩
    exact push_one 123 h0 ho1 hg1
  have s1 : w.heap.size ≤ w1.heap.size := O1.out.2.2
  have m1 : ([123]).length ≤ 100 := by simp only [List.length_append, List.length_cons, List.length_nil]; omega
  clear ho1 hg1 hx1
  go_wp2_with fail
  refine (ai15 w.heap.size _ least ha0 ha1 _ _ w1 O1.out.1 O1.out.2.2 (by simp only [List.length_append, List.length_cons, List.length_nil]; omega) (HT.out.on O1.out.2.1)).mono ?_
  rintro e w2 ⟨v2, rfl, ho2, hb2⟩
  have O2 : Hid (Own w.heap.size w w2 v2 ([123] ++ Lib.itoa least)) := push_list O1.out ho2 hb2
  have s2 : w.heap.size ≤ w2.heap.size := O2.out.2.2
  have m2 : (([123] ++ Lib.itoa least)).length ≤ 100 := by simp only [List.length_append, List.length_cons, List.length_nil]; omega
  clear ho2 hb2
  go_wp2_with (at_builtin; refine wpList_append_own _ rfl (.tmp 17) (.tmp 18) 22 rfl w.heap.size 5 i0 (.int .u8 0) 1 1 Tryd.underlying22 HI.out.1 HI.out.2.1 HI.out.2.2.1 HI.out.2.2.2 rfl (by decide) _ _ _ rfl (O2.out.1.alloc _) ⟨w2.heap.size, 0, none⟩ 1 1 [.int .u8 44] rfl rfl (cell_one _ _ _) (one_one _) (by unfold maxLen; omega) (by omega) (by rw [World.size_alloc]; omega) ?_; intro v3 w3 ho3 hg3 hx3; refine Hid.out ?_)
  refine Lib.hid ?_
  have O3 : Hid (Own w.heap.size w w3 v3 (([123] ++ Lib.itoa least) ++ [44])) := push_one 44 O2.out ho3 hg3
  have s3 : w.heap.size ≤ w3.heap.size := O3.out.2.2
  have m3 : ((([123] ++ Lib.itoa least) ++ [44])).length ≤ 100 := by simp only [List.length_append, List.length_cons, List.length_nil]; omega
  clear ho3 hg3 hx3
  go_wp2_with (at_builtin; refine wpList_append_own _ rfl (.tmp 29) (.tmp 30) 22 rfl w.heap.size 5 i0 (.int .u8 0) 1 1 Tryd.underlying22 HI.out.1 HI.out.2.1 HI.out.2.2.1 HI.out.2.2.2 rfl (by decide) _ _ _ rfl (O3.out.1.alloc _) ⟨w3.heap.size, 0, none⟩ 1 1 [.int .u8 125] rfl rfl (cell_one _ _ _) (one_one _) (by unfold maxLen; omega) (by omega) (by rw [World.size_alloc]; omega) ?_; intro v4 w4 ho4 hg4 hx4; refine Hid.out ?_)
  refine Lib.hid ?_
  have O4 : Hid (Own w.heap.size w w4 v4 ((([123] ++ Lib.itoa least) ++ [44]) ++ [125])) := push_one 125 O3.out ho4 hg4
  have s4 : w.heap.size ≤ w4.heap.size := O4.out.2.2
  have m4 : (((([123] ++ Lib.itoa least) ++ [44]) ++ [125])).length ≤ 100 := by simp only [List.length_append, List.length_cons, List.length_nil]; omega
  clear ho4 hg4 hx4
  go_wp2_with (at_builtin; refine wpList_append_own _ rfl (.tmp 33) (.tmp 34) 22 rfl w.heap.size 5 i0 (.int .u8 0) 1 1 Tryd.underlying22 HI.out.1 HI.out.2.1 HI.out.2.2.1 HI.out.2.2.2 rfl (by decide) _ _ _ rfl (O4.out.1.alloc _) ⟨w4.heap.size, 0, none⟩ 1 1 [.int .u8 63] rfl rfl (cell_one _ _ _) (one_one _) (by unfold maxLen; omega) (by omega) (by rw [World.size_alloc]; omega) ?_; intro v5 w5 ho5 hg5 hx5; refine Hid.out ?_)
  refine Lib.hid ?_
  have O5 : Hid (Own w.heap.size w w5 v5 (((([123] ++ Lib.itoa least) ++ [44]) ++ [125]) ++ [63])) := push_one 63 O4.out ho5 hg5
  have s5 : w.heap.size ≤ w5.heap.size := O5.out.2.2
  have m5 : ((((([123] ++ Lib.itoa least) ++ [44]) ++ [125]) ++ [63])).length ≤ 100 := by simp only [List.length_append, List.length_cons, List.length_nil]; omega
  clear ho5 hg5 hx5
  have E : (((([123] ++ Lib.itoa least) ++ [44]) ++ [125]) ++ [63]) = quant least most true := by
    unfold quant mid tailQ
    rw [if_pos hc]
    simp
  have HF : Hid (Own w.heap.size w w5 v5 (quant least most true)) := by rw [← E]; exact O5.out
  clear E
  go_wp2
  go_ret
  exact ⟨_, rfl, HF.out⟩

set_option maxRecDepth 100000 in
set_option maxHeartbeats 2000000 in
theorem quant_neg_n (least most : Int) (ha0 : -9223372036854775808 ≤ least) (ha1 : least ≤ 9223372036854775807) (hb0 : -9223372036854775808 ≤ most) (hb1 : most ≤ 9223372036854775807) (hc : most < 0) (w : World) (htab : Tab w) :
    Calls Tryd.prog 13 #[.slice none 0 0, .int .i64 least, .int .i64 most, .bool false] w fun e w' => ∃ v', e = .returned v' ∧ Own w.heap.size w w' v' (quant least most false) := by
  have HT : Hid (Lib.TabBelow Tryd.prog w.heap.size w tabN .u64 Lib.pow10Tab) := Lib.tabBelow_of_tabIs htab
  have la := Lib.itoa_length_le least ha0 ha1
  have lb := Lib.itoa_length_le most hb0 hb1
  clear htab
  obtain ⟨i0, hi, hz0, hz1, hz2⟩ := info_parts info5
  have HI : Hid (_ ∧ _ ∧ _ ∧ _) := And.intro hi (And.intro hz0 (And.intro hz1 hz2))
  clear hi hz0 hz1 hz2
  go_enter Tryd.func13, Tryd.ntmps13
  go_wp2_with (at_builtin; refine wpList_append_own _ rfl (.tmp 9) (.tmp 10) 22 rfl w.heap.size 5 i0 (.int .u8 0) 1 1 Tryd.underlying22 HI.out.1 HI.out.2.1 HI.out.2.2.1 HI.out.2.2.2 rfl (by decide) _ _ _ rfl ((World.ownsRow_nil w w.heap.size 5 1).alloc _) ⟨w.heap.size, 0, none⟩ 1 1 [.int .u8 123] rfl rfl (cell_one _ _ _) (one_one _) (by unfold maxLen; omega) (by omega) (by rw [World.size_alloc]; omega) ?_; intro v1 w1 ho1 hg1 hx1; refine Hid.out ?_)
  refine Lib.hid ?_
  have O1 : Hid (Own w.heap.size w w1 v1 [123]) := by
    have h0 : Own w.heap.size w w (.slice none 0 0) [] := ⟨World.ownsRow_nil w w.heap.size 5 1, Below.refl _ _, Nat.le_refl _⟩
    exact push_one 123 h0 ho1 hg1
  have s1 : w.heap.size ≤ w1.heap.size := O1.out.2.2
  have m1 : ([123]).length ≤ 100 := by simp only [List.length_append, List.length_cons, List.length_nil]; omega
  clear ho1 hg1 hx1
  go_wp2_with fail
  refine (ai15 w.heap.size _ least ha0 ha1 _ _ w1 O1.out.1 O1.out.2.2 (by simp only [List.length_append, List.length_cons, List.length_nil]; omega) (HT.out.on O1.out.2.1)).mono ?_
  rintro e w2 ⟨v2, rfl, ho2, hb2⟩
  have O2 : Hid (Own w.heap.size w w2 v2 ([123] ++ Lib.itoa least)) := push_list O1.out ho2 hb2
  have s2 : w.heap.size ≤ w2.heap.size := O2.out.2.2
  have m2 : (([123] ++ Lib.itoa least)).length ≤ 100 := by simp only [List.length_append, List.length_cons, List.length_nil]; omega
  clear ho2 hb2
  go_wp2_with (at_builtin; refine wpList_append_own _ rfl (.tmp 17) (.tmp 18) 22 rfl w.heap.size 5 i0 (.int .u8 0) 1 1 Tryd.underlying22 HI.out.1 HI.out.2.1 HI.out.2.2.1 HI.out.2.2.2 rfl (by decide) _ _ _ rfl (O2.out.1.alloc _) ⟨w2.heap.size, 0, none⟩ 1 1 [.int .u8 44] rfl rfl (cell_one _ _ _) (one_one _) (by unfold maxLen; omega) (by omega) (by rw [World.size_alloc]; omega) ?_; intro v3 w3 ho3 hg3 hx3; refine Hid.out ?_)
  refine Lib.hid ?_
  have O3 : Hid (Own w.heap.size w w3 v3 (([123] ++ Lib.itoa least) ++ [44])) := push_one 44 O2.out ho3 hg3
  have s3 : w.heap.size ≤ w3.heap.size := O3.out.2.2
  have m3 : ((([123] ++ Lib.itoa least) ++ [44])).length ≤ 100 := by simp only [List.length_append, List.length_cons, List.length_nil]; omega
  clear ho3 hg3 hx3
  go_wp2_with (at_builtin; refine wpList_append_own _ rfl (.tmp 29) (.tmp 30) 22 rfl w.heap.size 5 i0 (.int .u8 0) 1 1 Tryd.underlying22 HI.out.1 HI.out.2.1 HI.out.2.2.1 HI.out.2.2.2 rfl (by decide) _ _ _ rfl (O3.out.1.alloc _) ⟨w3.heap.size, 0, none⟩ 1 1 [.int .u8 125] rfl rfl (cell_one _ _ _) (one_one _) (by unfold maxLen; omega) (by omega) (by rw [World.size_alloc]; omega) ?_; intro v4 w4 ho4 hg4 hx4; refine Hid.out ?_)
  refine Lib.hid ?_
  have O4 : Hid (Own w.heap.size w w4 v4 ((([123] ++ Lib.itoa least) ++ [44]) ++ [125])) := push_one 125 O3.out ho4 hg4
  have s4 : w.heap.size ≤ w4.heap.size := O4.out.2.2
  have m4 : (((([123] ++ Lib.itoa least) ++ [44]) ++ [125])).length ≤ 100 := by simp only [List.length_append, List.length_cons, List.length_nil]; omega
  clear ho4 hg4 hx4
  have E : ((([123] ++ Lib.itoa least) ++ [44]) ++ [125]) = quant least most false := by
    unfold quant mid tailQ
    rw [if_pos hc]
    simp
  have HF : Hid (Own w.heap.size w w4 v4 (quant least most false)) := by rw [← E]; exact O4.out
  clear E
  go_wp2
  go_ret
  exact ⟨_, rfl, HF.out⟩

set_option maxRecDepth 100000 in
set_option maxHeartbeats 2000000 in
theorem quant_mid_l (least most : Int) (ha0 : -9223372036854775808 ≤ least) (ha1 : least ≤ 9223372036854775807) (hb0 : -9223372036854775808 ≤ most) (hb1 : most ≤ 9223372036854775807) (hc0 : ¬ most < 0) (hc : least < most) (w : World) (htab : Tab w) :
    Calls Tryd.prog 13 #[.slice none 0 0, .int .i64 least, .int .i64 most, .bool true] w fun e w' => ∃ v', e = .returned v' ∧ Own w.heap.size w w' v' (quant least most true) := by
  have HT : Hid (Lib.TabBelow Tryd.prog w.heap.size w tabN .u64 Lib.pow10Tab) := Lib.tabBelow_of_tabIs htab
  have la := Lib.itoa_length_le least ha0 ha1
  have lb := Lib.itoa_length_le most hb0 hb1
  clear htab
  obtain ⟨i0, hi, hz0, hz1, hz2⟩ := info_parts info5
  have HI : Hid (_ ∧ _ ∧ _ ∧ _) := And.intro hi (And.intro hz0 (And.intro hz1 hz2))
  clear hi hz0 hz1 hz2
  go_enter Tryd.func13, Tryd.ntmps13
  go_wp2_with (at_builtin; refine wpList_append_own _ rfl (.tmp 9) (.tmp 10) 22 rfl w.heap.size 5 i0 (.int .u8 0) 1 1 Tryd.underlying22 HI.out.1 HI.out.2.1 HI.out.2.2.1 HI.out.2.2.2 rfl (by decide) _ _ _ rfl ((World.ownsRow_nil w w.heap.size 5 1).alloc _) ⟨w.heap.size, 0, none⟩ 1 1 [.int .u8 123] rfl rfl (cell_one _ _ _) (one_one _) (by unfold maxLen; omega) (by omega) (by rw [World.size_alloc]; omega) ?_; intro v1 w1 ho1 hg1 hx1; refine Hid.out ?_)
  refine Lib.hid ?_
  have O1 : Hid (Own w.heap.size w w1 v1 [123]) := by
    have h0 : Own w.heap.size w w (.slice none 0 0) [] := ⟨World.ownsRow_nil w w.heap.size 5 1, Below.refl _ _, Nat.le_refl _⟩
    exact push_one 123 h0 ho1 hg1
  have s1 : w.heap.size ≤ w1.heap.size := O1.out.2.2
  have m1 : ([123]).length ≤ 100 := by simp only [List.length_append, List.length_cons, List.length_nil]; omega
  clear ho1 hg1 hx1
  go_wp2_with fail
  refine (ai15 w.heap.size _ least ha0 ha1 _ _ w1 O1.out.1 O1.out.2.2 (by simp only [List.length_append, List.length_cons, List.length_nil]; omega) (HT.out.on O1.out.2.1)).mono ?_
  rintro e w2 ⟨v2, rfl, ho2, hb2⟩
  have O2 : Hid (Own w.heap.size w w2 v2 ([123] ++ Lib.itoa least)) := push_list O1.out ho2 hb2
  have s2 : w.heap.size ≤ w2.heap.size := O2.out.2.2
  have m2 : (([123] ++ Lib.itoa least)).length ≤ 100 := by simp only [List.length_append, List.length_cons, List.length_nil]; omega
  clear ho2 hb2
  go_wp2_with (at_builtin; refine wpList_append_own _ rfl (.tmp 24) (.tmp 25) 22 rfl w.heap.size 5 i0 (.int .u8 0) 1 1 Tryd.underlying22 HI.out.1 HI.out.2.1 HI.out.2.2.1 HI.out.2.2.2 rfl (by decide) _ _ _ rfl (O2.out.1.alloc _) ⟨w2.heap.size, 0, none⟩ 1 1 [.int .u8 44] rfl rfl (cell_one _ _ _) (one_one _) (by unfold maxLen; omega) (by omega) (by rw [World.size_alloc]; omega) ?_; intro v3 w3 ho3 hg3 hx3; refine Hid.out ?_)
  refine Lib.hid ?_
  have O3 : Hid (Own w.heap.size w w3 v3 (([123] ++ Lib.itoa least) ++ [44])) := push_one 44 O2.out ho3 hg3
  have s3 : w.heap.size ≤ w3.heap.size := O3.out.2.2
  have m3 : ((([123] ++ Lib.itoa least) ++ [44])).length ≤ 100 := by simp only [List.length_append, List.length_cons, List.length_nil]; omega
  clear ho3 hg3 hx3
  go_wp2_with fail
  refine (ai15 w.heap.size _ most hb0 hb1 _ _ w3 O3.out.1 O3.out.2.2 (by simp only [List.length_append, List.length_cons, List.length_nil]; omega) (HT.out.on O3.out.2.1)).mono ?_
  rintro e w4 ⟨v4, rfl, ho4, hb4⟩
  have O4 : Hid (Own w.heap.size w w4 v4 ((([123] ++ Lib.itoa least) ++ [44]) ++ Lib.itoa most)) := push_list O3.out ho4 hb4
  have s4 : w.heap.size ≤ w4.heap.size := O4.out.2.2
  have m4 : (((([123] ++ Lib.itoa least) ++ [44]) ++ Lib.itoa most)).length ≤ 100 := by simp only [List.length_append, List.length_cons, List.length_nil]; omega
  clear ho4 hb4
  go_wp2_with (at_builtin; refine wpList_append_own _ rfl (.tmp 29) (.tmp 30) 22 rfl w.heap.size 5 i0 (.int .u8 0) 1 1 Tryd.underlying22 HI.out.1 HI.out.2.1 HI.out.2.2.1 HI.out.2.2.2 rfl (by decide) _ _ _ rfl (O4.out.1.alloc _) ⟨w4.heap.size, 0, none⟩ 1 1 [.int .u8 125] rfl rfl (cell_one _ _ _) (one_one _) (by unfold maxLen; omega) (by omega) (by rw [World.size_alloc]; omega) ?_; intro v5 w5 ho5 hg5 hx5; refine Hid.out ?_)
  refine Lib.hid ?_
  have O5 : Hid (Own w.heap.size w w5 v5 (((([123] ++ Lib.itoa least) ++ [44]) ++ Lib.itoa most) ++ [125])) := push_one 125 O4.out ho5 hg5
  have s5 : w.heap.size ≤ w5.heap.size := O5.out.2.2
  have m5 : ((((([123] ++ Lib.itoa least) ++ [44]) ++ Lib.itoa most) ++ [125])).length ≤ 100 := by simp only [List.length_append, List.length_cons, List.length_nil]; omega
  clear ho5 hg5 hx5
  go_wp2_with (at_builtin; refine wpList_append_own _ rfl (.tmp 33) (.tmp 34) 22 rfl w.heap.size 5 i0 (.int .u8 0) 1 1 Tryd.underlying22 HI.out.1 HI.out.2.1 HI.out.2.2.1 HI.out.2.2.2 rfl (by decide) _ _ _ rfl (O5.out.1.alloc _) ⟨w5.heap.size, 0, none⟩ 1 1 [.int .u8 63] rfl rfl (cell_one _ _ _) (one_one _) (by unfold maxLen; omega) (by omega) (by rw [World.size_alloc]; omega) ?_; intro v6 w6 ho6 hg6 hx6; refine Hid.out ?_)
  refine Lib.hid ?_
  have O6 : Hid (Own w.heap.size w w6 v6 ((((([123] ++ Lib.itoa least) ++ [44]) ++ Lib.itoa most) ++ [125]) ++ [63])) := push_one 63 O5.out ho6 hg6
  have s6 : w.heap.size ≤ w6.heap.size := O6.out.2.2
  have m6 : (((((([123] ++ Lib.itoa least) ++ [44]) ++ Lib.itoa most) ++ [125]) ++ [63])).length ≤ 100 := by simp only [List.length_append, List.length_cons, List.length_nil]; omega
  clear ho6 hg6 hx6
  have E : ((((([123] ++ Lib.itoa least) ++ [44]) ++ Lib.itoa most) ++ [125]) ++ [63]) = quant least most true := by
    unfold quant mid tailQ
    rw [if_neg (by omega), if_pos (by omega)]
    simp
  have HF : Hid (Own w.heap.size w w6 v6 (quant least most true)) := by rw [← E]; exact O6.out
  clear E
  go_wp2
  go_ret
  exact ⟨_, rfl, HF.out⟩

set_option maxRecDepth 100000 in
set_option maxHeartbeats 2000000 in
theorem quant_mid_n (least most : Int) (ha0 : -9223372036854775808 ≤ least) (ha1 : least ≤ 9223372036854775807) (hb0 : -9223372036854775808 ≤ most) (hb1 : most ≤ 9223372036854775807) (hc0 : ¬ most < 0) (hc : least < most) (w : World) (htab : Tab w) :
    Calls Tryd.prog 13 #[.slice none 0 0, .int .i64 least, .int .i64 most, .bool false] w fun e w' => ∃ v', e = .returned v' ∧ Own w.heap.size w w' v' (quant least most false) := by
  have HT : Hid (Lib.TabBelow Tryd.prog w.heap.size w tabN .u64 Lib.pow10Tab) := Lib.tabBelow_of_tabIs htab
  have la := Lib.itoa_length_le least ha0 ha1
  have lb := Lib.itoa_length_le most hb0 hb1
  clear htab
  obtain ⟨i0, hi, hz0, hz1, hz2⟩ := info_parts info5
  have HI : Hid (_ ∧ _ ∧ _ ∧ _) := And.intro hi (And.intro hz0 (And.intro hz1 hz2))
  clear hi hz0 hz1 hz2
  go_enter Tryd.func13, Tryd.ntmps13
  go_wp2_with (at_builtin; refine wpList_append_own _ rfl (.tmp 9) (.tmp 10) 22 rfl w.heap.size 5 i0 (.int .u8 0) 1 1 Tryd.underlying22 HI.out.1 HI.out.2.1 HI.out.2.2.1 HI.out.2.2.2 rfl (by decide) _ _ _ rfl ((World.ownsRow_nil w w.heap.size 5 1).alloc _) ⟨w.heap.size, 0, none⟩ 1 1 [.int .u8 123] rfl rfl (cell_one _ _ _) (one_one _) (by unfold maxLen; omega) (by omega) (by rw [World.size_alloc]; omega) ?_; intro v1 w1 ho1 hg1 hx1; refine Hid.out ?_)
  refine Lib.hid ?_
  have O1 : Hid (Own w.heap.size w w1 v1 [123]) := by
    have h0 : Own w.heap.size w w (.slice none 0 0) [] := ⟨World.ownsRow_nil w w.heap.size 5 1, Below.refl _ _, Nat.le_refl _⟩
    exact push_one 123 h0 ho1 hg1
  have s1 : w.heap.size ≤ w1.heap.size := O1.out.2.2
  have m1 : ([123]).length ≤ 100 := by simp only [List.length_append, List.length_cons, List.length_nil]; omega
  clear ho1 hg1 hx1
  go_wp2_with fail
  refine (ai15 w.heap.size _ least ha0 ha1 _ _ w1 O1.out.1 O1.out.2.2 (by simp only [List.length_append, List.length_cons, List.length_nil]; omega) (HT.out.on O1.out.2.1)).mono ?_
  rintro e w2 ⟨v2, rfl, ho2, hb2⟩
  have O2 : Hid (Own w.heap.size w w2 v2 ([123] ++ Lib.itoa least)) := push_list O1.out ho2 hb2
  have s2 : w.heap.size ≤ w2.heap.size := O2.out.2.2
  have m2 : (([123] ++ Lib.itoa least)).length ≤ 100 := by simp only [List.length_append, List.length_cons, List.length_nil]; omega
  clear ho2 hb2
  go_wp2_with (at_builtin; refine wpList_append_own _ rfl (.tmp 24) (.tmp 25) 22 rfl w.heap.size 5 i0 (.int .u8 0) 1 1 Tryd.underlying22 HI.out.1 HI.out.2.1 HI.out.2.2.1 HI.out.2.2.2 rfl (by decide) _ _ _ rfl (O2.out.1.alloc _) ⟨w2.heap.size, 0, none⟩ 1 1 [.int .u8 44] rfl rfl (cell_one _ _ _) (one_one _) (by unfold maxLen; omega) (by omega) (by rw [World.size_alloc]; omega) ?_; intro v3 w3 ho3 hg3 hx3; refine Hid.out ?_)
  refine Lib.hid ?_
  have O3 : Hid (Own w.heap.size w w3 v3 (([123] ++ Lib.itoa least) ++ [44])) := push_one 44 O2.out ho3 hg3
  have s3 : w.heap.size ≤ w3.heap.size := O3.out.2.2
  have m3 : ((([123] ++ Lib.itoa least) ++ [44])).length ≤ 100 := by simp only [List.length_append, List.length_cons, List.length_nil]; omega
  clear ho3 hg3 hx3
  go_wp2_with fail
  refine (ai15 w.heap.size _ most hb0 hb1 _ _ w3 O3.out.1 O3.out.2.2 (by simp only [List.length_append, List.length_cons, List.length_nil]; omega) (HT.out.on O3.out.2.1)).mono ?_
  rintro e w4 ⟨v4, rfl, ho4, hb4⟩
  have O4 : Hid (Own w.heap.size w w4 v4 ((([123] ++ Lib.itoa least) ++ [44]) ++ Lib.itoa most)) := push_list O3.out ho4 hb4
  have s4 : w.heap.size ≤ w4.heap.size := O4.out.2.2
  have m4 : (((([123] ++ Lib.itoa least) ++ [44]) ++ Lib.itoa most)).length ≤ 100 := by simp only [List.length_append, List.length_cons, List.length_nil]; omega
  clear ho4 hb4
  go_wp2_with (at_builtin; refine wpList_append_own _ rfl (.tmp 29) (.tmp 30) 22 rfl w.heap.size 5 i0 (.int .u8 0) 1 1 Tryd.underlying22 HI.out.1 HI.out.2.1 HI.out.2.2.1 HI.out.2.2.2 rfl (by decide) _ _ _ rfl (O4.out.1.alloc _) ⟨w4.heap.size, 0, none⟩ 1 1 [.int .u8 125] rfl rfl (cell_one _ _ _) (one_one _) (by unfold maxLen; omega) (by omega) (by rw [World.size_alloc]; omega) ?_; intro v5 w5 ho5 hg5 hx5; refine Hid.out ?_)
  refine Lib.hid ?_
  have O5 : Hid (Own w.heap.size w w5 v5 (((([123] ++ Lib.itoa least) ++ [44]) ++ Lib.itoa most) ++ [125])) := push_one 125 O4.out ho5 hg5
  have s5 : w.heap.size ≤ w5.heap.size := O5.out.2.2
  have m5 : ((((([123] ++ Lib.itoa least) ++ [44]) ++ Lib.itoa most) ++ [125])).length ≤ 100 := by simp only [List.length_append, List.length_cons, List.length_nil]; omega
  clear ho5 hg5 hx5
  have E : (((([123] ++ Lib.itoa least) ++ [44]) ++ Lib.itoa most) ++ [125]) = quant least most false := by
    unfold quant mid tailQ
    rw [if_neg (by omega), if_pos (by omega)]
    simp
  have HF : Hid (Own w.heap.size w w5 v5 (quant least most false)) := by rw [← E]; exact O5.out
  clear E
  go_wp2
  go_ret
  exact ⟨_, rfl, HF.out⟩

set_option maxRecDepth 100000 in
set_option maxHeartbeats 2000000 in
theorem quant_one_l (least most : Int) (ha0 : -9223372036854775808 ≤ least) (ha1 : least ≤ 9223372036854775807) (hb0 : -9223372036854775808 ≤ most) (hb1 : most ≤ 9223372036854775807) (hc0 : ¬ most < 0) (hc : ¬ least < most) (w : World) (htab : Tab w) :
    Calls Tryd.prog 13 #[.slice none 0 0, .int .i64 least, .int .i64 most, .bool true] w fun e w' => ∃ v', e = .returned v' ∧ Own w.heap.size w w' v' (quant least most true) := by
  have HT : Hid (Lib.TabBelow Tryd.prog w.heap.size w tabN .u64 Lib.pow10Tab) := Lib.tabBelow_of_tabIs htab
  have la := Lib.itoa_length_le least ha0 ha1
  have lb := Lib.itoa_length_le most hb0 hb1
  clear htab
  obtain ⟨i0, hi, hz0, hz1, hz2⟩ := info_parts info5
  have HI : Hid (_ ∧ _ ∧ _ ∧ _) := And.intro hi (And.intro hz0 (And.intro hz1 hz2))
  clear hi hz0 hz1 hz2
  go_enter Tryd.func13, Tryd.ntmps13
  go_wp2_with (at_builtin; refine wpList_append_own _ rfl (.tmp 9) (.tmp 10) 22 rfl w.heap.size 5 i0 (.int .u8 0) 1 1 Tryd.underlying22 HI.out.1 HI.out.2.1 HI.out.2.2.1 HI.out.2.2.2 rfl (by decide) _ _ _ rfl ((World.ownsRow_nil w w.heap.size 5 1).alloc _) ⟨w.heap.size, 0, none⟩ 1 1 [.int .u8 123] rfl rfl (cell_one _ _ _) (one_one _) (by unfold maxLen; omega) (by omega) (by rw [World.size_alloc]; omega) ?_; intro v1 w1 ho1 hg1 hx1; refine Hid.out ?_)
  refine Lib.hid ?_
  have O1 : Hid (Own w.heap.size w w1 v1 [123]) := by
    have h0 : Own w.heap.size w w (.slice none 0 0) [] := ⟨World.ownsRow_nil w w.heap.size 5 1, Below.refl _ _, Nat.le_refl _⟩
    exact push_one 123 h0 ho1 hg1
  have s1 : w.heap.size ≤ w1.heap.size := O1.out.2.2
  have m1 : ([123]).length ≤ 100 := by simp only [List.length_append, List.length_cons, List.length_nil]; omega
  clear ho1 hg1 hx1
  go_wp2_with fail
  refine (ai15 w.heap.size _ least ha0 ha1 _ _ w1 O1.out.1 O1.out.2.2 (by simp only [List.length_append, List.length_cons, List.length_nil]; omega) (HT.out.on O1.out.2.1)).mono ?_
  rintro e w2 ⟨v2, rfl, ho2, hb2⟩
  have O2 : Hid (Own w.heap.size w w2 v2 ([123] ++ Lib.itoa least)) := push_list O1.out ho2 hb2
  have s2 : w.heap.size ≤ w2.heap.size := O2.out.2.2
  have m2 : (([123] ++ Lib.itoa least)).length ≤ 100 := by simp only [List.length_append, List.length_cons, List.length_nil]; omega
  clear ho2 hb2
  go_wp2_with (at_builtin; refine wpList_append_own _ rfl (.tmp 29) (.tmp 30) 22 rfl w.heap.size 5 i0 (.int .u8 0) 1 1 Tryd.underlying22 HI.out.1 HI.out.2.1 HI.out.2.2.1 HI.out.2.2.2 rfl (by decide) _ _ _ rfl (O2.out.1.alloc _) ⟨w2.heap.size, 0, none⟩ 1 1 [.int .u8 125] rfl rfl (cell_one _ _ _) (one_one _) (by unfold maxLen; omega) (by omega) (by rw [World.size_alloc]; omega) ?_; intro v3 w3 ho3 hg3 hx3; refine Hid.out ?_)
  refine Lib.hid ?_
  have O3 : Hid (Own w.heap.size w w3 v3 (([123] ++ Lib.itoa least) ++ [125])) := push_one 125 O2.out ho3 hg3
  have s3 : w.heap.size ≤ w3.heap.size := O3.out.2.2
  have m3 : ((([123] ++ Lib.itoa least) ++ [125])).length ≤ 100 := by simp only [List.length_append, List.length_cons, List.length_nil]; omega
  clear ho3 hg3 hx3
  go_wp2_with (at_builtin; refine wpList_append_own _ rfl (.tmp 33) (.tmp 34) 22 rfl w.heap.size 5 i0 (.int .u8 0) 1 1 Tryd.underlying22 HI.out.1 HI.out.2.1 HI.out.2.2.1 HI.out.2.2.2 rfl (by decide) _ _ _ rfl (O3.out.1.alloc _) ⟨w3.heap.size, 0, none⟩ 1 1 [.int .u8 63] rfl rfl (cell_one _ _ _) (one_one _) (by unfold maxLen; omega) (by omega) (by rw [World.size_alloc]; omega) ?_; intro v4 w4 ho4 hg4 hx4; refine Hid.out ?_)
  refine Lib.hid ?_
  have O4 : Hid (Own w.heap.size w w4 v4 ((([123] ++ Lib.itoa least) ++ [125]) ++ [63])) := push_one 63 O3.out ho4 hg4
  have s4 : w.heap.size ≤ w4.heap.size := O4.out.2.2
  have m4 : (((([123] ++ Lib.itoa least) ++ [125]) ++ [63])).length ≤ 100 := by simp only [List.length_append, List.length_cons, List.length_nil]; omega
  clear ho4 hg4 hx4
  have E : ((([123] ++ Lib.itoa least) ++ [125]) ++ [63]) = quant least most true := by
    unfold quant mid tailQ
    rw [if_neg (by omega), if_neg (by omega)]
    simp
  have HF : Hid (Own w.heap.size w w4 v4 (quant least most true)) := by rw [← E]; exact O4.out
  clear E
  go_wp2
  go_ret
  exact ⟨_, rfl, HF.out⟩

set_option maxRecDepth 100000 in
set_option maxHeartbeats 2000000 in
theorem quant_one_n (least most : Int) (ha0 : -9223372036854775808 ≤ least) (ha1 : least ≤ 9223372036854775807) (hb0 : -9223372036854775808 ≤ most) (hb1 : most ≤ 9223372036854775807) (hc0 : ¬ most < 0) (hc : ¬ least < most) (w : World) (htab : Tab w) :
    Calls Tryd.prog 13 #[.slice none 0 0, .int .i64 least, .int .i64 most, .bool false] w fun e w' => ∃ v', e = .returned v' ∧ Own w.heap.size w w' v' (quant least most false) := by
  have HT : Hid (Lib.TabBelow Tryd.prog w.heap.size w tabN .u64 Lib.pow10Tab) := Lib.tabBelow_of_tabIs htab
  have la := Lib.itoa_length_le least ha0 ha1
  have lb := Lib.itoa_length_le most hb0 hb1
  clear htab
  obtain ⟨i0, hi, hz0, hz1, hz2⟩ := info_parts info5
  have HI : Hid (_ ∧ _ ∧ _ ∧ _) := And.intro hi (And.intro hz0 (And.intro hz1 hz2))
  clear hi hz0 hz1 hz2
  go_enter Tryd.func13, Tryd.ntmps13
  go_wp2_with (at_builtin; refine wpList_append_own _ rfl (.tmp 9) (.tmp 10) 22 rfl w.heap.size 5 i0 (.int .u8 0) 1 1 Tryd.underlying22 HI.out.1 HI.out.2.1 HI.out.2.2.1 HI.out.2.2.2 rfl (by decide) _ _ _ rfl ((World.ownsRow_nil w w.heap.size 5 1).alloc _) ⟨w.heap.size, 0, none⟩ 1 1 [.int .u8 123] rfl rfl (cell_one _ _ _) (one_one _) (by unfold maxLen; omega) (by omega) (by rw [World.size_alloc]; omega) ?_; intro v1 w1 ho1 hg1 hx1; refine Hid.out ?_)
  refine Lib.hid ?_
  have O1 : Hid (Own w.heap.size w w1 v1 [123]) := by
    have h0 : Own w.heap.size w w (.slice none 0 0) [] := ⟨World.ownsRow_nil w w.heap.size 5 1, Below.refl _ _, Nat.le_refl _⟩
    exact push_one 123 h0 ho1 hg1
  have s1 : w.heap.size ≤ w1.heap.size := O1.out.2.2
  have m1 : ([123]).length ≤ 100 := by simp only [List.length_append, List.length_cons, List.length_nil]; omega
  clear ho1 hg1 hx1
  go_wp2_with fail
  refine (ai15 w.heap.size _ least ha0 ha1 _ _ w1 O1.out.1 O1.out.2.2 (by simp only [List.length_append, List.length_cons, List.length_nil]; omega) (HT.out.on O1.out.2.1)).mono ?_
  rintro e w2 ⟨v2, rfl, ho2, hb2⟩
  have O2 : Hid (Own w.heap.size w w2 v2 ([123] ++ Lib.itoa least)) := push_list O1.out ho2 hb2
  have s2 : w.heap.size ≤ w2.heap.size := O2.out.2.2
  have m2 : (([123] ++ Lib.itoa least)).length ≤ 100 := by simp only [List.length_append, List.length_cons, List.length_nil]; omega
  clear ho2 hb2
  go_wp2_with (at_builtin; refine wpList_append_own _ rfl (.tmp 29) (.tmp 30) 22 rfl w.heap.size 5 i0 (.int .u8 0) 1 1 Tryd.underlying22 HI.out.1 HI.out.2.1 HI.out.2.2.1 HI.out.2.2.2 rfl (by decide) _ _ _ rfl (O2.out.1.alloc _) ⟨w2.heap.size, 0, none⟩ 1 1 [.int .u8 125] rfl rfl (cell_one _ _ _) (one_one _) (by unfold maxLen; omega) (by omega) (by rw [World.size_alloc]; omega) ?_; intro v3 w3 ho3 hg3 hx3; refine Hid.out ?_)
  refine Lib.hid ?_
  have O3 : Hid (Own w.heap.size w w3 v3 (([123] ++ Lib.itoa least) ++ [125])) := push_one 125 O2.out ho3 hg3
  have s3 : w.heap.size ≤ w3.heap.size := O3.out.2.2
  have m3 : ((([123] ++ Lib.itoa least) ++ [125])).length ≤ 100 := by simp only [List.length_append, List.length_cons, List.length_nil]; omega
  clear ho3 hg3 hx3
  have E : (([123] ++ Lib.itoa least) ++ [125]) = quant least most false := by
    unfold quant mid tailQ
    rw [if_neg (by omega), if_neg (by omega)]
    simp
  have HF : Hid (Own w.heap.size w w3 v3 (quant least most false)) := by rw [← E]; exact O3.out
  clear E
  go_wp2
  go_ret
  exact ⟨_, rfl, HF.out⟩

end Go.Proofs.Qxb6002344aDoor.App
