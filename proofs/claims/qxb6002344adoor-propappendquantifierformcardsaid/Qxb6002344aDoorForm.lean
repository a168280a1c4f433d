/- THE LAW PropAppendQuantifierForm (seat b6002344aD). -/
import Derived.Test.Qxb6002344aDoorQuant
import Derived.Test.Qxb6002344aDoorBytes
import Derived.Deep.AppendLies
set_option linter.unusedVariables false
set_option linter.unusedSimpArgs false
namespace Go.Proofs.Qxb6002344aDoor.App
open Go.RowKit

theorem quant_any (least most : Int) (lazy : Bool) (ha0 : -9223372036854775808 ≤ least) (ha1 : least ≤ 9223372036854775807) (hb0 : -9223372036854775808 ≤ most) (hb1 : most ≤ 9223372036854775807) (w : World) (htab : Tab w) :
    Calls Tryd.prog 13 #[.slice none 0 0, .int .i64 least, .int .i64 most, .bool lazy] w fun e w' => ∃ v', e = .returned v' ∧ Own w.heap.size w w' v' (quant least most lazy) := by
  by_cases h1 : most < 0
  · cases lazy
    · exact quant_neg_n least most ha0 ha1 hb0 hb1 h1 w htab
    · exact quant_neg_l least most ha0 ha1 hb0 hb1 h1 w htab
  · by_cases h2 : least < most
    · cases lazy
      · exact quant_mid_n least most ha0 ha1 hb0 hb1 h1 h2 w htab
      · exact quant_mid_l least most ha0 ha1 hb0 hb1 h1 h2 w htab
    · cases lazy
      · exact quant_one_n least most ha0 ha1 hb0 hb1 h1 h2 w htab
      · exact quant_one_l least most ha0 ha1 hb0 hb1 h1 h2 w htab

/-- Block g of the world holds the bytes l (n of them), the slice at its head, capacity c. -/
def Hold (w : World) (g n c : Nat) (l : List UInt8) : Prop := n = l.length ∧ w.ownsRow 0 5 1 (.slice (some ⟨g, 0, none⟩) n c) n (Lib.byteCells l)

theorem own_hold {B : Nat} {w wr : World} {v : Value} {l : List UInt8} (h : Own B w wr v l) (h0 : l ≠ []) : ∃ g n c, v = .slice (some ⟨g, 0, none⟩) n c ∧ Hold wr g n c l ∧ B ≤ g ∧ g < wr.heap.size := by
  obtain ⟨⟨h1, ⟨_, h2⟩ | ⟨g, cap, cur, hv, hg1, hg2, h3⟩⟩, _, _⟩ := h
  · exact absurd (List.eq_nil_of_length_eq_zero h2) h0
  · exact ⟨g, l.length, cap, hv, ⟨rfl, h1, .inr ⟨g, cap, cur, rfl, Nat.zero_le _, hg2, h3⟩⟩, hg1, (Array.getElem?_eq_some_iff.1 hg2).1⟩
theorem Hold.later {w w' : World} {g n c : Nat} {l : List UInt8} (h : Hold w g n c l) (hg : g < w.heap.size) (hb : Below w.heap.size w w') : Hold w' g n c l := ⟨h.1, owns_later h.2 hb⟩
theorem Hold.kept {w w' : World} {g n c g' : Nat} {l : List UInt8} (h : Hold w g n c l) (hgr : w.grownBy w' (some g')) (hne : g ≠ g') : Hold w' g n c l :=
  ⟨h.1, World.ownsRow.kept h.2 hgr (.inr (by simp [Value.ownBlock]; exact hne))⟩
theorem Hold.alloc {w : World} {g n c : Nat} {l : List UInt8} (h : Hold w g n c l) (o : Obj) : Hold (w.alloc o) g n c l := ⟨h.1, World.ownsRow.alloc h.2 o⟩
theorem add0 (g j : Nat) : (⟨g, 0, none⟩ : Addr).add j = ⟨g, 0 + j, none⟩ := by
  unfold Addr.add; split <;> simp_all
theorem Hold.cells {w : World} {g n c : Nat} {l : List UInt8} (h : Hold w g n c l) : ∀ j, j < n → w.cell? ⟨g, 0 + j, none⟩ = some (.int .u8 ((l.getD j 0).toNat : Int)) := by
  intro j hj
  have hj' : j < l.length := by rw [← h.1]; exact hj
  have := World.ownsRow.cells h.2 (g := g) rfl j (.int .u8 ((l.getD j 0).toNat : Int)) (by
    unfold Lib.byteCells
    rw [List.getElem?_map, List.getElem?_eq_getElem hj', List.getD_eq_getElem?_getD, List.getElem?_eq_getElem hj']; rfl)
  rwa [add0] at this

theorem own_lit (W : World) (c : UInt8) : Own W.heap.size W (W.alloc (.cells #[.int .u8 (c.toNat : Int)] 5)) (.slice (some ⟨W.heap.size, 0, none⟩) 1 1) [c] := by
  refine ⟨⟨rfl, .inr ⟨W.heap.size, 1, _, rfl, Nat.le_refl _, Go.Deep.blk_alloc_new _ _, Nat.le_refl _, by unfold maxLen; decide, rfl, rfl⟩⟩, (Below.refl _ _).alloc (Nat.le_refl _) _, by simp⟩

theorem push_two {B : Nat} {w wr w1 : World} {v v' : Value} {l : List UInt8} {o : Obj} (c d : UInt8) (h : Own B w wr v l) (ho : w1.ownsRow B 5 1 v' (l.length + 2) (Lib.byteCells l ++ [.int .u8 (c.toNat : Int), .int .u8 (d.toNat : Int)])) (hg : (wr.alloc o).grownBy w1 v.ownBlock) : Own B w w1 v' (l ++ [c, d]) := by
  obtain ⟨h1, h2, h3⟩ := h
  have hb : Below B w w1 := (h2.alloc h3 o).grown hg (by rw [World.size_alloc]; omega) (fun k hk => (h1.lt k hk).1)
  refine ⟨?_, hb, ?_⟩
  · have e1 : (l ++ [c, d]).length = l.length + 2 := by simp
    have e2 : Lib.byteCells (l ++ [c, d]) = Lib.byteCells l ++ [.int .u8 (c.toNat : Int), .int .u8 (d.toNat : Int)] := by simp [Lib.byteCells]
    rw [e1, e2]; exact ho
  · have := hg.size
    rw [World.size_alloc] at this
    omega
theorem two_one (y z : Int) : ∀ u ∈ ([.int .u8 y, .int .u8 z] : List Value), u.oneCell' = true := by
  intro u hu
  simp at hu
  rcases hu with rfl | rfl <;> rfl

/-- The three forms. -/
def form1 (least : Int) : List UInt8 := [123] ++ Lib.itoa least ++ [125]
def form2 (least : Int) : List UInt8 := [123] ++ Lib.itoa least ++ [44, 125]
def form3 (least most : Int) : List UInt8 := [123] ++ Lib.itoa least ++ [44] ++ Lib.itoa most ++ [125]
def tl (lazy : Bool) : List UInt8 := if lazy then [63] else []

theorem forms (least most : Int) (lazy : Bool) : quant least most lazy = form1 least ++ tl lazy ∨ quant least most lazy = form2 least ++ tl lazy ∨ quant least most lazy = form3 least most ++ tl lazy := by
  unfold quant mid tailQ form1 form2 form3 tl
  by_cases h1 : most < 0
  · rw [if_pos h1]; right; left; cases lazy <;> simp
  · rw [if_neg h1]
    by_cases h2 : least < most
    · rw [if_pos h2]; right; right; cases lazy <;> simp
    · rw [if_neg h2]; left; cases lazy <;> simp

theorem quant_nlz (least most : Int) (lazy : Bool) : nlz false (quant least most lazy) = true := by
  have ht : headDig (tailQ lazy) = false ∧ ∀ p, nlz p (tailQ lazy) = true := by cases lazy <;> exact ⟨by decide, by decide⟩
  unfold quant mid
  rw [List.append_assoc, List.append_assoc, List.singleton_append, nlz_non (by decide)]
  split
  · rw [nlz_itoa _ _ (by rfl), List.singleton_append, nlz_non (by decide)]; exact ht.2 false
  · split
    · rw [nlz_itoa _ _ (by rfl), List.cons_append, nlz_non (by decide), nlz_itoa _ _ ht.1]; exact ht.2 true
    · rw [List.nil_append, nlz_itoa _ _ ht.1]; exact ht.2 true

theorem quant_len (least most : Int) (lazy : Bool) (ha0 : -9223372036854775808 ≤ least) (ha1 : least ≤ 9223372036854775807) (hb0 : -9223372036854775808 ≤ most) (hb1 : most ≤ 9223372036854775807) : (quant least most lazy).length ≤ 100 ∧ quant least most lazy ≠ [] := by
  have la := Lib.itoa_length_le least ha0 ha1
  have lb := Lib.itoa_length_le most hb0 hb1
  refine ⟨?_, by simp [quant]⟩
  unfold quant mid tailQ
  split
  · cases lazy <;> simp <;> omega
  · split
    · cases lazy <;> simp <;> omega
    · cases lazy <;> simp <;> omega
theorem forms_len (least most : Int) (ha0 : -9223372036854775808 ≤ least) (ha1 : least ≤ 9223372036854775807) (hb0 : -9223372036854775808 ≤ most) (hb1 : most ≤ 9223372036854775807) : (form1 least).length ≤ 100 ∧ (form2 least).length ≤ 100 ∧ (form3 least most).length ≤ 100 := by
  have la := Lib.itoa_length_le least ha0 ha1
  have lb := Lib.itoa_length_le most hb0 hb1
  refine ⟨?_, ?_, ?_⟩
  · unfold form1; simp; omega
  · unfold form2; simp; omega
  · unfold form3; simp; omega

theorem info5p : ∃ i0, Tryd.prog.info? 5 = some i0 ∧ i0.zero = some (.int .u8 0) ∧ i0.size = 1 ∧ i0.bytes = 1 := info_parts info5

theorem pushed {wr w1 : World} {g n c g' c' H : Nat} {l : List UInt8} {o : Obj} (h : Hold wr g n c l) (ho : w1.ownsRow 0 5 1 (.slice (some ⟨g', 0, none⟩) (n + 1) c') (n + 1) (Lib.byteCells l ++ [.int .u8 63])) (hat : (Value.slice (some ⟨g, 0, none⟩) n c).ownBlock = some g' ∨ g' = H) :
    Hold w1 g' (n + 1) c' (l ++ [63]) ∧ (g' = g ∨ g' = H) := by
  refine ⟨⟨by rw [List.length_append, ← h.1]; rfl, ?_⟩, ?_⟩
  · have e : Lib.byteCells (l ++ [63]) = Lib.byteCells l ++ [.int .u8 63] := by simp [Lib.byteCells]
    rw [e]; exact ho
  · rcases hat with hat | hat
    · left
      have : some g = some g' := hat
      exact (Option.some.inj this).symm
    · exact .inr hat

set_option maxRecDepth 100000 in
set_option maxHeartbeats 4000000 in
theorem law3_n (least most : Int) (ha0 : -9223372036854775808 ≤ least) (ha1 : least ≤ 9223372036854775807) (hb0 : -9223372036854775808 ≤ most) (hb1 : most ≤ 9223372036854775807) (w : World) (htab : Tab w) :
    Calls Tryd.prog 3 #[.int .i64 least, .int .i64 most, .bool false] w fun e w' => e = .returned (.bool true) ∧ Below w.heap.size w w' := by
  have C13 : Hid (Calls Tryd.prog 13 #[.slice none 0 0, .int .i64 least, .int .i64 most, .bool false] w fun e w' => ∃ v', e = .returned v' ∧ Own w.heap.size w w' v' (quant least most false)) := quant_any least most false ha0 ha1 hb0 hb1 w htab
  have la := Lib.itoa_length_le least ha0 ha1
  have lb := Lib.itoa_length_le most hb0 hb1
  obtain ⟨qlen, qne⟩ := quant_len least most false ha0 ha1 hb0 hb1
  have HQne : Hid (quant least most false ≠ []) := qne
  have HQn : Hid (nlz false (quant least most false) = true) := quant_nlz least most false
  have HF : Hid (quant least most false = form1 least ++ tl false ∨ quant least most false = form2 least ++ tl false ∨ quant least most false = form3 least most ++ tl false) := forms least most false
  obtain ⟨f1, f2, f3⟩ := forms_len least most ha0 ha1 hb0 hb1
  clear htab qne
  obtain ⟨i0, hi⟩ := info5p
  have HI : Hid (Tryd.prog.info? 5 = some i0 ∧ i0.zero = some (.int .u8 0) ∧ i0.size = 1 ∧ i0.bytes = 1) := hi
  clear hi
  generalize quant least most false = Q at C13 qlen HQne HQn HF
  go_enter Tryd.func3, Tryd.ntmps3
  go_wp2_with (go_at_call 5; go_in)
  refine C13.out.mono ?_
  rintro e W1 ⟨vq, rfl, oq⟩
  obtain ⟨gq, nq, cq, rfl, hq, _, lq⟩ := own_hold oq HQne.out
  have Bq : Hid (Below w.heap.size w W1) := oq.2.1
  have bq : nq ≤ 100 := by rw [hq.1]; exact qlen
  have Hq : Hid (Hold W1 gq nq cq Q) := hq
  clear oq hq C13 qlen
  have O1 : Hid (Own W1.heap.size W1 (W1.alloc (.cells #[.int .u8 123] 5)) (.slice (some ⟨W1.heap.size, 0, none⟩) 1 1) [123]) := own_lit W1 123
  go_wp2_with fail
  refine (appInt W1.heap.size _ least ha0 ha1 _ _ _ O1.out.1 O1.out.2.2 (by simp only [List.length_append, List.length_cons, List.length_nil]; omega)).mono ?_
  rintro e x2 ⟨v2, rfl, ho2, hb2⟩
  have O2 : Hid (Own W1.heap.size W1 x2 v2 ([123] ++ Lib.itoa least)) := push_list O1.out ho2 hb2
  have s2 : W1.heap.size ≤ x2.heap.size := O2.out.2.2
  have m2 : ([123] ++ Lib.itoa least).length ≤ 100 := by simp only [List.length_append, List.length_cons, List.length_nil]; omega
  clear ho2 hb2
  go_wp2_with (at_builtin; refine wpList_append_own _ rfl (.tmp 18) (.tmp 19) 22 rfl W1.heap.size 5 i0 (.int .u8 0) 1 1 Tryd.underlying22 HI.out.1 HI.out.2.1 HI.out.2.2.1 HI.out.2.2.2 rfl (by decide) _ _ _ rfl (O2.out.1.alloc _) ⟨x2.heap.size, 0, none⟩ 1 1 [.int .u8 125] rfl rfl (cell_one _ _ _) (one_one _) (by unfold maxLen; omega) (by omega) (by rw [World.size_alloc]; omega) ?_; intro v3 x3 ho3 hg3 hx3; refine Hid.out ?_)
  refine Lib.hid ?_
  have O3 : Hid (Own W1.heap.size W1 x3 v3 (([123] ++ Lib.itoa least) ++ [125])) := push_one 125 O2.out ho3 hg3
  have s3 : W1.heap.size ≤ x3.heap.size := O3.out.2.2
  have m3 : (([123] ++ Lib.itoa least) ++ [125]).length ≤ 100 := by simp only [List.length_append, List.length_cons, List.length_nil]; omega
  clear ho3 hg3 hx3
  obtain ⟨g1, n1, c1, rfl, h1, l1, u1⟩ := own_hold O3.out (by simp)
  have b1 : n1 ≤ 100 := by rw [h1.1]; exact f1
  have H1 : Hid (Hold x3 g1 n1 c1 (form1 least)) := h1
  have B1 : Hid (Below W1.heap.size W1 x3) := O3.out.2.1
  clear h1 O1 O2 O3 s2 s3 m2 m3
  have O4 : Hid (Own x3.heap.size x3 (x3.alloc (.cells #[.int .u8 123] 5)) (.slice (some ⟨x3.heap.size, 0, none⟩) 1 1) [123]) := own_lit x3 123
  go_wp2_with fail
  refine (appInt x3.heap.size _ least ha0 ha1 _ _ _ O4.out.1 O4.out.2.2 (by simp only [List.length_append, List.length_cons, List.length_nil]; omega)).mono ?_
  rintro e x5 ⟨v5, rfl, ho5, hb5⟩
  have O5 : Hid (Own x3.heap.size x3 x5 v5 ([123] ++ Lib.itoa least)) := push_list O4.out ho5 hb5
  have s5 : x3.heap.size ≤ x5.heap.size := O5.out.2.2
  have m5 : ([123] ++ Lib.itoa least).length ≤ 100 := by simp only [List.length_append, List.length_cons, List.length_nil]; omega
  clear ho5 hb5
  go_wp2_with (at_builtin; refine wpList_append_own _ rfl (.tmp 23) (.tmp 24) 22 rfl x3.heap.size 5 i0 (.int .u8 0) 1 1 Tryd.underlying22 HI.out.1 HI.out.2.1 HI.out.2.2.1 HI.out.2.2.2 rfl (by decide) _ _ _ rfl (O5.out.1.alloc _) ⟨x5.heap.size, 0, none⟩ 2 2 [.int .u8 44, .int .u8 125] rfl rfl (cell_two_new _ _ _ _) (two_one _ _) (by unfold maxLen; omega) (by omega) (by rw [World.size_alloc]; omega) ?_; intro v6 x6 ho6 hg6 hx6; refine Hid.out ?_)
  refine Lib.hid ?_
  have O6 : Hid (Own x3.heap.size x3 x6 v6 (([123] ++ Lib.itoa least) ++ [44, 125])) := push_two 44 125 O5.out ho6 hg6
  clear ho6 hg6 hx6
  obtain ⟨g2, n2, c2, rfl, h2, l2, u2⟩ := own_hold O6.out (by simp)
  have b2 : n2 ≤ 100 := by rw [h2.1]; exact f2
  have H2 : Hid (Hold x6 g2 n2 c2 (form2 least)) := h2
  have B2 : Hid (Below x3.heap.size x3 x6) := O6.out.2.1
  have s6 : x3.heap.size ≤ x6.heap.size := O6.out.2.2
  clear h2 O4 O5 O6 s5 m5
  have O7 : Hid (Own x6.heap.size x6 (x6.alloc (.cells #[.int .u8 123] 5)) (.slice (some ⟨x6.heap.size, 0, none⟩) 1 1) [123]) := own_lit x6 123
  go_wp2_with fail
  refine (appInt x6.heap.size _ least ha0 ha1 _ _ _ O7.out.1 O7.out.2.2 (by simp only [List.length_append, List.length_cons, List.length_nil]; omega)).mono ?_
  rintro e x8 ⟨v8, rfl, ho8, hb8⟩
  have O8 : Hid (Own x6.heap.size x6 x8 v8 ([123] ++ Lib.itoa least)) := push_list O7.out ho8 hb8
  have s8 : x6.heap.size ≤ x8.heap.size := O8.out.2.2
  have m8 : ([123] ++ Lib.itoa least).length ≤ 100 := by simp only [List.length_append, List.length_cons, List.length_nil]; omega
  clear ho8 hb8
  go_wp2_with (at_builtin; refine wpList_append_own _ rfl (.tmp 28) (.tmp 29) 22 rfl x6.heap.size 5 i0 (.int .u8 0) 1 1 Tryd.underlying22 HI.out.1 HI.out.2.1 HI.out.2.2.1 HI.out.2.2.2 rfl (by decide) _ _ _ rfl (O8.out.1.alloc _) ⟨x8.heap.size, 0, none⟩ 1 1 [.int .u8 44] rfl rfl (cell_one _ _ _) (one_one _) (by unfold maxLen; omega) (by omega) (by rw [World.size_alloc]; omega) ?_; intro v9 x9 ho9 hg9 hx9; refine Hid.out ?_)
  refine Lib.hid ?_
  have O9 : Hid (Own x6.heap.size x6 x9 v9 (([123] ++ Lib.itoa least) ++ [44])) := push_one 44 O8.out ho9 hg9
  have s9 : x6.heap.size ≤ x9.heap.size := O9.out.2.2
  have m9 : (([123] ++ Lib.itoa least) ++ [44]).length ≤ 100 := by simp only [List.length_append, List.length_cons, List.length_nil]; omega
  clear ho9 hg9 hx9
  go_wp2_with fail
  refine (appInt x6.heap.size _ most hb0 hb1 _ _ _ O9.out.1 O9.out.2.2 (by simp only [List.length_append, List.length_cons, List.length_nil]; omega)).mono ?_
  rintro e x10 ⟨v10, rfl, ho10, hb10⟩
  have O10 : Hid (Own x6.heap.size x6 x10 v10 (([123] ++ Lib.itoa least ++ [44]) ++ Lib.itoa most)) := push_list O9.out ho10 hb10
  have s10 : x6.heap.size ≤ x10.heap.size := O10.out.2.2
  have m10 : (([123] ++ Lib.itoa least ++ [44]) ++ Lib.itoa most).length ≤ 100 := by simp only [List.length_append, List.length_cons, List.length_nil]; omega
  clear ho10 hb10
  go_wp2_with (at_builtin; refine wpList_append_own _ rfl (.tmp 32) (.tmp 33) 22 rfl x6.heap.size 5 i0 (.int .u8 0) 1 1 Tryd.underlying22 HI.out.1 HI.out.2.1 HI.out.2.2.1 HI.out.2.2.2 rfl (by decide) _ _ _ rfl (O10.out.1.alloc _) ⟨x10.heap.size, 0, none⟩ 1 1 [.int .u8 125] rfl rfl (cell_one _ _ _) (one_one _) (by unfold maxLen; omega) (by omega) (by rw [World.size_alloc]; omega) ?_; intro v11 x11 ho11 hg11 hx11; refine Hid.out ?_)
  refine Lib.hid ?_
  have O11 : Hid (Own x6.heap.size x6 x11 v11 (([123] ++ Lib.itoa least ++ [44] ++ Lib.itoa most) ++ [125])) := push_one 125 O10.out ho11 hg11
  have s11 : x6.heap.size ≤ x11.heap.size := O11.out.2.2
  have m11 : (([123] ++ Lib.itoa least ++ [44] ++ Lib.itoa most) ++ [125]).length ≤ 100 := by simp only [List.length_append, List.length_cons, List.length_nil]; omega
  clear ho11 hg11 hx11
  obtain ⟨g3, n3, c3, rfl, h3, l3, u3⟩ := own_hold O11.out (by simp)
  have b3 : n3 ≤ 100 := by rw [h3.1]; exact f3
  have H3 : Hid (Hold x11 g3 n3 c3 (form3 least most)) := h3
  have B3 : Hid (Below x6.heap.size x6 x11) := O11.out.2.1
  have s11' : x6.heap.size ≤ x11.heap.size := O11.out.2.2
  clear h3 O7 O8 O9 O10 O11 s8 s9 s10 s11 m8 m9 m10 m11
  have z1 : W1.heap.size ≤ x3.heap.size := B1.out.size
  have P1 : Hid (Hold x11 g1 n1 c1 (form1 least)) := (H1.out.later u1 B2.out).later (by omega) B3.out
  have P2 : Hid (Hold x11 g2 n2 c2 (form2 least)) := H2.out.later u2 B3.out
  have Pq : Hid (Hold x11 gq nq cq Q) := ((Hq.out.later lq B1.out).later (by omega) B2.out).later (by omega) B3.out
  have BA : Hid (Below w.heap.size w x11) := Bq.out.trans (((B1.out.mono Bq.out.size).trans ((B2.out.mono (Nat.le_trans Bq.out.size z1)).trans (B3.out.mono (Nat.le_trans Bq.out.size (Nat.le_trans z1 s6))))))
  have z0 : w.heap.size ≤ W1.heap.size := Bq.out.size
  clear B1 B2 B3 Bq H1 H2 Hq
  clear f1 f2 f3
  generalize form1 least = F1 at P1 HF
  generalize form2 least = F2 at P2 HF
  generalize form3 least most = F3 at H3 HF
  have HF2 : Q = F1 ∨ Q = F2 ∨ Q = F3 := by have := HF.out; simpa [tl] using this
  clear HF
  have HF : Hid (Q = F1 ∨ Q = F2 ∨ Q = F3) := HF2
  clear HF2
  have Kq : Hid (Hold x11 gq nq cq Q) := Pq
  have K1 : Hid (Hold x11 g1 n1 c1 F1) := P1
  have K2 : Hid (Hold x11 g2 n2 c2 F2) := P2
  have K3 : Hid (Hold x11 g3 n3 c3 F3) := H3
  have BZ : Hid (Below w.heap.size w x11) := BA
  go_wp2_with fail
  refine (eqB_any gq 0 cq g1 0 c1 nq n1 Q F1 _ (by omega) (by omega) Kq.out.1 K1.out.1 (by exact fun j hj => Kq.out.cells j hj) (by exact fun j hj => K1.out.cells j hj)).mono ?_
  rintro e z1 ⟨⟨r1, rfl, hr1⟩, q1, rfl⟩
  have R1 : Hid (Q = F1 → r1 = true) := hr1
  clear hr1
  cases r1
  · go_wp2_with fail
    refine (eqB_any gq 0 cq g2 0 c2 nq n2 Q F2 _ (by omega) (by omega) Kq.out.1 K2.out.1 (by exact fun j hj => Kq.out.cells j hj) (by exact fun j hj => K2.out.cells j hj)).mono ?_
    rintro e z2 ⟨⟨r2, rfl, hr2⟩, q2, rfl⟩
    have R2 : Hid (Q = F2 → r2 = true) := hr2
    clear hr2
    cases r2
    · go_wp2_with fail
      refine (eqB_any gq 0 cq g3 0 c3 nq n3 Q F3 _ (by omega) (by omega) Kq.out.1 K3.out.1 (by exact fun j hj => Kq.out.cells j hj) (by exact fun j hj => K3.out.cells j hj)).mono ?_
      rintro e z3 ⟨⟨r3, rfl, hr3⟩, q3, rfl⟩
      have R3 : Hid (Q = F3 → r3 = true) := hr3
      clear hr3
      cases r3
      · exfalso
        rcases HF.out with h | h | h
        · exact absurd (R1.out h) (by simp)
        · exact absurd (R2.out h) (by simp)
        · exact absurd (R3.out h) (by simp)
      · go_wp2_with fail
        refine (nlz_any gq 0 cq nq Q _ (by omega) Kq.out.1 HQn.out (by exact fun j hj => Kq.out.cells j hj)).mono ?_
        rintro e z9 ⟨rfl, rfl⟩
        go_wp2
        go_ret
        exact ⟨rfl, BZ.out.trans ⟨rfl, rfl, rfl, Nat.le_refl _, fun _ _ => rfl⟩⟩
    · go_wp2_with fail
      refine (nlz_any gq 0 cq nq Q _ (by omega) Kq.out.1 HQn.out (by exact fun j hj => Kq.out.cells j hj)).mono ?_
      rintro e z9 ⟨rfl, rfl⟩
      go_wp2
      go_ret
      exact ⟨rfl, BZ.out.trans ⟨rfl, rfl, rfl, Nat.le_refl _, fun _ _ => rfl⟩⟩
  · go_wp2_with fail
    refine (nlz_any gq 0 cq nq Q _ (by omega) Kq.out.1 HQn.out (by exact fun j hj => Kq.out.cells j hj)).mono ?_
    rintro e z9 ⟨rfl, rfl⟩
    go_wp2
    go_ret
    exact ⟨rfl, BZ.out.trans ⟨rfl, rfl, rfl, Nat.le_refl _, fun _ _ => rfl⟩⟩

set_option maxRecDepth 100000 in
set_option maxHeartbeats 4000000 in
theorem law3_l (least most : Int) (ha0 : -9223372036854775808 ≤ least) (ha1 : least ≤ 9223372036854775807) (hb0 : -9223372036854775808 ≤ most) (hb1 : most ≤ 9223372036854775807) (w : World) (htab : Tab w) :
    Calls Tryd.prog 3 #[.int .i64 least, .int .i64 most, .bool true] w fun e w' => e = .returned (.bool true) ∧ Below w.heap.size w w' := by
  have C13 : Hid (Calls Tryd.prog 13 #[.slice none 0 0, .int .i64 least, .int .i64 most, .bool true] w fun e w' => ∃ v', e = .returned v' ∧ Own w.heap.size w w' v' (quant least most true)) := quant_any least most true ha0 ha1 hb0 hb1 w htab
  have la := Lib.itoa_length_le least ha0 ha1
  have lb := Lib.itoa_length_le most hb0 hb1
  obtain ⟨qlen, qne⟩ := quant_len least most true ha0 ha1 hb0 hb1
  have HQne : Hid (quant least most true ≠ []) := qne
  have HQn : Hid (nlz false (quant least most true) = true) := quant_nlz least most true
  have HF : Hid (quant least most true = form1 least ++ tl true ∨ quant least most true = form2 least ++ tl true ∨ quant least most true = form3 least most ++ tl true) := forms least most true
  obtain ⟨f1, f2, f3⟩ := forms_len least most ha0 ha1 hb0 hb1
  clear htab qne
  obtain ⟨i0, hi⟩ := info5p
  have HI : Hid (Tryd.prog.info? 5 = some i0 ∧ i0.zero = some (.int .u8 0) ∧ i0.size = 1 ∧ i0.bytes = 1) := hi
  clear hi
  generalize quant least most true = Q at C13 qlen HQne HQn HF
  go_enter Tryd.func3, Tryd.ntmps3
  go_wp2_with (go_at_call 5; go_in)
  refine C13.out.mono ?_
  rintro e W1 ⟨vq, rfl, oq⟩
  obtain ⟨gq, nq, cq, rfl, hq, _, lq⟩ := own_hold oq HQne.out
  have Bq : Hid (Below w.heap.size w W1) := oq.2.1
  have bq : nq ≤ 100 := by rw [hq.1]; exact qlen
  have Hq : Hid (Hold W1 gq nq cq Q) := hq
  clear oq hq C13 qlen
  have O1 : Hid (Own W1.heap.size W1 (W1.alloc (.cells #[.int .u8 123] 5)) (.slice (some ⟨W1.heap.size, 0, none⟩) 1 1) [123]) := own_lit W1 123
  go_wp2_with fail
  refine (appInt W1.heap.size _ least ha0 ha1 _ _ _ O1.out.1 O1.out.2.2 (by simp only [List.length_append, List.length_cons, List.length_nil]; omega)).mono ?_
  rintro e x2 ⟨v2, rfl, ho2, hb2⟩
  have O2 : Hid (Own W1.heap.size W1 x2 v2 ([123] ++ Lib.itoa least)) := push_list O1.out ho2 hb2
  have s2 : W1.heap.size ≤ x2.heap.size := O2.out.2.2
  have m2 : ([123] ++ Lib.itoa least).length ≤ 100 := by simp only [List.length_append, List.length_cons, List.length_nil]; omega
  clear ho2 hb2
  go_wp2_with (at_builtin; refine wpList_append_own _ rfl (.tmp 18) (.tmp 19) 22 rfl W1.heap.size 5 i0 (.int .u8 0) 1 1 Tryd.underlying22 HI.out.1 HI.out.2.1 HI.out.2.2.1 HI.out.2.2.2 rfl (by decide) _ _ _ rfl (O2.out.1.alloc _) ⟨x2.heap.size, 0, none⟩ 1 1 [.int .u8 125] rfl rfl (cell_one _ _ _) (one_one _) (by unfold maxLen; omega) (by omega) (by rw [World.size_alloc]; omega) ?_; intro v3 x3 ho3 hg3 hx3; refine Hid.out ?_)
  refine Lib.hid ?_
  have O3 : Hid (Own W1.heap.size W1 x3 v3 (([123] ++ Lib.itoa least) ++ [125])) := push_one 125 O2.out ho3 hg3
  have s3 : W1.heap.size ≤ x3.heap.size := O3.out.2.2
  have m3 : (([123] ++ Lib.itoa least) ++ [125]).length ≤ 100 := by simp only [List.length_append, List.length_cons, List.length_nil]; omega
  clear ho3 hg3 hx3
  obtain ⟨g1, n1, c1, rfl, h1, l1, u1⟩ := own_hold O3.out (by simp)
  have b1 : n1 ≤ 100 := by rw [h1.1]; exact f1
  have H1 : Hid (Hold x3 g1 n1 c1 (form1 least)) := h1
  have B1 : Hid (Below W1.heap.size W1 x3) := O3.out.2.1
  clear h1 O1 O2 O3 s2 s3 m2 m3
  have O4 : Hid (Own x3.heap.size x3 (x3.alloc (.cells #[.int .u8 123] 5)) (.slice (some ⟨x3.heap.size, 0, none⟩) 1 1) [123]) := own_lit x3 123
  go_wp2_with fail
  refine (appInt x3.heap.size _ least ha0 ha1 _ _ _ O4.out.1 O4.out.2.2 (by simp only [List.length_append, List.length_cons, List.length_nil]; omega)).mono ?_
  rintro e x5 ⟨v5, rfl, ho5, hb5⟩
  have O5 : Hid (Own x3.heap.size x3 x5 v5 ([123] ++ Lib.itoa least)) := push_list O4.out ho5 hb5
  have s5 : x3.heap.size ≤ x5.heap.size := O5.out.2.2
  have m5 : ([123] ++ Lib.itoa least).length ≤ 100 := by simp only [List.length_append, List.length_cons, List.length_nil]; omega
  clear ho5 hb5
  go_wp2_with (at_builtin; refine wpList_append_own _ rfl (.tmp 23) (.tmp 24) 22 rfl x3.heap.size 5 i0 (.int .u8 0) 1 1 Tryd.underlying22 HI.out.1 HI.out.2.1 HI.out.2.2.1 HI.out.2.2.2 rfl (by decide) _ _ _ rfl (O5.out.1.alloc _) ⟨x5.heap.size, 0, none⟩ 2 2 [.int .u8 44, .int .u8 125] rfl rfl (cell_two_new _ _ _ _) (two_one _ _) (by unfold maxLen; omega) (by omega) (by rw [World.size_alloc]; omega) ?_; intro v6 x6 ho6 hg6 hx6; refine Hid.out ?_)
  refine Lib.hid ?_
  have O6 : Hid (Own x3.heap.size x3 x6 v6 (([123] ++ Lib.itoa least) ++ [44, 125])) := push_two 44 125 O5.out ho6 hg6
  clear ho6 hg6 hx6
  obtain ⟨g2, n2, c2, rfl, h2, l2, u2⟩ := own_hold O6.out (by simp)
  have b2 : n2 ≤ 100 := by rw [h2.1]; exact f2
  have H2 : Hid (Hold x6 g2 n2 c2 (form2 least)) := h2
  have B2 : Hid (Below x3.heap.size x3 x6) := O6.out.2.1
  have s6 : x3.heap.size ≤ x6.heap.size := O6.out.2.2
  clear h2 O4 O5 O6 s5 m5
  have O7 : Hid (Own x6.heap.size x6 (x6.alloc (.cells #[.int .u8 123] 5)) (.slice (some ⟨x6.heap.size, 0, none⟩) 1 1) [123]) := own_lit x6 123
  go_wp2_with fail
  refine (appInt x6.heap.size _ least ha0 ha1 _ _ _ O7.out.1 O7.out.2.2 (by simp only [List.length_append, List.length_cons, List.length_nil]; omega)).mono ?_
  rintro e x8 ⟨v8, rfl, ho8, hb8⟩
  have O8 : Hid (Own x6.heap.size x6 x8 v8 ([123] ++ Lib.itoa least)) := push_list O7.out ho8 hb8
  have s8 : x6.heap.size ≤ x8.heap.size := O8.out.2.2
  have m8 : ([123] ++ Lib.itoa least).length ≤ 100 := by simp only [List.length_append, List.length_cons, List.length_nil]; omega
  clear ho8 hb8
  go_wp2_with (at_builtin; refine wpList_append_own _ rfl (.tmp 28) (.tmp 29) 22 rfl x6.heap.size 5 i0 (.int .u8 0) 1 1 Tryd.underlying22 HI.out.1 HI.out.2.1 HI.out.2.2.1 HI.out.2.2.2 rfl (by decide) _ _ _ rfl (O8.out.1.alloc _) ⟨x8.heap.size, 0, none⟩ 1 1 [.int .u8 44] rfl rfl (cell_one _ _ _) (one_one _) (by unfold maxLen; omega) (by omega) (by rw [World.size_alloc]; omega) ?_; intro v9 x9 ho9 hg9 hx9; refine Hid.out ?_)
  refine Lib.hid ?_
  have O9 : Hid (Own x6.heap.size x6 x9 v9 (([123] ++ Lib.itoa least) ++ [44])) := push_one 44 O8.out ho9 hg9
  have s9 : x6.heap.size ≤ x9.heap.size := O9.out.2.2
  have m9 : (([123] ++ Lib.itoa least) ++ [44]).length ≤ 100 := by simp only [List.length_append, List.length_cons, List.length_nil]; omega
  clear ho9 hg9 hx9
  go_wp2_with fail
  refine (appInt x6.heap.size _ most hb0 hb1 _ _ _ O9.out.1 O9.out.2.2 (by simp only [List.length_append, List.length_cons, List.length_nil]; omega)).mono ?_
  rintro e x10 ⟨v10, rfl, ho10, hb10⟩
  have O10 : Hid (Own x6.heap.size x6 x10 v10 (([123] ++ Lib.itoa least ++ [44]) ++ Lib.itoa most)) := push_list O9.out ho10 hb10
  have s10 : x6.heap.size ≤ x10.heap.size := O10.out.2.2
  have m10 : (([123] ++ Lib.itoa least ++ [44]) ++ Lib.itoa most).length ≤ 100 := by simp only [List.length_append, List.length_cons, List.length_nil]; omega
  clear ho10 hb10
  go_wp2_with (at_builtin; refine wpList_append_own _ rfl (.tmp 32) (.tmp 33) 22 rfl x6.heap.size 5 i0 (.int .u8 0) 1 1 Tryd.underlying22 HI.out.1 HI.out.2.1 HI.out.2.2.1 HI.out.2.2.2 rfl (by decide) _ _ _ rfl (O10.out.1.alloc _) ⟨x10.heap.size, 0, none⟩ 1 1 [.int .u8 125] rfl rfl (cell_one _ _ _) (one_one _) (by unfold maxLen; omega) (by omega) (by rw [World.size_alloc]; omega) ?_; intro v11 x11 ho11 hg11 hx11; refine Hid.out ?_)
  refine Lib.hid ?_
  have O11 : Hid (Own x6.heap.size x6 x11 v11 (([123] ++ Lib.itoa least ++ [44] ++ Lib.itoa most) ++ [125])) := push_one 125 O10.out ho11 hg11
  have s11 : x6.heap.size ≤ x11.heap.size := O11.out.2.2
  have m11 : (([123] ++ Lib.itoa least ++ [44] ++ Lib.itoa most) ++ [125]).length ≤ 100 := by simp only [List.length_append, List.length_cons, List.length_nil]; omega
  clear ho11 hg11 hx11
  obtain ⟨g3, n3, c3, rfl, h3, l3, u3⟩ := own_hold O11.out (by simp)
  have b3 : n3 ≤ 100 := by rw [h3.1]; exact f3
  have H3 : Hid (Hold x11 g3 n3 c3 (form3 least most)) := h3
  have B3 : Hid (Below x6.heap.size x6 x11) := O11.out.2.1
  have s11' : x6.heap.size ≤ x11.heap.size := O11.out.2.2
  clear h3 O7 O8 O9 O10 O11 s8 s9 s10 s11 m8 m9 m10 m11
  have z1 : W1.heap.size ≤ x3.heap.size := B1.out.size
  have P1 : Hid (Hold x11 g1 n1 c1 (form1 least)) := (H1.out.later u1 B2.out).later (by omega) B3.out
  have P2 : Hid (Hold x11 g2 n2 c2 (form2 least)) := H2.out.later u2 B3.out
  have Pq : Hid (Hold x11 gq nq cq Q) := ((Hq.out.later lq B1.out).later (by omega) B2.out).later (by omega) B3.out
  have BA : Hid (Below w.heap.size w x11) := Bq.out.trans (((B1.out.mono Bq.out.size).trans ((B2.out.mono (Nat.le_trans Bq.out.size z1)).trans (B3.out.mono (Nat.le_trans Bq.out.size (Nat.le_trans z1 s6))))))
  have z0 : w.heap.size ≤ W1.heap.size := Bq.out.size
  clear B1 B2 B3 Bq H1 H2 Hq
  clear f1 f2 f3
  generalize form1 least = F1 at P1 HF
  generalize form2 least = F2 at P2 HF
  generalize form3 least most = F3 at H3 HF
  have HF2 : Q = F1 ++ [63] ∨ Q = F2 ++ [63] ∨ Q = F3 ++ [63] := by have := HF.out; simpa [tl] using this
  clear HF
  have HF : Hid (Q = F1 ++ [63] ∨ Q = F2 ++ [63] ∨ Q = F3 ++ [63]) := HF2
  clear HF2
  go_wp2_with (at_builtin; refine wpList_append_lies _ rfl (.tmp 36) (.tmp 37) 22 rfl 0 5 i0 (.int .u8 0) 1 1 Tryd.underlying22 HI.out.1 HI.out.2.1 HI.out.2.2.1 HI.out.2.2.2 rfl (by decide) _ _ _ rfl (P1.out.2.alloc _) ⟨x11.heap.size, 0, none⟩ 1 1 [.int .u8 63] rfl rfl (cell_one _ _ _) (one_one _) (by decide) (by unfold maxLen; omega) (by omega) (Nat.zero_le _) (x11.heap.size + 1) (by rw [World.size_alloc]) ?_; intro e1 d1 y1 ho1 hg1 ha1 hl1; refine Hid.out ?_)
  refine Lib.hid ?_
  obtain ⟨k1, k1'⟩ := pushed (o := .cells #[] 5) P1.out ho1 ha1
  have a1 : Hid ((x11.alloc (.cells #[.int .u8 63] 5)).grownBy y1 (some g1)) := hg1
  have t1 := hg1.size
  rw [World.size_alloc] at t1
  have Kq1 : Hid (Hold y1 gq nq cq Q) := (Pq.out.alloc _).kept a1.out (by omega)
  have K11 : Hid (Hold y1 e1 (n1 + 1) d1 (F1 ++ [63])) := k1
  have K21 : Hid (Hold y1 g2 n2 c2 F2) := (P2.out.alloc _).kept a1.out (by omega)
  have K31 : Hid (Hold y1 g3 n3 c3 F3) := (H3.out.alloc _).kept a1.out (by omega)
  have BA1 : Hid (Below w.heap.size w y1) := (BA.out.alloc (by omega) _).grown a1.out (by rw [World.size_alloc]; omega) (fun k hk => by cases hk; omega)
  clear k1 ho1 ha1 hg1 P1 P2 H3 Pq BA a1
  go_wp2_with (at_builtin; refine wpList_append_lies _ rfl (.tmp 39) (.tmp 40) 22 rfl 0 5 i0 (.int .u8 0) 1 1 Tryd.underlying22 HI.out.1 HI.out.2.1 HI.out.2.2.1 HI.out.2.2.2 rfl (by decide) _ _ _ rfl (K21.out.2.alloc _) ⟨y1.heap.size, 0, none⟩ 1 1 [.int .u8 63] rfl rfl (cell_one _ _ _) (one_one _) (by decide) (by unfold maxLen; omega) (by omega) (Nat.zero_le _) (y1.heap.size + 1) (by rw [World.size_alloc]) ?_; intro e2 d2 y2 ho2 hg2 ha2 hl2; refine Hid.out ?_)
  refine Lib.hid ?_
  obtain ⟨k2, k2'⟩ := pushed (o := .cells #[] 5) K21.out ho2 ha2
  have a2 : Hid ((y1.alloc (.cells #[.int .u8 63] 5)).grownBy y2 (some g2)) := hg2
  have t2 := hg2.size
  rw [World.size_alloc] at t2
  have Kq2 : Hid (Hold y2 gq nq cq Q) := (Kq1.out.alloc _).kept a2.out (by omega)
  have K12 : Hid (Hold y2 e1 (n1 + 1) d1 (F1 ++ [63])) := (K11.out.alloc _).kept a2.out (by omega)
  have K22 : Hid (Hold y2 e2 (n2 + 1) d2 (F2 ++ [63])) := k2
  have K32 : Hid (Hold y2 g3 n3 c3 F3) := (K31.out.alloc _).kept a2.out (by omega)
  have BA2 : Hid (Below w.heap.size w y2) := (BA1.out.alloc (by omega) _).grown a2.out (by rw [World.size_alloc]; omega) (fun k hk => by cases hk; omega)
  clear k2 ho2 ha2 hg2 Kq1 K11 K21 K31 BA1 a2
  go_wp2_with (at_builtin; refine wpList_append_lies _ rfl (.tmp 42) (.tmp 43) 22 rfl 0 5 i0 (.int .u8 0) 1 1 Tryd.underlying22 HI.out.1 HI.out.2.1 HI.out.2.2.1 HI.out.2.2.2 rfl (by decide) _ _ _ rfl (K32.out.2.alloc _) ⟨y2.heap.size, 0, none⟩ 1 1 [.int .u8 63] rfl rfl (cell_one _ _ _) (one_one _) (by decide) (by unfold maxLen; omega) (by omega) (Nat.zero_le _) (y2.heap.size + 1) (by rw [World.size_alloc]) ?_; intro e3 d3 y3 ho3 hg3 ha3 hl3; refine Hid.out ?_)
  refine Lib.hid ?_
  obtain ⟨k3, k3'⟩ := pushed (o := .cells #[] 5) K32.out ho3 ha3
  have a3 : Hid ((y2.alloc (.cells #[.int .u8 63] 5)).grownBy y3 (some g3)) := hg3
  have t3 := hg3.size
  rw [World.size_alloc] at t3
  have Kq : Hid (Hold y3 gq nq cq Q) := (Kq2.out.alloc _).kept a3.out (by omega)
  have K1 : Hid (Hold y3 e1 (n1 + 1) d1 (F1 ++ [63])) := (K12.out.alloc _).kept a3.out (by omega)
  have K2 : Hid (Hold y3 e2 (n2 + 1) d2 (F2 ++ [63])) := (K22.out.alloc _).kept a3.out (by omega)
  have K3 : Hid (Hold y3 e3 (n3 + 1) d3 (F3 ++ [63])) := k3
  have BZ : Hid (Below w.heap.size w y3) := (BA2.out.alloc (by omega) _).grown a3.out (by rw [World.size_alloc]; omega) (fun k hk => by cases hk; omega)
  clear k3 ho3 ha3 hg3 Kq2 K12 K22 K32 BA2 a3 k1' k2' k3' hl1 hl2 hl3
  go_wp2_with fail
  refine (eqB_any gq 0 cq e1 0 d1 nq (n1 + 1) Q (F1 ++ [63]) _ (by omega) (by omega) Kq.out.1 K1.out.1 (by exact fun j hj => Kq.out.cells j hj) (by exact fun j hj => K1.out.cells j hj)).mono ?_
  rintro e z1 ⟨⟨r1, rfl, hr1⟩, q1, rfl⟩
  have R1 : Hid (Q = (F1 ++ [63]) → r1 = true) := hr1
  clear hr1
  cases r1
  · go_wp2_with fail
    refine (eqB_any gq 0 cq e2 0 d2 nq (n2 + 1) Q (F2 ++ [63]) _ (by omega) (by omega) Kq.out.1 K2.out.1 (by exact fun j hj => Kq.out.cells j hj) (by exact fun j hj => K2.out.cells j hj)).mono ?_
    rintro e z2 ⟨⟨r2, rfl, hr2⟩, q2, rfl⟩
    have R2 : Hid (Q = (F2 ++ [63]) → r2 = true) := hr2
    clear hr2
    cases r2
    · go_wp2_with fail
      refine (eqB_any gq 0 cq e3 0 d3 nq (n3 + 1) Q (F3 ++ [63]) _ (by omega) (by omega) Kq.out.1 K3.out.1 (by exact fun j hj => Kq.out.cells j hj) (by exact fun j hj => K3.out.cells j hj)).mono ?_
      rintro e z3 ⟨⟨r3, rfl, hr3⟩, q3, rfl⟩
      have R3 : Hid (Q = (F3 ++ [63]) → r3 = true) := hr3
      clear hr3
      cases r3
      · exfalso
        rcases HF.out with h | h | h
        · exact absurd (R1.out h) (by simp)
        · exact absurd (R2.out h) (by simp)
        · exact absurd (R3.out h) (by simp)
      · go_wp2_with fail
        refine (nlz_any gq 0 cq nq Q _ (by omega) Kq.out.1 HQn.out (by exact fun j hj => Kq.out.cells j hj)).mono ?_
        rintro e z9 ⟨rfl, rfl⟩
        go_wp2
        go_ret
        exact ⟨rfl, BZ.out.trans ⟨rfl, rfl, rfl, Nat.le_refl _, fun _ _ => rfl⟩⟩
    · go_wp2_with fail
      refine (nlz_any gq 0 cq nq Q _ (by omega) Kq.out.1 HQn.out (by exact fun j hj => Kq.out.cells j hj)).mono ?_
      rintro e z9 ⟨rfl, rfl⟩
      go_wp2
      go_ret
      exact ⟨rfl, BZ.out.trans ⟨rfl, rfl, rfl, Nat.le_refl _, fun _ _ => rfl⟩⟩
  · go_wp2_with fail
    refine (nlz_any gq 0 cq nq Q _ (by omega) Kq.out.1 HQn.out (by exact fun j hj => Kq.out.cells j hj)).mono ?_
    rintro e z9 ⟨rfl, rfl⟩
    go_wp2
    go_ret
    exact ⟨rfl, BZ.out.trans ⟨rfl, rfl, rfl, Nat.le_refl _, fun _ _ => rfl⟩⟩

theorem law3 (least most : Int) (lazy : Bool) (ha0 : -9223372036854775808 ≤ least) (ha1 : least ≤ 9223372036854775807) (hb0 : -9223372036854775808 ≤ most) (hb1 : most ≤ 9223372036854775807) (w : World) (htab : Tab w) :
    Calls Tryd.prog 3 #[.int .i64 least, .int .i64 most, .bool lazy] w fun e w' => e = .returned (.bool true) ∧ Below w.heap.size w w' := by
  cases lazy
  · exact law3_n least most ha0 ha1 hb0 hb1 w htab
  · exact law3_l least most ha0 ha1 hb0 hb1 w htab
end Go.Proofs.Qxb6002344aDoor.App
