/- THE WALK OF runeSetOf (seat b6002344a). -/
import Derived.Test.Qxb6002344aPairs
import Derived.Deep.RegionHeld3
import Derived.Deep.AppendLies
import Derived.Deep.DrawnRows
set_option linter.unusedVariables false
attribute [local go_sem ↓] Go.wp_at_zero Go.wp_at_succ
namespace Go.Proofs.Qxb6002344a.Rune
open Go.RowKit

theorem info75 : (Try.prog.info? 75).map (fun i => (i.zero, i.size, i.bytes)) = some (some (.agg #[.int .i32 0, .int .i32 0]), 2, 8) := by kernel_rfl

theorem box_cell {wr : World} {x y : Value} {t : TypeId} {nq j : Nat} (u : Value) (h : #[x, y][j]? = some u) : ((wr.alloc (.cells #[x, y] t)).drewN nq).cell? ⟨wr.heap.size, j, none⟩ = some u := by
  show (wr.alloc _).cell? _ = _
  rw [cell_of_row _ _ j _ t (0, 0) (heap_alloc_new wr _)]; exact h
theorem later_drewN {B : Nat} {w w' : World} (h : Below B w w') (q : Nat) : Below B w (w'.drewN q) := ⟨h.os, h.tape, h.output, h.size, h.block⟩
theorem owns_le {w : World} {base base' : Nat} {e : TypeId} {size : Nat} {v : Value} {n : Nat} {xs : List Value} (h : w.ownsRow base e size v n xs) (hb : base' ≤ base) : w.ownsRow base' e size v n xs :=
  ⟨h.1, h.2.imp id fun ⟨g, cap, cur, a, b, c⟩ => ⟨g, cap, cur, a, Nat.le_trans hb b, c⟩⟩
theorem ri_last {pre : List Int} {s e : Int} : (ri (pre ++ [s, e]))[(pre ++ [s, e]).length - 1]? = some (.int .i32 e) := by
  unfold ri
  rw [List.getElem?_map]
  simp
theorem ri_set_last {pre : List Int} {s e f : Int} : (ri (pre ++ [s, e])).set ((pre ++ [s, e]).length - 1) (.int .i32 f) = ri (pre ++ [s, f]) := by
  unfold ri
  simp

set_option maxRecDepth 1000000 in
set_option maxHeartbeats 4000000 in
theorem rso_any (a : Option Addr) (n c : Nat) (l : List Int) (w : World) (hn : n ≤ 1048576) (hev : n % 2 = 0) (hok : ∀ p ∈ prs l, okP p) (hp : RS w a n l) :
    Calls Try.prog 47 #[.slice a n c] w fun e w' => ∃ v u, e = .returned v ∧ w'.ownsRow w.heap.size 21 1 v u.length (ri u) ∧ Below w.heap.size w w' ∧ cn 0 u = true ∧ (∀ x, inP u x = inP l x) ∧ u.length ≤ l.length := by
  obtain ⟨hl, hx⟩ := hp
  have HX : Hid (n = 0 ∨ ∃ b off, a = some ⟨b, off, none⟩ ∧ ∀ j, j < n → w.cell? ⟨b, off + j, none⟩ = some (.int .i32 (l.getD j 0))) := hx
  have HL : Hid (n = l.length) := hl
  have HE : Hid (n % 2 = 0) := hev
  have HOk : Hid (∀ p ∈ prs l, okP p) := hok
  clear hl hx hev hok
  obtain ⟨i0, hi, hz0, hz1, hz2⟩ := info_parts info75
  have HI : Hid (_ ∧ _ ∧ _ ∧ _) := And.intro hi (And.intro hz0 (And.intro hz1 hz2))
  clear hi hz0 hz1 hz2
  obtain ⟨i1, hi, hz0, hz1, hz2⟩ := info_parts info21
  have HI1 : Hid (_ ∧ _ ∧ _ ∧ _) := And.intro hi (And.intro hz0 (And.intro hz1 hz2))
  clear hi hz0 hz1 hz2
  obtain ⟨m, hm⟩ : ∃ m, n / 2 = m := ⟨_, rfl⟩
  have HM : Hid (n / 2 = m) := hm
  have hm1 : m ≤ 1048576 := by omega
  have hdiv : (n : Int).tdiv 2 = (m : Int) := by rw [← hm, Int.tdiv_eq_ediv_of_nonneg (by omega)]; omega
  have hdiv2 : (n : Int) / 2 = (m : Int) := by omega
  clear hm
  go_enter Try.func47, Try.ntmps47
  go_wp2_with (at_make; refine wpList_make_own _ rfl _ _ 74 rfl w.heap.size 75 i0 _ 2 Try.underlying74 HI.out.1 HI.out.2.1 HI.out.2.2.1 .i64 .i64 _ m rfl rfl (by first | omega | simp) (by rw [HI.out.2.2.2]; omega) (by unfold maxLen; omega) (Nat.le_refl _) ?_; intro w0 hown0 hgrow0)
  have B0 : Hid (Below w.heap.size w w0) := (Below.refl _ _).grown hgrow0 (Nat.le_refl _) (fun k hk => by cases hk)
  have O0 : Hid (w0.ownsRow w.heap.size 75 2 (.slice (some ⟨w.heap.size, 0, none⟩) 0 m) 0 []) := hown0
  have hs0 : w.heap.size < w0.heap.size := (hown0.lt w.heap.size rfl).2
  clear hgrow0 hown0 hdiv hdiv2
  go_loopw [3, 4] (fun v i wr => ∃ (k g cap : Nat) (qs : List (Int × Int)), k ≤ n ∧ Hid (k % 2 = 0) ∧ i = .int .i64 k ∧ v = .slice (some ⟨g, 0, none⟩) qs.length cap ∧ Hid (wr.ownsRow w.heap.size 75 2 (.slice (some ⟨g, 0, none⟩) qs.length cap) qs.length (fl qs)) ∧ Hid (Below w.heap.size w wr) ∧ w.heap.size < wr.heap.size ∧ qs.length ≤ k ∧ Hid (qs ++ prs (l.drop k) = prs l)) (fun _ i _ => n - (intOf i).toNat)
  case atStart => exact ⟨0, w.heap.size, m, [], Nat.zero_le _, rfl, rfl, rfl, O0.out, B0.out, hs0, Nat.le_refl _, rfl⟩
  case round =>
    obtain ⟨k, g, cap, qs, hk, KE, rfl, rfl, HO, HB, hsz, hql, HQ⟩ := hrel
    clear B0 O0 hs0
    by_cases hlt : k < n
    · have hlt2 : k + 1 < n := by have := HE.out; have := KE.out; omega
      obtain ⟨b, off, rfl, hc⟩ := HX.out.resolve_left (by omega)
      clear HX
      have g0 : wr.cell? ⟨b, off + k, none⟩ = some (.int .i32 (l.getD k 0)) := by rw [HB.out.cell (cell_lt (hc k hlt))]; exact hc k hlt
      have g1 : wr.cell? ⟨b, off + (k + 1), none⟩ = some (.int .i32 (l.getD (k + 1) 0)) := by rw [HB.out.cell (cell_lt (hc (k + 1) hlt2))]; exact hc (k + 1) hlt2
      have HD : Hid _ := drop_prs (l := l) (k := k) (by rw [← HL.out]; exact hlt2)
      have hokp := HOk.out _ (mem_prs l k KE.out (by rw [← HL.out]; exact hlt2))
      have hbb := cell_lt (hc k hlt)
      generalize l.getD k 0 = p at g0 HD hokp
      generalize l.getD (k + 1) 0 = q at g1 HD hokp
      clear hc
      have HN : Hid (qs ++ [(p, q)] ++ prs (l.drop (k + 2)) = prs l) := by show _ = _; rw [← HQ.out, HD.out]; simp
      have HP : Hid (encP (p, q) = [.int .i32 p, .int .i32 q]) := by
        show _ = _
        have h0 : 0 ≤ p := hokp.1
        have h1 : p ≤ q := hokp.2.1
        have h2 : q ≤ 1114111 := hokp.2.2
        show [Value.int .i32 (cl p), .int .i32 (cl q)] = _
        rw [cl_id h0 (by omega), cl_id (by omega) h2]
      have b0 : (0 : Int) ≤ (k : Int) := by omega
      have b1 : (k : Int) < (n : Int) := by omega
      have b2 : (k : Int) + 1 < (n : Int) := by omega
      have b3 : (0 : Int) ≤ (k : Int) + 1 := by omega
      have hw1 : IntKind.i64.wrap ((k : Int) + 1) = (k : Int) + 1 := by rw [IntKind.wrap_i64]; omega
      have hbg : Hid (w.heap.size ≤ g ∧ g < wr.heap.size) := HO.out.lt g rfl
      have hne : Hid (some b ≠ (Value.slice (some ⟨g, 0, none⟩) qs.length cap).ownBlock) := by
        show some b ≠ some g
        intro e
        have h := hbg.out
        injection e with e
        omega
      clear hokp HD HQ
      go_wp2_with fail
      go_region_held3 (fun w' => w'.cell? ⟨b, off + k, none⟩ = some (.int .i32 p) ∧ w'.cell? ⟨b, off + (k + 1), none⟩ = some (.int .i32 q))
        (first
          | go_keep
          | (go_split_ands
             refine ⟨?_, ?_⟩
             · (rw [hgrow.cell_far _ (by simp; omega) hne.out]; assumption)
             · (rw [hgrow.cell_far _ (by simp; omega) hne.out]; assumption)))
        ((refine step_append_lies _ (by rfl) _ _ _ (by rfl) w.heap.size 75 i0 _ 2 8 Try.underlying74 HI.out.1 HI.out.2.1 HI.out.2.2.1 HI.out.2.2.2 rfl (by omega) _ qs.length (fl qs) (by rfl) ((HO.out.alloc _).drew) ⟨wr.heap.size, 0, none⟩ 1 1 [.int .i32 p, .int .i32 q] (by rfl) (by rfl) (World.news_of_block (cs := #[.int .i32 p, .int .i32 q]) (t := 75) (fr := (0, 0)) (heap_alloc_new wr _)) (by simp [Value.oneCell']) (by omega) (by unfold maxLen; omega) (by omega) (by simp; omega) (wr.heap.size + 1) (by simp) ?_; intro gg cap2 w1 hown1 hgrow hat hlt1))
      have R1 : Hid (w1.ownsRow w.heap.size 75 2 (.slice (some ⟨gg, 0, none⟩) (qs ++ [(p, q)]).length cap2) (qs ++ [(p, q)]).length (fl (qs ++ [(p, q)]))) := by
        have e1 : (qs ++ [(p, q)]).length = qs.length + 1 := by simp
        show World.ownsRow _ _ _ _ _ _ _
        rw [e1, fl_snoc, HP.out]; exact hown1
      have R2 : Hid (Below w.heap.size w w1) := ((HB.out.alloc (Nat.le_of_lt hsz) _).drew).grown hgrow (by show _ ≤ (World.alloc _ _).heap.size; rw [World.size_alloc]; omega) (fun j hj => by have h := hbg.out; have hj' : some g = some j := hj; injection hj' with e; omega)
      have hsz1 : w.heap.size < w1.heap.size := by have := (R1.out.lt gg rfl); omega
      clear hown1 hgrow hat hlt1
      go_wp2
      go_roundw
      case rel => exact ⟨k + 2, gg, cap2, qs ++ [(p, q)], by omega, by have := KE.out; show _ = _; omega, by go_num, by simp, R1.out, R2.out, hsz1, by simp; omega, HN⟩
      case measure => simp [intOf]; omega
    · have hqe : Hid (qs = prs l) := by
        show _ = _
        rw [← HQ.out, List.drop_eq_nil_of_le (by rw [← HL.out]; omega)]; simp [prs]
      have C56 : Hid (Calls Try.prog 56 #[.slice (some ⟨g, 0, none⟩) qs.length cap, .func (.func 57) #[] #[]] wr fun e w' => e = .returned (.tuple #[]) ∧ ∃ d' : Array (Int × Int), d'.size = qs.length ∧ d'.toList.Perm qs ∧ (∀ i j, i < j → j < qs.length → cl d'[i]!.1 ≤ cl d'[j]!.1) ∧ Sort.HoldsK encP 2 w' g 0 d' ∧ RowKit.Below g wr w') := by
        have h := sort_any g cap qs.toArray wr (holds_of_owns HO.out) (HO.out.lt g rfl).2 (by simp; omega)
        show Calls _ _ _ _ _
        simpa using h
      have hbg : Hid (w.heap.size ≤ g ∧ g < wr.heap.size) := HO.out.lt g rfl
      clear HX HO HQ
      go_wp2_with fail
      refine C56.out.mono ?_
      rintro e w2 ⟨rfl, d', hds, hperm, hsrt, hhold, hbel⟩
      rw [hqe.out] at hperm
      have HMg : Hid _ := merged HOk.out hperm (by rw [hds]; exact hsrt)
      have HB2 : Hid (Below w.heap.size w w2) := HB.out.trans (hbel.mono hbg.out.1)
      have HG2 : Hid (g < w2.heap.size) := Nat.lt_of_lt_of_le hbg.out.2 hbel.size
      have HH : Hid (Sort.HoldsK encP 2 w2 g 0 d') := hhold
      have HOk2 : Hid (∀ p ∈ d'.toList, okP p) := fun p hp => HOk.out p (hperm.mem_iff.1 hp)
      have HDs : Hid (d'.size = qs.length) := hds
      clear hds hperm hsrt hhold hbel HB C56 hsz hlt HOk hqe
      generalize hds : d'.toList = ds at HMg HOk2
      have HDS : Hid (d'.toList = ds) := hds
      clear hds
      generalize qs.length = z at HDs hql
      go_wp2
      go_loopw [5, 36] (fun v i wr => ∃ (k : Nat) (acc : List Int), k ≤ z ∧ i = .int .i64 k ∧ Hid (wr.ownsRow w2.heap.size 21 1 v acc.length (ri acc)) ∧ Hid (Below w2.heap.size w2 wr) ∧ acc.length ≤ 2 * k ∧ Hid (k = 0 ∧ acc = [] ∧ v = .slice none 0 0 ∨ ∃ pre s e, acc = pre ++ [s, e] ∧ 0 ≤ e ∧ e ≤ 1114111 ∧ mg pre s e (ds.drop k) = merge ds)) (fun _ i _ => z - (intOf i).toNat)
      case atStart => exact ⟨0, [], Nat.zero_le _, rfl, ⟨rfl, .inl ⟨rfl, rfl⟩⟩, Below.refl _ _, Nat.le_refl _, .inl ⟨rfl, rfl, rfl⟩⟩
      case round =>
        obtain ⟨i, acc, hi, rfl, HO, HB, hal, HC⟩ := hrel
        by_cases hlt : i < z
        · have hiz : i < d'.size := by rw [HDs.out]; exact hlt
          have hdd : Hid (ds.drop i = d'[i]! :: ds.drop (i + 1)) := by
            show _ = _
            rw [← HDS.out, List.drop_eq_getElem_cons (by simpa using hiz), getElem!_pos d' i hiz]; simp
          have hokp := HOk2.out d'[i]! (by rw [← HDS.out, getElem!_pos d' i hiz]; exact Array.mem_toList_iff.2 (Array.getElem_mem hiz))
          have g0 : wr.cell? ⟨g, i * 2, none⟩ = some (.int .i32 d'[i]!.1) := by
            rw [HB.out.cell (p := ⟨g, i * 2, none⟩) HG2.out]
            have h := (HH.out.cell hiz (show 0 < 2 by omega)).1
            rw [Nat.zero_add, Nat.add_zero] at h
            rw [h]
            show some (Value.int .i32 (cl d'[i]!.1)) = _
            rw [cl_id hokp.1 (by have := hokp.2; omega)]
          have g1 : wr.cell? ⟨g, i * 2 + 1, none⟩ = some (.int .i32 d'[i]!.2) := by
            rw [HB.out.cell (p := ⟨g, i * 2 + 1, none⟩) HG2.out]
            have h := (HH.out.cell hiz (show 1 < 2 by omega)).1
            rw [Nat.zero_add] at h
            rw [h]
            show some (Value.int .i32 (cl d'[i]!.2)) = _
            rw [cl_id (by have := hokp.1; have := hokp.2; omega) hokp.2.2]
          generalize hpp : d'[i]! = pp at hdd hokp g0 g1
          obtain ⟨p, q⟩ := pp
          have hq0 : 0 ≤ p := hokp.1
          have hq1 : p ≤ q := hokp.2.1
          have hq2 : q ≤ 1114111 := hokp.2.2
          change wr.cell? _ = some (.int .i32 p) at g0
          change wr.cell? _ = some (.int .i32 q) at g1
          clear hpp hokp hiz
          rcases HC.out with ⟨h0, rfl, rfl⟩ | ⟨pre, s, e, hacc, he0, he1, hmg⟩
          · have HN : Hid (mg [] p q (ds.drop (i + 1)) = merge ds) := by
              show _ = _
              have h := hdd.out
              rw [h0] at h
              rw [h0]
              rw [List.drop_zero] at h
              rw [h]; rfl
            clear h0 HC hdd
            go_wp2
            generalize hW : wr.alloc (.cells #[.int .i32 p, .int .i32 q] 75) = W0
            have c0 : W0.cell? ⟨wr.heap.size, 0, none⟩ = some (.int .i32 p) := by rw [← hW]; exact box_cell (nq := 0) _ rfl
            have c1 : W0.cell? ⟨wr.heap.size, 1, none⟩ = some (.int .i32 q) := by rw [← hW]; exact box_cell (nq := 0) _ rfl
            have O1 : Hid (W0.ownsRow w2.heap.size 21 1 (.slice none 0 0) ([] : List Int).length (ri ([] : List Int))) := by rw [← hW]; exact HO.out.alloc _
            have B1 : Hid (Below w2.heap.size w2 W0) := by rw [← hW]; exact HB.out.alloc HB.out.size _
            have hlt1 : w2.heap.size < W0.heap.size := by rw [← hW, World.size_alloc]; have h := HB.out.size; omega
            clear hW g0 g1
            go_quiet (fail)
            generalize hW : W0.drewN nq = W1
            have c0' : W1.cell? ⟨wr.heap.size, 0, none⟩ = some (.int .i32 p) := by rw [← hW]; exact c0
            have c1' : W1.cell? ⟨wr.heap.size, 1, none⟩ = some (.int .i32 q) := by rw [← hW]; exact c1
            have O1' : Hid (W1.ownsRow w2.heap.size 21 1 (.slice none 0 0) ([] : List Int).length (ri ([] : List Int))) := by rw [← hW]; exact O1.out
            have B1' : Hid (Below w2.heap.size w2 W1) := by rw [← hW]; exact later_drewN B1.out nq
            have hlt1' : w2.heap.size < W1.heap.size := by rw [← hW]; exact hlt1
            clear hW c0 c1 O1 B1 hlt1
            go_wp2_with (at_builtin; (refine wpList_append_own _ rfl (.tmp 67) (.tmp 72) 59 rfl w2.heap.size 21 i1 (.int .i32 0) 1 4 Try.underlying59 HI1.out.1 HI1.out.2.1 HI1.out.2.2.1 HI1.out.2.2.2 rfl (by decide) _ _ _ rfl (O1'.out.alloc _) ⟨W1.heap.size, 0, none⟩ 2 2 [.int .i32 p, .int .i32 q] rfl rfl (cell_two_new _ _ _ _) (two_one _ _) (by unfold maxLen; (first | omega | (simp; done))) (by (first | omega | (simp; done))) (by rw [World.size_alloc]; omega) ?_); intro v' w1 hown' hgrow _; have R := two_more hlt1' O1'.out B1'.out hown' hgrow; have HR : Hid (w1.ownsRow w2.heap.size 21 1 v' (([] : List Int) ++ [p, q]).length (ri (([] : List Int) ++ [p, q])) ∧ Below w2.heap.size w2 w1) := ⟨R.1, R.2.1⟩; clear R hown' hgrow c0' c1' O1' B1')
            go_roundw
            case rel => exact ⟨i + 1, ([] : List Int) ++ [p, q], by omega, by go_num, HR.out.1, HR.out.2, by (simp at *; omega), .inr ⟨([] : List Int), p, q, rfl, by omega, by omega, HN.out⟩⟩
            case measure => simp [intOf]; omega
          · have hl2 : 2 ≤ acc.length := by rw [hacc]; simp
            obtain ⟨g5, cap5, rfl, hg5, hg5'⟩ := HO.out.form (by omega)
            have ge : wr.cell? ⟨g5, acc.length - 1, none⟩ = some (.int .i32 e) := by
              rw [HO.out.cellAt _ (by omega), hacc]; exact ri_last
            have HA : Hid (acc = pre ++ [s, e]) := hacc
            have HMG : Hid (mg pre s e (ds.drop i) = merge ds) := hmg
            clear hacc hmg HC
            have b0' : 0 < acc.length := by omega
            have b0 : (0 : Int) < (acc.length : Int) := by omega
            have b1 : (0 : Int) ≤ (acc.length : Int) - 1 := by omega
            have b2 : (acc.length : Int) - 1 < (acc.length : Int) := by omega
            by_cases hle : p ≤ e + 1
            · have HN : Hid (mg pre s (if e < q then q else e) (ds.drop (i + 1)) = merge ds) := by
                show _ = _
                rw [← HMG.out, hdd.out]
                conv => rhs; unfold mg
                rw [if_pos hle]
              clear HMG hdd
              go_wp2
              generalize hW : wr.alloc (.cells #[.int .i32 p, .int .i32 q] 75) = W0
              have c0 : W0.cell? ⟨wr.heap.size, 0, none⟩ = some (.int .i32 p) := by rw [← hW]; exact box_cell (nq := 0) _ rfl
              have c1 : W0.cell? ⟨wr.heap.size, 1, none⟩ = some (.int .i32 q) := by rw [← hW]; exact box_cell (nq := 0) _ rfl
              have O1 : Hid (W0.ownsRow w2.heap.size 21 1 (.slice (some ⟨g5, 0, none⟩) acc.length cap5) acc.length (ri acc)) := by rw [← hW]; exact HO.out.alloc _
              have B1 : Hid (Below w2.heap.size w2 W0) := by rw [← hW]; exact HB.out.alloc HB.out.size _
              have hlt1 : w2.heap.size < W0.heap.size := by rw [← hW, World.size_alloc]; have h := HB.out.size; omega
              have ge0 : W0.cell? ⟨g5, acc.length - 1, none⟩ = some (.int .i32 e) := by rw [← hW, World.cell?_alloc_past _ _ _ hg5']; exact ge
              clear hW g0 g1
              go_quiet (fail)
              generalize hW : W0.drewN nq = W1
              have c0' : W1.cell? ⟨wr.heap.size, 0, none⟩ = some (.int .i32 p) := by rw [← hW]; exact c0
              have c1' : W1.cell? ⟨wr.heap.size, 1, none⟩ = some (.int .i32 q) := by rw [← hW]; exact c1
              have O1' : Hid (W1.ownsRow w2.heap.size 21 1 (.slice (some ⟨g5, 0, none⟩) acc.length cap5) acc.length (ri acc)) := by rw [← hW]; exact O1.out
              have B1' : Hid (Below w2.heap.size w2 W1) := by rw [← hW]; exact later_drewN B1.out nq
              have hlt1' : w2.heap.size < W1.heap.size := by rw [← hW]; exact hlt1
              have ge1 : W1.cell? ⟨g5, acc.length - 1, none⟩ = some (.int .i32 e) := by rw [← hW]; exact ge0
              have gf1 : W1.frozen? ⟨g5, acc.length - 1, none⟩ = false := O1'.out.frozenAt _
              clear ge0 ge
              clear hW c0 c1 O1 B1 hlt1
              go_wp2
              go_region
              have hlen : (pre ++ [s, max e q]).length = acc.length := by rw [HA.out]; simp
              have R1 : Hid ((W1.setCell ⟨g5, acc.length - 1, none⟩ (.int .i32 (max e q))).drew.ownsRow w2.heap.size 21 1 (.slice (some ⟨g5, 0, none⟩) acc.length cap5) (pre ++ [s, max e q]).length (ri (pre ++ [s, max e q]))) := by
                have h := (O1'.out.stored (acc.length - 1) (.int .i32 (max e q))).1
                have h2 : (ri acc).set (acc.length - 1) (.int .i32 (max e q)) = ri (pre ++ [s, max e q]) := by rw [HA.out]; exact ri_set_last
                rw [h2] at h
                show World.ownsRow _ _ _ _ _ _ _
                rw [hlen]; exact h.drew
              have R2 : Hid (Below w2.heap.size w2 (W1.setCell ⟨g5, acc.length - 1, none⟩ (.int .i32 (max e q))).drew) := (B1'.out.setCell (p := ⟨g5, acc.length - 1, none⟩) hg5 _).drew
              have R3 : Hid (mg pre s (max e q) (ds.drop (i + 1)) = merge ds) := by
                have h : (if e < q then q else e) = max e q := by split <;> omega
                show _ = _
                rw [← h]; exact HN.out
              have hal' : (pre ++ [s, max e q]).length ≤ 2 * (i + 1) := by rw [hlen]; omega
              generalize hW : (W1.setCell ⟨g5, acc.length - 1, none⟩ (.int .i32 (max e q))).drew = W2
              rw [hW] at R1 R2
              clear hW ge1 gf1 c0' c1' O1' B1'
              go_wp2
              go_roundw
              case rel => exact ⟨i + 1, pre ++ [s, max e q], by omega, by go_num, R1.out, R2.out, hal', .inr ⟨pre, s, max e q, rfl, by omega, by omega, R3.out⟩⟩
              case measure => simp [intOf]; omega
            · have HN : Hid (mg acc p q (ds.drop (i + 1)) = merge ds) := by
                show _ = _
                rw [← HMG.out, hdd.out, HA.out]
                conv => rhs; unfold mg
                rw [if_neg hle]
              have d5 : decide (p ≤ e + 1) = false := decide_eq_false hle
              clear HMG hdd HA
              go_wp2
              generalize hW : wr.alloc (.cells #[.int .i32 p, .int .i32 q] 75) = W0
              have c0 : W0.cell? ⟨wr.heap.size, 0, none⟩ = some (.int .i32 p) := by rw [← hW]; exact box_cell (nq := 0) _ rfl
              have c1 : W0.cell? ⟨wr.heap.size, 1, none⟩ = some (.int .i32 q) := by rw [← hW]; exact box_cell (nq := 0) _ rfl
              have O1 : Hid (W0.ownsRow w2.heap.size 21 1 (.slice (some ⟨g5, 0, none⟩) acc.length cap5) acc.length (ri acc)) := by rw [← hW]; exact HO.out.alloc _
              have B1 : Hid (Below w2.heap.size w2 W0) := by rw [← hW]; exact HB.out.alloc HB.out.size _
              have hlt1 : w2.heap.size < W0.heap.size := by rw [← hW, World.size_alloc]; have h := HB.out.size; omega
              have ge0 : W0.cell? ⟨g5, acc.length - 1, none⟩ = some (.int .i32 e) := by rw [← hW, World.cell?_alloc_past _ _ _ hg5']; exact ge
              clear hW g0 g1
              go_quiet (fail)
              generalize hW : W0.drewN nq = W1
              have c0' : W1.cell? ⟨wr.heap.size, 0, none⟩ = some (.int .i32 p) := by rw [← hW]; exact c0
              have c1' : W1.cell? ⟨wr.heap.size, 1, none⟩ = some (.int .i32 q) := by rw [← hW]; exact c1
              have O1' : Hid (W1.ownsRow w2.heap.size 21 1 (.slice (some ⟨g5, 0, none⟩) acc.length cap5) acc.length (ri acc)) := by rw [← hW]; exact O1.out
              have B1' : Hid (Below w2.heap.size w2 W1) := by rw [← hW]; exact later_drewN B1.out nq
              have hlt1' : w2.heap.size < W1.heap.size := by rw [← hW]; exact hlt1
              have ge1 : W1.cell? ⟨g5, acc.length - 1, none⟩ = some (.int .i32 e) := by rw [← hW]; exact ge0
              have gf1 : W1.frozen? ⟨g5, acc.length - 1, none⟩ = false := O1'.out.frozenAt _
              clear ge0 ge
              clear hW c0 c1 O1 B1 hlt1
              go_wp2_with (at_builtin; (refine wpList_append_own _ rfl (.tmp 67) (.tmp 72) 59 rfl w2.heap.size 21 i1 (.int .i32 0) 1 4 Try.underlying59 HI1.out.1 HI1.out.2.1 HI1.out.2.2.1 HI1.out.2.2.2 rfl (by decide) _ _ _ rfl (O1'.out.alloc _) ⟨W1.heap.size, 0, none⟩ 2 2 [.int .i32 p, .int .i32 q] rfl rfl (cell_two_new _ _ _ _) (two_one _ _) (by unfold maxLen; (first | omega | (simp; done))) (by (first | omega | (simp; done))) (by rw [World.size_alloc]; omega) ?_); intro v' w1 hown' hgrow _; have R := two_more hlt1' O1'.out B1'.out hown' hgrow; have HR : Hid (w1.ownsRow w2.heap.size 21 1 v' (acc ++ [p, q]).length (ri (acc ++ [p, q])) ∧ Below w2.heap.size w2 w1) := ⟨R.1, R.2.1⟩; clear R hown' hgrow c0' c1' O1' B1')
              go_roundw
              case rel => exact ⟨i + 1, acc ++ [p, q], by omega, by go_num, HR.out.1, HR.out.2, by (simp at *; omega), .inr ⟨acc, p, q, rfl, by omega, by omega, HN.out⟩⟩
              case measure => simp [intOf]; omega
        · have HF : Hid (acc = merge ds) := by
            show _ = _
            have hnil : ds.drop i = [] := List.drop_eq_nil_of_le (by rw [← HDS.out]; have := HDs.out; simp; omega)
            rcases HC.out with ⟨h0, h1, _⟩ | ⟨pre, s, e, h1, _, _, h2⟩
            · rw [h0, List.drop_zero] at hnil
              rw [h1, hnil]; rfl
            · rw [hnil] at h2
              rw [h1, ← h2]; rfl
          clear HC
          go_wp2
          go_ret
          exact ⟨_, acc, rfl, owns_le HO.out HB2.out.size, HB2.out.trans (HB.out.mono HB2.out.size), by rw [HF.out]; exact HMg.out.1, by rw [HF.out]; exact HMg.out.2.1, by rw [HF.out]; exact HMg.out.2.2⟩
end Go.Proofs.Qxb6002344a.Rune
