/- THE WALKS OF zzc4InPairs, zzc4EqualRunes, zzc4CopyRunes (seat b6002344a). -/
import Derived.Test.Qxb6002344aCanon
import Derived.Deep.OwnRows
import Derived.WalkSpells
set_option linter.unusedVariables false
namespace Go.Proofs.Qxb6002344a.Rune
open Go.RowKit

set_option maxHeartbeats 1000000 in
theorem inP_any (a : Option Addr) (n c : Nat) (x : Int) (l : List Int) (w : World) (hn : n ≤ 1048576) (hev : n % 2 = 0) (hp : RS w a n l) :
    Calls Try.prog 37 #[.slice a n c, .int .i32 x] w fun e w' => e = .returned (.bool (inP l x)) ∧ w' = w := by
  obtain ⟨hl, h0 | ⟨b, off, rfl, hc⟩⟩ := hp
  · subst h0
    obtain rfl : l = [] := List.eq_nil_of_length_eq_zero hl.symm
    clear hn hl hev
    go_enter Try.func37, Try.ntmps37
    go_wp2
    go_loop [5] (fun i => i = .int .i64 0) (fun _ => 0)
    case atStart => rfl
    case round =>
      obtain rfl := hrel
      go_wp2
      go_ret
      exact ⟨rfl, rfl⟩
  have HL : Hid (n = l.length) := hl
  have HE : Hid (n % 2 = 0) := hev
  clear hl hev
  go_enter Try.func37, Try.ntmps37
  go_wp2
  go_loop [5] (fun i => ∃ (k : Nat), k ≤ n ∧ Hid (k % 2 = 0) ∧ i = .int .i64 k ∧ Hid (inP (l.drop k) x = inP l x)) (fun i => n - (intOf i).toNat)
  case atStart => exact ⟨0, Nat.zero_le _, rfl, rfl, rfl⟩
  case round =>
    obtain ⟨k, hk, KE, rfl, H⟩ := hrel
    by_cases hlt : k + 1 < n
    · have g0 := hc k (by omega)
      have g1 := hc (k + 1) (by omega)
      have HD : Hid _ := drop_two (l := l) (k := k) (by rw [← HL.out]; exact hlt)
      generalize l.getD k 0 = p at g0 HD
      generalize l.getD (k + 1) 0 = q at g1 HD
      have b1 : (0 : Int) ≤ (k : Int) := by omega
      have b2 : (k : Int) < (n : Int) := by omega
      have b3 : (k : Int) + 1 < (n : Int) := by omega
      clear hc
      by_cases h1 : p ≤ x ∧ x ≤ q
      · obtain ⟨h1, h2⟩ := h1
        have HN : Hid (true = inP l x) := by show _ = _; rw [← H.out, HD.out, inP_cons]; simp [h1, h2]
        go_wp2
        go_ret
        exact ⟨ret_bool HN.out, rfl⟩
      · have HN : Hid (inP (l.drop (k + 2)) x = inP l x) := by
          show _ = _
          rw [← H.out, HD.out, inP_cons]
          have : (decide (p ≤ x) && decide (x ≤ q)) = false := by
            rw [Bool.and_eq_false_iff]
            by_cases h2 : p ≤ x
            · right; exact decide_eq_false (fun h => h1 ⟨h2, h⟩)
            · left; exact decide_eq_false h2
          rw [this]; rfl
        by_cases h2 : p ≤ x
        · have h3 : ¬ x ≤ q := fun h => h1 ⟨h2, h⟩
          clear h1
          go_wp2
          go_round
          case rel => exact ⟨k + 2, by have := HE.out; have := KE.out; omega, by have := KE.out; show _ = _; omega, by go_num, HN⟩
          case measure => simp [intOf]; omega
        · clear h1
          go_wp2
          go_round
          case rel => exact ⟨k + 2, by have := HE.out; have := KE.out; omega, by have := KE.out; show _ = _; omega, by go_num, HN⟩
          case measure => simp [intOf]; omega
    · have HN : Hid (false = inP l x) := by
        show _ = _
        rw [← H.out, List.drop_eq_nil_of_le (by rw [← HL.out]; have := HE.out; have := KE.out; omega)]
        rfl
      clear hc
      go_wp2
      go_ret
      exact ⟨ret_bool HN.out, rfl⟩

set_option maxHeartbeats 1000000 in
theorem eq_any (a a2 : Option Addr) (n c c2 : Nat) (l : List Int) (w : World) (hn : n ≤ 1048576) (hp : RS w a n l) (hp2 : RS w a2 n l) :
    Calls Try.prog 19 #[.slice a n c, .slice a2 n c2] w fun e w' => e = .returned (.bool true) ∧ ∃ q, w' = w.drewN q := by
  have h3 : ((n : Int) != (n : Int)) = false := by simp
  have hcc : n = 0 ∨ ∃ b off b2 off2, a = some ⟨b, off, none⟩ ∧ a2 = some ⟨b2, off2, none⟩ ∧ (∀ j, j < n → w.cell? ⟨b, off + j, none⟩ = some (.int .i32 (l.getD j 0))) ∧ (∀ j, j < n → w.cell? ⟨b2, off2 + j, none⟩ = some (.int .i32 (l.getD j 0))) := by
    obtain ⟨_, h | ⟨b, off, h, hc⟩⟩ := hp
    · exact .inl h
    · obtain ⟨_, h' | ⟨b2, off2, h', hc'⟩⟩ := hp2
      · exact .inl h'
      · exact .inr ⟨b, off, b2, off2, h, h', hc, hc'⟩
  clear hp hp2
  rcases hcc with h0 | ⟨b, off, b2, off2, rfl, rfl, hc, hc2⟩
  · subst h0
    clear hn h3
    go_enter Try.func19, Try.ntmps19
    go_wp2
    go_loop [5] (fun i => i = .int .i64 0) (fun _ => 0)
    case atStart => rfl
    case round =>
      obtain rfl := hrel
      go_wp2
      go_ret
      exact ⟨rfl, 0, rfl⟩
  go_enter Try.func19, Try.ntmps19
  go_wp2
  go_loopw [5] (fun i wr => ∃ (k q : Nat), k ≤ n ∧ i = .int .i64 k ∧ wr = w.drewN q) (fun i _ => n - (intOf i).toNat)
  case atStart => exact ⟨0, 0, Nat.zero_le _, rfl, rfl⟩
  case round =>
    obtain ⟨k, q, hk, rfl, hwr⟩ := hrel
    have HW : Hid (wr = w.drewN q) := hwr
    clear hwr
    by_cases hlt : k < n
    · have g0 : wr.cell? ⟨b, off + k, none⟩ = some (.int .i32 (l.getD k 0)) := by rw [HW.out]; exact hc k hlt
      have g1 : wr.cell? ⟨b2, off2 + k, none⟩ = some (.int .i32 (l.getD k 0)) := by rw [HW.out]; exact hc2 k hlt
      generalize l.getD k 0 = p at g0 g1
      have h4 : (p != p) = false := by simp
      have b1 : (0 : Int) ≤ (k : Int) := by omega
      have b2' : (k : Int) < (n : Int) := by omega
      clear hc hc2
      go_wp2
      go_quiet (fail)
      go_wp2
      go_roundw
      case rel => exact ⟨k + 1, _, by omega, by go_num, by rw [HW.out]; exact World.drewN_drewN _ _ _⟩
      case measure => simp [intOf]; omega
    · clear hc hc2
      go_wp2
      go_ret
      exact ⟨rfl, _, HW.out⟩

theorem info21 : (Try.prog.info? 21).map (fun i => (i.zero, i.size, i.bytes)) = some (some (.int .i32 0), 1, 4) := by kernel_rfl

theorem cell_lt {w : World} {b off : Nat} {v : Value} (h : w.cell? ⟨b, off, none⟩ = some v) : b < w.heap.size := by
  unfold World.cell? at h
  by_cases hb : b < w.heap.size
  · exact hb
  · simp only [Array.getElem?_eq_none (Nat.le_of_not_lt hb)] at h
    cases h

set_option maxRecDepth 1000000 in
set_option maxHeartbeats 1000000 in
theorem copy_some (x : Addr) (n c : Nat) (l : List Int) (w : World) (hn : n ≤ 1048576) (hl : n = l.length) (hc : ∀ j, j < n → ∃ b off, x = ⟨b, off, none⟩ ∧ w.cell? ⟨b, off + j, none⟩ = some (.int .i32 (l.getD j 0))) :
    Calls Try.prog 18 #[.slice (some x) n c] w fun e w' => e = .returned (.slice (some ⟨w.heap.size, 0, none⟩) n n) ∧ w'.rowIs w.heap.size 21 n (fun j => .int .i32 (l.getD j 0)) ∧ Below w.heap.size w w' := by
  have HL : Hid (n = l.length) := hl
  clear hl
  have heq := fun (wx : World) (a : Option Addr) (n c : Nat) => Lib.run_eql_slice_nil (P := Try.prog) wx 39 21 a n c 0 0 Try.underlying39
  have hmk := run_make_row' (P := Try.prog) 39 21 (.int .i32 0) 4 Try.underlying39 info21 rfl .i64 .i64 n (by omega) (by omega)
  go_enter Try.func18, Try.ntmps18
  go_wp2
  clear hmk heq
  go_loopw [4] (fun i wr => ∃ (k : Nat), k ≤ n ∧ i = .int .i64 k ∧ wr.rowIs w.heap.size 21 n (fun j => if j < k then .int .i32 (l.getD j 0) else .int .i32 0) ∧ Below w.heap.size w wr) (fun i _ => n - (intOf i).toNat)
  case atStart => exact ⟨0, Nat.zero_le _, rfl, (World.rowIs_made w (.int .i32 0) n 21).congr (fun i hi => by simp), (Below.refl _ _).alloc (Nat.le_refl _) _⟩
  case round =>
    obtain ⟨k, hk, rfl, hrow, hbel⟩ := hrel
    have HR : Hid (wr.rowIs w.heap.size 21 n (fun j => if j < k then .int .i32 (l.getD j 0) else .int .i32 0)) := hrow
    have HBl : Hid (Below w.heap.size w wr) := hbel
    clear hrow hbel
    by_cases hlt : k < n
    · obtain ⟨b, off, rfl, hck⟩ := hc k hlt
      have g0 : wr.cell? ⟨b, off + k, none⟩ = some (.int .i32 (l.getD k 0)) := by rw [HBl.out.cell (cell_lt hck)]; exact hck
      clear hck
      have hf : wr.frozen? ⟨w.heap.size, k, none⟩ = false := HR.out.frozen k
      obtain ⟨u, hu⟩ : ∃ u, wr.cell? ⟨w.heap.size, k, none⟩ = some u := ⟨_, HR.out.cell hlt⟩
      clear hc
      go_wp2
      go_roundw
      case rel =>
        refine ⟨k + 1, by omega, by go_num, (HR.out.set k _).congr (fun j hj => ?_), HBl.out.setCell (Nat.le_refl _) _⟩
        by_cases e : j = k
        · subst e; simp
        · by_cases h1 : j < k
          · have h2 : j < k + 1 := by omega
            simp [e, h1, h2]
          · have h2 : ¬ j < k + 1 := by omega
            simp [e, h1, h2]
      case measure => simp [intOf]; omega
    · have HR2 : Hid (wr.rowIs w.heap.size 21 n (fun j => .int .i32 (l.getD j 0))) := HR.out.congr (fun j hj => by have : j < k := by omega
                                                                                                                   simp [this])
      clear hc HR
      go_wp2
      go_ret
      exact ⟨rfl, HR2.out, HBl.out⟩

/-- A copy: nil stays nil; the runes are the same, in memory of its own. -/
theorem copy_any (a : Option Addr) (n c : Nat) (l : List Int) (w : World) (hn : n ≤ 1048576) (hp : RS w a n l) (hnil : a = none → n = 0 ∧ c = 0) :
    Calls Try.prog 18 #[.slice a n c] w fun e w' => ∃ a', e = .returned (.slice a' n n) ∧ RS w' a' n l ∧ Below w.heap.size w w' ∧ (a' = none ↔ a = none) := by
  cases a with
  | none =>
    obtain ⟨rfl, rfl⟩ := hnil rfl
    have heq := fun (wx : World) (a : Option Addr) (n c : Nat) => Lib.run_eql_slice_nil (P := Try.prog) wx 39 21 a n c 0 0 Try.underlying39
    have HP : Hid (RS w none 0 l) := hp
    clear hp hn hnil
    go_enter Try.func18, Try.ntmps18
    go_wp2
    go_ret
    exact ⟨none, rfl, HP.out, Below.refl _ _, ⟨fun _ => trivial, fun _ => rfl⟩⟩
  | some x =>
    obtain ⟨hl, hx⟩ := hp
    refine (copy_some x n c l w hn hl ?_).mono ?_
    · intro j hj
      rcases hx with h | ⟨b, off, h, hc⟩
      · omega
      · exact ⟨b, off, Option.some.inj h, hc j hj⟩
    · rintro e w' ⟨rfl, hrow, hbel⟩
      refine ⟨_, rfl, ⟨hl, .inr ⟨_, _, rfl, fun j hj => ?_⟩⟩, hbel, ⟨(fun h => by cases h), (fun h => by cases h)⟩⟩
      rw [Nat.zero_add]
      exact hrow.cell hj
end Go.Proofs.Qxb6002344a.Rune
