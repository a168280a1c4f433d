/- THE SORT OF THE PAIRS (seat b6002344a): slices.SortFunc at [2]rune, by the shelf. -/
import Derived.Test.Qxb6002344aShelf
import Derived.Test.Qxb6002344aCompl
import Derived.Test.Qxb6002344aMerge
set_option linter.unusedVariables false
namespace Go.Proofs.Qxb6002344a.Rune
open Go.Shelf Go.RowKit Go.Lib Go.Sort

/-- A rune's bounds, kept. -/
def cl (z : Int) : Int := if 0 ≤ z ∧ z ≤ 1114111 then z else 0
theorem cl_low (z : Int) : 0 ≤ cl z := by unfold cl; split <;> omega
theorem cl_high (z : Int) : cl z ≤ 1114111 := by unfold cl; split <;> omega
theorem cl_id {z : Int} (h0 : 0 ≤ z) (h1 : z ≤ 1114111) : cl z = z := by unfold cl; rw [if_pos ⟨h0, h1⟩]
def encP (p : Int × Int) : List Value := [.int .i32 (cl p.1), .int .i32 (cl p.2)]
def cfP (x y : Int × Int) : Int := cl x.1 - cl y.1

set_option maxHeartbeats 1000000 in
theorem closure57 (x y : Int) (x2 y2 : Int) (W : World) (hx0 : 0 ≤ x) (hx1 : x ≤ 1114111) (hy0 : 0 ≤ y) (hy1 : y ≤ 1114111) :
    Calls Try.prog 57 #[.agg #[.int .i32 x, .int .i32 x2], .agg #[.int .i32 y, .int .i32 y2]] W fun e w' => e = .returned (.int .i64 (x - y)) ∧ ∃ q os', w' = grow (W.drewN q) os' := by
  have hw1 : IntKind.i32.wrap (x - y) = x - y := by simp [IntKind.wrap, IntKind.bits, IntKind.signed]; omega
  have hw2 : IntKind.i64.wrap (x - y) = x - y := by simp [IntKind.wrap, IntKind.bits, IntKind.signed]; omega
  go_enter Try.func57, Try.ntmps57
  go_wp2
  go_ret
  exact ⟨rfl, 0, _, by rw [alloc_eq_grow, alloc_eq_grow, grow_grow]; rfl⟩

theorem cmpLays57 (blk off size : Nat) (w : World) : CmpLays Try.prog 57 #[] encP 2 cfP blk off size w :=
  fun _ _ _ _ x y => closure57 (cl x.1) (cl y.1) (cl x.2) (cl y.2) _ (cl_low _) (cl_high _) (cl_low _) (cl_high _)

theorem swoP : SWO (ltOf cfP) where
  irrefl x := by unfold ltOf cfP; simp
  trans x y z h1 h2 := by unfold ltOf cfP at *; simp at *; omega
  ntrans x y z h1 h2 := by unfold ltOf cfP at *; simp at *; omega

/-- The sort of a row of pairs, as the merging loop wants it. -/
theorem sort_any (blk cap : Nat) (d : Array (Int × Int)) (w : World) (hH : HoldsK encP 2 w blk 0 d) (hblk : blk < w.heap.size) (hsz : d.size < 4611686018427387904) :
    Calls Try.prog 56 #[.slice (some ⟨blk, 0, none⟩) d.size cap, .func (.func 57) #[] #[]] w fun e w' => e = .returned (.tuple #[]) ∧ ∃ d' : Array (Int × Int), d'.size = d.size ∧ d'.toList.Perm d.toList ∧ (∀ i j, i < j → j < d.size → cl d'[i]!.1 ≤ cl d'[j]!.1) ∧ HoldsK encP 2 w' blk 0 d' ∧ RowKit.Below blk w w' := by
  have eg : ∀ args w, (callFunc 57 args).run Try.prog w = .ok (.enter 57 args) w := enters_of Try.func57 (by kernel_rfl) rfl
  have hcon := AnyQ.slices_SortFunc Try.sortL 2 Try.isAgg75 Try.sizeOf75 encP (fun _ => rfl) (fun x v hv => by simp [encP] at hv; rcases hv with rfl | rfl <;> rfl) cfP swoP 57 #[] blk 0 cap d w eg (cmpLays57 blk 0 d.size w) hH hblk hsz
  change Calls Try.prog 56 _ _ _ at hcon
  refine hcon.mono ?_
  rintro e w' ⟨rfl, d', n, os, ⟨hs, _, hp⟩, hsrt, rfl⟩
  refine ⟨rfl, d', hs, ?_, ?_, ?_, ?_⟩
  · have e1 : d'.extract 0 d.size = d' := by rw [← hs]; simp
    have e2 : d.extract 0 d.size = d := by simp
    rw [e1, e2] at hp; exact hp
  · intro i j hij hj
    have := hsrt i j (Nat.zero_le _) hij hj
    unfold ltOf cfP at this
    simp at this
    omega
  · unfold sortWorldK
    exact holdsK_grow encP 2 _ os blk 0 d' (by show blk < (putRow id _ _ _ _).heap.size; simp [putRow, mapBlock]; exact hblk) (holdsK_putRowK encP 2 _ blk 0 d d' hH hs)
  · unfold sortWorldK
    refine ⟨rfl, rfl, rfl, ?_, ?_⟩
    · show _ ≤ (grow (putRow id _ _ _ _) os).heap.size
      simp [grow, putRow, mapBlock]
    · intro k hk
      show ((putRow id (Sort.ahead w n) blk 0 _).heap ++ os)[k]? = _
      have h1 : k < (putRow id (Sort.ahead w n) blk 0 (flatK encP 2 d')).heap.size := by simp [putRow, mapBlock]; omega
      rw [Array.getElem?_append_left h1]
      show ((Sort.ahead w n).heap.modify blk _)[k]? = _
      rw [Array.getElem?_modify, if_neg (by omega)]
      rfl
end Go.Proofs.Qxb6002344a.Rune
