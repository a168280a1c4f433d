/- 'zzc := make([]string, len(p)); copy(zzc, p)': THE COPY's RUN (seat b6002344a). -/
import Derived.Test.Qxb6002344aProg
import Derived.WalkKit
import Derived.Below
import Derived.Deep.OwnRows
import Derived.Laws.CopyRow
import Derived.Laws.CopyOwn
set_option linter.unusedVariables false
namespace Go.Proofs.Qxb6002344a.Num
open Go.RowKit

theorem info9 : (Try.prog.info? 9).map (fun i => (i.zero, i.size, i.bytes)) = some (some (.string ByteArray.empty), 1, 16) := by kernel_rfl
theorem size9 : (Try.prog.info? 9).map (·.size) = some 1 := by kernel_rfl

theorem cell_lt {w : World} {b off : Nat} {v : Value} (h : w.cell? ⟨b, off, none⟩ = some v) : b < w.heap.size := by
  unfold World.cell? at h
  by_cases hb : b < w.heap.size
  · exact hb
  · simp only [Array.getElem?_eq_none (Nat.le_of_not_lt hb)] at h
    cases h

/-- Behind the make: the copy. -/
theorem copied (w : World) (b off n c : Nat) (p : List ByteArray) (hl : n = p.length)
    (hc : ∀ j, j < n → w.cell? ⟨b, off + j, none⟩ = some (.string (p.getD j ByteArray.empty))) :
    ∃ W, (Builtin.copy_ #[26, 26] 3 #[.slice (some ⟨w.heap.size, 0, none⟩) n n, .slice (some ⟨b, off, none⟩) n c]).run Try.prog (w.alloc (.cells (madeCells #[.string ByteArray.empty] n) 9)) = .ok (goInt n) W ∧
      (∀ j, j < n → W.cell? ⟨w.heap.size, 0 + j, none⟩ = some (.string (p.getD j ByteArray.empty))) ∧ Below w.heap.size w W ∧ w.heap.size < W.heap.size := by
  let cs : List Value := p.map Value.string
  have hlen : cs.length = n := by simp [cs, hl]
  have hcs : ∀ j, j < n → cs[j]? = some (.string (p.getD j ByteArray.empty)) := by
    intro j hj
    simp only [cs, List.getElem?_map, List.getD_eq_getElem?_getD]
    rw [List.getElem?_eq_getElem (by omega)]
    rfl
  have hg : (w.alloc (.cells (madeCells #[.string ByteArray.empty] n) 9)).heap[w.heap.size]? = some (.cells (madeCells #[.string ByteArray.empty] n) 9 (0, 0)) := by
    exact Go.Deep.blk_alloc_new _ _
  have hsz : (madeCells #[Value.string ByteArray.empty] n).size = n := size_madeCells _ _
  have hrun := run_copy_row Try.prog (w.alloc (.cells (madeCells #[.string ByteArray.empty] n) 9)) 26 26 3 9 w.heap.size 0 n n ⟨b, off, none⟩ n c (madeCells #[.string ByteArray.empty] n) 9 cs
    Try.underlying26 size9 hg (by rw [hlen]; simp) (by
      intro j v hv
      have hj : j < n := by
        have := (List.getElem?_eq_some_iff.1 hv).1
        omega
      have h1 := hc j hj
      rw [hcs j hj] at hv
      obtain rfl := Option.some.inj hv
      have hb := cell_lt h1
      rw [show (⟨b, off, none⟩ : Addr).add j = ⟨b, off + j, none⟩ from by simp [Addr.add], World.cell?_alloc_past _ _ _ hb]
      exact h1) (by rw [hlen, hsz]; omega) (by
      intro v hv
      simp only [cs, List.mem_map] at hv
      obtain ⟨s, _, rfl⟩ := hv
      rfl)
  rw [hlen] at hrun
  refine ⟨_, hrun, ?_, ?_, ?_⟩
  · intro j hj
    have hset := setRow_heap (w.alloc (.cells (madeCells #[.string ByteArray.empty] n) 9)) w.heap.size (madeCells #[.string ByteArray.empty] n)
      ((madeCells #[Value.string ByteArray.empty] n).toList.take 0 ++ cs ++ (madeCells #[Value.string ByteArray.empty] n).toList.drop (0 + n)).toArray 9 (0, 0) hg
    unfold World.cell?
    rw [hset]
    have : (madeCells #[Value.string ByteArray.empty] n).toList.drop (0 + n) = [] := by
      rw [List.drop_eq_nil_iff]; simp [hsz]
    rw [this, List.take_zero, List.nil_append, List.append_nil]
    simpa using hcs j hj
  · exact below_setRow ((Below.refl _ _).alloc (Nat.le_refl _) _) (Nat.le_refl _) _
  · have hb : Below w.heap.size (w.alloc (.cells (madeCells #[.string ByteArray.empty] n) 9)) ((w.alloc (.cells (madeCells #[.string ByteArray.empty] n) 9)).setRow w.heap.size ((madeCells #[Value.string ByteArray.empty] n).toList.take 0 ++ cs ++ (madeCells #[Value.string ByteArray.empty] n).toList.drop (0 + n)).toArray) := below_setRow (Below.refl _ _) (Nat.le_refl _) _
    have := hb.size
    rw [World.size_alloc] at this
    omega
end Go.Proofs.Qxb6002344a.Num
