/- PLAIN: the pairs' flat row, the sorted pairs (seat b6002344a). -/
import Derived.Test.Qxb6002344aSort
set_option linter.unusedVariables false
namespace Go.Proofs.Qxb6002344a.Rune
open Go.RowKit

def fl (qs : List (Int × Int)) : List Value := qs.flatMap encP
theorem fl_snoc (qs : List (Int × Int)) (p : Int × Int) : fl (qs ++ [p]) = fl qs ++ encP p := by simp [fl]
theorem fl_len (qs : List (Int × Int)) : (fl qs).length = qs.length * 2 := by
  induction qs with
  | nil => rfl
  | cons p r ih => show (encP p ++ fl r).length = _; rw [List.length_append, ih]; simp [encP]; omega
theorem fl_get : ∀ (qs : List (Int × Int)) (j : Nat), j < qs.length * 2 → (fl qs)[j]? = some ((encP (qs[j / 2]!))[j % 2]!) := by
  intro qs
  induction qs with
  | nil => intro j h; simp at h
  | cons p r ih =>
    intro j h
    match j, h with
    | 0, _ => rfl
    | 1, _ => rfl
    | j + 2, h =>
      have e1 : (j + 2) / 2 = j / 2 + 1 := by omega
      have e2 : (j + 2) % 2 = j % 2 := by omega
      rw [e1, e2]
      show (fl r)[j]? = some ((encP (r[j / 2]!))[j % 2]!)
      exact ih j (by simp at h; omega)

/-- What the call owns holds the pairs, as the sort wants it. -/
theorem holds_of_owns {w : World} {base g cap : Nat} {qs : List (Int × Int)} (h : w.ownsRow base 75 2 (.slice (some ⟨g, 0, none⟩) qs.length cap) qs.length (fl qs)) : Sort.HoldsK encP 2 w g 0 qs.toArray := by
  intro j hj
  have hj' : j < qs.length * 2 := by simpa using hj
  rw [Nat.zero_add, Sort.get_flatK _ _ _ _ hj']
  refine ⟨?_, h.frozenAt j⟩
  rw [h.cellAt j hj', fl_get qs j hj']
  simp

theorem drop_prs {l : List Int} {k : Nat} (hk : k + 1 < l.length) : prs (l.drop k) = (l.getD k 0, l.getD (k + 1) 0) :: prs (l.drop (k + 2)) := by rw [drop_two hk]; rfl
theorem mem_prs : ∀ (l : List Int) (k : Nat), k % 2 = 0 → k + 1 < l.length → (l.getD k 0, l.getD (k + 1) 0) ∈ prs l := by
  intro l
  induction l using pairs_ind with
  | h0 => intro k _ h; simp at h
  | h1 a => intro k _ h; simp at h
  | h2 a b r ih =>
    intro k hk h
    match k, hk, h with
    | 0, _, _ => exact List.mem_cons_self
    | 1, hk, _ => omega
    | k + 2, hk, h =>
      rw [show k + 2 + 1 = k + 1 + 2 by omega, getD_two, getD_two]
      exact List.mem_cons_of_mem _ (ih k (by omega) (by simp at h; omega))
theorem prs_len : ∀ (l : List Int), (prs l).length = l.length / 2 := by
  intro l
  induction l using pairs_ind with
  | h0 => rfl
  | h1 a => simp [prs]
  | h2 a b r ih => show (prs r).length + 1 = _; rw [ih]; simp only [List.length_cons]; omega

/-- A valid pair. -/
def okP (p : Int × Int) : Prop := 0 ≤ p.1 ∧ p.1 ≤ p.2 ∧ p.2 ≤ 1114111
theorem asc_sorted : ∀ (ds : List (Int × Int)) (s : Int), (∀ p ∈ ds, okP p ∧ s ≤ p.1) → ds.Pairwise (fun p q => p.1 ≤ q.1) → asc s ds := by
  intro ds
  induction ds with
  | nil => intro s _ _; trivial
  | cons p r ih =>
    intro s h hs
    rw [List.pairwise_cons] at hs
    have hp := h p List.mem_cons_self
    exact ⟨hp.2, hp.1.2.1, hp.1.2.2, ih p.1 (fun q hq => ⟨(h q (List.mem_cons_of_mem _ hq)).1, hs.1 q hq⟩) hs.2⟩
theorem asc_of {d' : Array (Int × Int)} (hok : ∀ p ∈ d'.toList, okP p) (hs : ∀ i j, i < j → j < d'.size → cl d'[i]!.1 ≤ cl d'[j]!.1) : asc 0 d'.toList := by
  refine asc_sorted _ 0 (fun p hp => ⟨hok p hp, (hok p hp).1⟩) ?_
  rw [List.pairwise_iff_getElem]
  intro i j hi hj hij
  have hi' : i < d'.size := by simpa using hi
  have hj' : j < d'.size := by simpa using hj
  have h := hs i j hij hj'
  rw [getElem!_pos d' i hi', getElem!_pos d' j hj'] at h
  have o1 := hok d'[i] (Array.mem_toList_iff.2 (Array.getElem_mem hi'))
  have o2 := hok d'[j] (Array.mem_toList_iff.2 (Array.getElem_mem hj'))
  rw [cl_id o1.1 (by have := o1.2; omega), cl_id o2.1 (by have := o2.2; omega)] at h
  simpa using h

/-- The merged row is what runeSetOf promises. -/
theorem merged {l : List Int} {d' : Array (Int × Int)} (hok : ∀ p ∈ prs l, okP p) (hp : d'.toList.Perm (prs l)) (hs : ∀ i j, i < j → j < d'.size → cl d'[i]!.1 ≤ cl d'[j]!.1) :
    cn 0 (merge d'.toList) = true ∧ (∀ x, inP (merge d'.toList) x = inP l x) ∧ (merge d'.toList).length ≤ l.length := by
  have ha : asc 0 d'.toList := asc_of (fun p h => hok p (hp.mem_iff.1 h)) hs
  refine ⟨(merge_law _ 0 ha).1, fun x => ?_, ?_⟩
  · rw [(merge_law _ x ha).2, inQ_perm hp, inQ_prs]
  · have h1 := merge_len d'.toList
    have h2 := hp.length_eq
    rw [prs_len] at h2
    omega

end Go.Proofs.Qxb6002344a.Rune
