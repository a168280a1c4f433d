/- A []string ARGUMENT, OPENED AS 'SS' (seat b6002344a). -/
import Derived.Test.Qxb6002344aVerWalks
import Derived.SliceStrings
import Derived.ProofKit
set_option linter.unusedVariables false
namespace Go.Proofs.Qxb6002344a.Num
open Go.ChangeShapes Go.WideShapes Go.ChangeAt Go.RowKit

theorem cells9 : Try.prog.cellsOf 9 = 1 := by kernel_rfl

theorem open_SS {H : Type} {enc : TypeId × Value → H} {W : World} {base : Nat} {spare : Nat → Bool} {held : Bool} {fuel : Nat} {x : DataW H × List MemPlace} {a : Option Addr} {len cap : Nat}
    (h : DataW.trod enc Try.prog W base spare held fuel 26 (Value.slice a len cap).cells.toList = some x) : ∃ p, SS W a len p ∧ len ≤ maxLen := by
  rcases open_strings Try.underlying26 Try.underlying9 cells9 h with ⟨hcs, _⟩ | ⟨x, l, c, ss, hcs, _, hl, hm, hz, _, hcell, hws⟩
  · simp [Value.cells] at hcs
    obtain ⟨rfl, rfl, rfl⟩ := hcs
    exact ⟨[], ⟨rfl, .inl rfl, fun j hj => by omega⟩, by omega⟩
  · simp [Value.cells] at hcs
    obtain ⟨rfl, rfl, rfl⟩ := hcs
    have hlen : len ≤ ss.length := by rw [hz]; split <;> omega
    have hget : ∀ j, j < len → (ss.take len).getD j ByteArray.empty = ss.getD j ByteArray.empty := by
      intro j hj
      simp [List.getD_eq_getElem?_getD, hj]
    refine ⟨ss.take len, ⟨by simp; omega, ?_, ?_⟩, by omega⟩
    · by_cases h0 : len = 0
      · exact .inl h0
      · right
        obtain ⟨b, off, spot⟩ := x
        have hspot : spot = none := by simpa [Addr.add] using World.cell?_spot (hcell 0 (by omega))
        subst hspot
        refine ⟨b, off, rfl, fun j hj => ?_⟩
        rw [hget j hj, ← add_plain]
        exact hcell j (by omega)
    · intro j hj
      rw [hget j hj]
      refine hws _ ?_
      rw [List.getD_eq_getElem?_getD, List.getElem?_eq_getElem (by omega)]
      simp
end Go.Proofs.Qxb6002344a.Num
