/-
  DERIVED. GIVEN WITH THE SEED: THE CARDS: each row of Qxb6002344aDoorRows.lean that lists a variable, with what it lists TIED to the program's text (the seventh form; the later family's looks); each row that meets fmt, with fmt's text TOLD by the authors' own Lean function (tested against real Go, not proved from fmt's source: count such statements apart). THE CARD IS WHAT COUNTS. Prove the row's statement (the work); the ties are given (Qxb6002344aDoorTie.lean); close each card by the builder's one call (the guide's Derived/Test/ToyasCard.lean, 'card_holds'). Laid BY PROGRAM, IN A SANDBOX (cutbox-door.mjs). By AI agents, Wed Nov 11 2026. No macro, syntax, notation, axiom, sorry.
-/
import Derived.Test.Qxb6002344aDoorRows
import GoSem.ClaimSeven
namespace Go.Proofs.Qxb6002344aDoor
namespace Rows

/-- THE TIED CARD OF 'zzlaws_root_c4.PropAppendQuantifierForm'. -/
def propAppendQuantifierFormCard : Claim7 := { stood := { row := propAppendQuantifierFormRow, standIns := [], harness := (true, "79736224b241ca83def238c1ddfbab909992d338ceb4a6f1bbbed8a7a58ae948"), looks := true }, kinds := [], alts := [], laidByText := true, laidKinds := [.data, .data, .data], laidTests := true, laidLooks := .later }
def PropAppendQuantifierFormCardSaid : Prop := Claim7.holds Tryd.pinned (.plain (OpenSpec.ofChange propAppendQuantifierFormSpec)) propAppendQuantifierFormCard

/-- THE TIED CARD OF 'zzlaws_root_c5.PropAddUnitsExactOrOverflow'. -/
def propAddUnitsExactOrOverflowCard : Claim7 := { stood := { row := propAddUnitsExactOrOverflowRow, standIns := [], harness := (true, "79736224b241ca83def238c1ddfbab909992d338ceb4a6f1bbbed8a7a58ae948"), looks := true }, kinds := [], alts := [], laidByText := true, laidKinds := [.data, .data, .data, .called, .called], laidTests := true, laidLooks := .later }
def PropAddUnitsExactOrOverflowCardSaid : Prop := Claim7.holds Tryd.pinned (.plain (OpenSpec.ofChange propAddUnitsExactOrOverflowSpec)) propAddUnitsExactOrOverflowCard
end Rows
end Go.Proofs.Qxb6002344aDoor
