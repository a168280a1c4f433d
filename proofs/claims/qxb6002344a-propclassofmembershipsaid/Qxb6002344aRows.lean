/-
  No cell of these rows narrows 'for every input' (looked for: loops, veiled, ifaces, maps, wideKeys, modest, calm, conditions, laid).
  DERIVED. THE GIVEN ROWS OF THIS SEAT. 8 by the template 'for every input the law returns true; each argument reads behind the call as it read before'; 0 by the template 'total and deterministic' (their statements: Qxb6002344aTotals.lean).
  GIVEN WITH THE SEED: the statements are not yours to turn. If you find one false, say at which input.
  Laid BY PROGRAM, IN A SANDBOX (cutbox-rows.mjs): the forced cells as the released guide's own fill.sh prints them over the translation 0a36bfbd586e1800… (all of the seat's roots in one cut). By AI agents, Wed Nov 11 2026. No macro, syntax, notation, axiom, sorry.
-/
import Derived.Test.Qxb6002344aChecked
import GoSem.Claim
import GoSem.ClaimJoined
import GoSem.ClaimMapViews
import Derived.JoinedTies
import Derived.KernelRfl
namespace Go.Proofs.Qxb6002344a
/- THE CELL 'sum', in the pinned program and in every row, IS THE sha256 OF THE DUMP (.gsa) THAT Qxb6002344aProg.lean LOADS. Nothing in Lean hashes anything: it is a label: what it is worth is what the hold of that sum in a sandbox is worth. -/
noncomputable def Try.pinned : Pinned := { name := "qxb6002344a", sum := "0a36bfbd586e1800e37ff8cb59988f7c4dd8bc2b9510aa2f27fc6a741b27d1e5", checked := Try.checked }
namespace Rows
def none {H : Type} : Left H := { results := [], args := [] }

/-- 'zzlaws_root_c1.PropJoinUnionsKindsAssociativeWithIdentity': WHATEVER THE INPUT: true; the input reads as it did. -/
def propJoinUnionsKindsAssociativeWithIdentitySpec : ChangeSpec := { name := "propJoinUnionsKindsAssociativeWithIdentity", fn := fun _ => fun
  | [d1, d2, d3] => { results := [.lit (.bool true)], args := [d1, d2, d3] }
  | _ => none }
def propJoinUnionsKindsAssociativeWithIdentityRow : OpenClaim := { program := "qxb6002344a", sum := "0a36bfbd586e1800e37ff8cb59988f7c4dd8bc2b9510aa2f27fc6a741b27d1e5", func := "example.com/firethorn/firethorn/zzlaws_root_c1.PropJoinUnionsKindsAssociativeWithIdentity", spec := "propJoinUnionsKindsAssociativeWithIdentity", apart := false }
def PropJoinUnionsKindsAssociativeWithIdentitySaid : Prop := propJoinUnionsKindsAssociativeWithIdentityRow.holds Try.pinned (OpenSpec.ofChange propJoinUnionsKindsAssociativeWithIdentitySpec)

/-- ITS FALSE NEIGHBOUR: 'it returns false'. Refute it at one input. -/
def propJoinUnionsKindsAssociativeWithIdentityWrong : ChangeSpec := { name := "propJoinUnionsKindsAssociativeWithIdentity", fn := fun _ => fun
  | [d1, d2, d3] => { results := [.lit (.bool false)], args := [d1, d2, d3] }
  | _ => none }
def PropJoinUnionsKindsAssociativeWithIdentityWrongFalsely : Prop := propJoinUnionsKindsAssociativeWithIdentityRow.holds Try.pinned (OpenSpec.ofChange propJoinUnionsKindsAssociativeWithIdentityWrong)

/-- 'zzlaws_root_c2.PropAttachedAddLeavesAliasesUnchanged': WHATEVER THE INPUT: true; the input reads as it did. -/
def propAttachedAddLeavesAliasesUnchangedSpec : ChangeSpec := { name := "propAttachedAddLeavesAliasesUnchanged", fn := fun _ => fun
  | [d1, d2, d3, d4, d5] => { results := [.lit (.bool true)], args := [d1, d2, d3, d4, d5] }
  | _ => none }
def propAttachedAddLeavesAliasesUnchangedRow : OpenClaim := { program := "qxb6002344a", sum := "0a36bfbd586e1800e37ff8cb59988f7c4dd8bc2b9510aa2f27fc6a741b27d1e5", func := "example.com/firethorn/firethorn/zzlaws_root_c2.PropAttachedAddLeavesAliasesUnchanged", spec := "propAttachedAddLeavesAliasesUnchanged", apart := false }
def PropAttachedAddLeavesAliasesUnchangedSaid : Prop := propAttachedAddLeavesAliasesUnchangedRow.holds Try.pinned (OpenSpec.ofChange propAttachedAddLeavesAliasesUnchangedSpec)

/-- ITS FALSE NEIGHBOUR: 'it returns false'. Refute it at one input. -/
def propAttachedAddLeavesAliasesUnchangedWrong : ChangeSpec := { name := "propAttachedAddLeavesAliasesUnchanged", fn := fun _ => fun
  | [d1, d2, d3, d4, d5] => { results := [.lit (.bool false)], args := [d1, d2, d3, d4, d5] }
  | _ => none }
def PropAttachedAddLeavesAliasesUnchangedWrongFalsely : Prop := propAttachedAddLeavesAliasesUnchangedRow.holds Try.pinned (OpenSpec.ofChange propAttachedAddLeavesAliasesUnchangedWrong)

/-- 'zzlaws_root_c4.PropRuneSetComplementInvolutive': WHATEVER THE INPUT: true; the input reads as it did. -/
def propRuneSetComplementInvolutiveSpec : ChangeSpec := { name := "propRuneSetComplementInvolutive", fn := fun _ => fun
  | [d1, d2] => { results := [.lit (.bool true)], args := [d1, d2] }
  | _ => none }
def propRuneSetComplementInvolutiveRow : OpenClaim := { program := "qxb6002344a", sum := "0a36bfbd586e1800e37ff8cb59988f7c4dd8bc2b9510aa2f27fc6a741b27d1e5", func := "example.com/firethorn/firethorn/zzlaws_root_c4.PropRuneSetComplementInvolutive", spec := "propRuneSetComplementInvolutive", unfollowed := true, recurses := true, apart := false }
def PropRuneSetComplementInvolutiveSaid : Prop := propRuneSetComplementInvolutiveRow.holds Try.pinned (OpenSpec.ofChange propRuneSetComplementInvolutiveSpec)

/-- ITS FALSE NEIGHBOUR: 'it returns false'. Refute it at one input. -/
def propRuneSetComplementInvolutiveWrong : ChangeSpec := { name := "propRuneSetComplementInvolutive", fn := fun _ => fun
  | [d1, d2] => { results := [.lit (.bool false)], args := [d1, d2] }
  | _ => none }
def PropRuneSetComplementInvolutiveWrongFalsely : Prop := propRuneSetComplementInvolutiveRow.holds Try.pinned (OpenSpec.ofChange propRuneSetComplementInvolutiveWrong)

/-- 'zzlaws_root_c5.PropVersionPatternMatchesDenotation': WHATEVER THE INPUT: true; the input reads as it did. -/
def propVersionPatternMatchesDenotationSpec : ChangeSpec := { name := "propVersionPatternMatchesDenotation", fn := fun _ => fun
  | [d1, d2] => { results := [.lit (.bool true)], args := [d1, d2] }
  | _ => none }
def propVersionPatternMatchesDenotationRow : OpenClaim := { program := "qxb6002344a", sum := "0a36bfbd586e1800e37ff8cb59988f7c4dd8bc2b9510aa2f27fc6a741b27d1e5", func := "example.com/firethorn/firethorn/zzlaws_root_c5.PropVersionPatternMatchesDenotation", spec := "propVersionPatternMatchesDenotation", apart := false }
def PropVersionPatternMatchesDenotationSaid : Prop := propVersionPatternMatchesDenotationRow.holds Try.pinned (OpenSpec.ofChange propVersionPatternMatchesDenotationSpec)

/-- ITS FALSE NEIGHBOUR: 'it returns false'. Refute it at one input. -/
def propVersionPatternMatchesDenotationWrong : ChangeSpec := { name := "propVersionPatternMatchesDenotation", fn := fun _ => fun
  | [d1, d2] => { results := [.lit (.bool false)], args := [d1, d2] }
  | _ => none }
def PropVersionPatternMatchesDenotationWrongFalsely : Prop := propVersionPatternMatchesDenotationRow.holds Try.pinned (OpenSpec.ofChange propVersionPatternMatchesDenotationWrong)

/-- 'zzlaws_root_c5.PropReferenceAcceptsVersionBounds': WHATEVER THE INPUT: true; the input reads as it did. -/
def propReferenceAcceptsVersionBoundsSpec : ChangeSpec := { name := "propReferenceAcceptsVersionBounds", fn := fun _ => fun
  | [d1, d2, d3, d4, d5, d6, d7] => { results := [.lit (.bool true)], args := [d1, d2, d3, d4, d5, d6, d7] }
  | _ => none }
def propReferenceAcceptsVersionBoundsRow : OpenClaim := { program := "qxb6002344a", sum := "0a36bfbd586e1800e37ff8cb59988f7c4dd8bc2b9510aa2f27fc6a741b27d1e5", func := "example.com/firethorn/firethorn/zzlaws_root_c5.PropReferenceAcceptsVersionBounds", spec := "propReferenceAcceptsVersionBounds", inPlace := ["internal/bytealg.abigen_runtime_cmpstring"], apart := false }
def PropReferenceAcceptsVersionBoundsSaid : Prop := propReferenceAcceptsVersionBoundsRow.holds Try.pinned (OpenSpec.ofChange propReferenceAcceptsVersionBoundsSpec)

/-- ITS FALSE NEIGHBOUR: 'it returns false'. Refute it at one input. -/
def propReferenceAcceptsVersionBoundsWrong : ChangeSpec := { name := "propReferenceAcceptsVersionBounds", fn := fun _ => fun
  | [d1, d2, d3, d4, d5, d6, d7] => { results := [.lit (.bool false)], args := [d1, d2, d3, d4, d5, d6, d7] }
  | _ => none }
def PropReferenceAcceptsVersionBoundsWrongFalsely : Prop := propReferenceAcceptsVersionBoundsRow.holds Try.pinned (OpenSpec.ofChange propReferenceAcceptsVersionBoundsWrong)

/-- 'zzlaws_root_c5.PropCompareNumbersDecimalSign': WHATEVER THE INPUT: true; the input reads as it did. -/
def propCompareNumbersDecimalSignSpec : ChangeSpec := { name := "propCompareNumbersDecimalSign", fn := fun _ => fun
  | [d1, d2] => { results := [.lit (.bool true)], args := [d1, d2] }
  | _ => none }
def propCompareNumbersDecimalSignRow : OpenClaim := { program := "qxb6002344a", sum := "0a36bfbd586e1800e37ff8cb59988f7c4dd8bc2b9510aa2f27fc6a741b27d1e5", func := "example.com/firethorn/firethorn/zzlaws_root_c5.PropCompareNumbersDecimalSign", spec := "propCompareNumbersDecimalSign", inPlace := ["internal/bytealg.abigen_runtime_cmpstring"], apart := false }
def PropCompareNumbersDecimalSignSaid : Prop := propCompareNumbersDecimalSignRow.holds Try.pinned (OpenSpec.ofChange propCompareNumbersDecimalSignSpec)

/-- ITS FALSE NEIGHBOUR: 'it returns false'. Refute it at one input. -/
def propCompareNumbersDecimalSignWrong : ChangeSpec := { name := "propCompareNumbersDecimalSign", fn := fun _ => fun
  | [d1, d2] => { results := [.lit (.bool false)], args := [d1, d2] }
  | _ => none }
def PropCompareNumbersDecimalSignWrongFalsely : Prop := propCompareNumbersDecimalSignRow.holds Try.pinned (OpenSpec.ofChange propCompareNumbersDecimalSignWrong)

/-- 'zzlaws_root_c4.PropRuneSetOfCanonicalUnion': WHATEVER THE INPUT: true; the input reads as it did. -/
def propRuneSetOfCanonicalUnionSpec : ChangeSpec := { name := "propRuneSetOfCanonicalUnion", fn := fun _ => fun
  | [d1, d2] => { results := [.lit (.bool true)], args := [d1, d2] }
  | _ => none }
def propRuneSetOfCanonicalUnionRow : OpenClaim := { program := "qxb6002344a", sum := "0a36bfbd586e1800e37ff8cb59988f7c4dd8bc2b9510aa2f27fc6a741b27d1e5", func := "example.com/firethorn/firethorn/zzlaws_root_c4.PropRuneSetOfCanonicalUnion", spec := "propRuneSetOfCanonicalUnion", unfollowed := true, recurses := true, apart := false }
def PropRuneSetOfCanonicalUnionSaid : Prop := propRuneSetOfCanonicalUnionRow.holds Try.pinned (OpenSpec.ofChange propRuneSetOfCanonicalUnionSpec)

/-- ITS FALSE NEIGHBOUR: 'it returns false'. Refute it at one input. -/
def propRuneSetOfCanonicalUnionWrong : ChangeSpec := { name := "propRuneSetOfCanonicalUnion", fn := fun _ => fun
  | [d1, d2] => { results := [.lit (.bool false)], args := [d1, d2] }
  | _ => none }
def PropRuneSetOfCanonicalUnionWrongFalsely : Prop := propRuneSetOfCanonicalUnionRow.holds Try.pinned (OpenSpec.ofChange propRuneSetOfCanonicalUnionWrong)

/-- 'zzlaws_root_c4.PropClassOfMembership': WHATEVER THE INPUT: true; the input reads as it did. -/
def propClassOfMembershipSpec : ChangeSpec := { name := "propClassOfMembership", fn := fun _ => fun
  | [d1, d2, d3, d4] => { results := [.lit (.bool true)], args := [d1, d2, d3, d4] }
  | _ => none }
def propClassOfMembershipRow : OpenClaim := { program := "qxb6002344a", sum := "0a36bfbd586e1800e37ff8cb59988f7c4dd8bc2b9510aa2f27fc6a741b27d1e5", func := "example.com/firethorn/firethorn/zzlaws_root_c4.PropClassOfMembership", spec := "propClassOfMembership", unfollowed := true, recurses := true, apart := false }
def PropClassOfMembershipSaid : Prop := propClassOfMembershipRow.holds Try.pinned (OpenSpec.ofChange propClassOfMembershipSpec)

/-- ITS FALSE NEIGHBOUR: 'it returns false'. Refute it at one input. -/
def propClassOfMembershipWrong : ChangeSpec := { name := "propClassOfMembership", fn := fun _ => fun
  | [d1, d2, d3, d4] => { results := [.lit (.bool false)], args := [d1, d2, d3, d4] }
  | _ => none }
def PropClassOfMembershipWrongFalsely : Prop := propClassOfMembershipRow.holds Try.pinned (OpenSpec.ofChange propClassOfMembershipWrong)

end Rows
end Go.Proofs.Qxb6002344a
