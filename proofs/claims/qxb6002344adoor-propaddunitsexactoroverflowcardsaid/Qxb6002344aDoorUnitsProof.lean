/-
  A PROOF OF 'Rows.PropAddUnitsExactOrOverflowCardSaid': the row over the walk; that strconv.ErrRange is an error of errors.New's make is read off the row's condition; the card by the builder's one call over the given tie. After the guide's MapyProofs, MapyCard, GuardProofs.
-/
import Derived.Test.Qxb6002344aDoorRows
import Derived.Test.Qxb6002344aDoorEnter
import Derived.Test.Qxb6002344aDoorTie
import Derived.Test.Qxb6002344aDoorCards
import Derived.Test.Qxb6002344aDoorUnitsLaw
import Derived.ProofKit
import Derived.LaidMore
import Derived.OpenShut
import Derived.ShutString
import Derived.Stop.Joined
import Derived.Stop.LaidErr
import Derived.SevenTiedAt
namespace Go.Proofs.Qxb6002344aDoor.propAddUnitsExactOrOverflow
open Go.ChangeShapes Go.WideShapes Go.ChangeAt Go.RowKit
open Go.ChangeMaps (open_string shut_string)
set_option linter.unusedVariables false

theorem own : ownKnob Tryd.prog.godebug = none := by kernel_rfl

/-- The door's own heap meets the condition. -/
theorem door_met (os : Os) (args : Array Value) : laidMetH Tryd.prog Rows.propAddUnitsExactOrOverflowRow.laid ((World.doorLaid Tryd.prog 400 os).forCall (fun _ _ => 0) ⟨#[], args, []⟩).memory :=
  laidMetH_of_parts3 (fuel := 8) (laidMet_of_run' 8 (by kernel_rfl) (by kernel_rfl)) (by kernel_rfl) (by kernel_rfl)

def ptrName : DataW Unit → String
  | .iface n _ => n
  | _ => default
def nmP : String := ptrName Rows.laid_strconv_ErrRange
def nm : String := "errors.errorString"
theorem gErr : Tryd.prog.globalNamed "strconv.ErrRange" = some 1 := by kernel_rfl
theorem tErr : (Tryd.prog.globals[1]?).map (·.type) = some 39 := by kernel_rfl
theorem cells71 : Tryd.prog.cellsOf 71 = 1 := by kernel_rfl
theorem cells9 : Tryd.prog.cellsOf 9 = 1 := by kernel_rfl
theorem row69 (u : TypeId) (h : Tryd.prog.typeName? 3 u = some nmP) : u = 69 :=
  typeName_ptr_named (P := Tryd.prog) (nm := nm) (by kernel_rfl) (by kernel_rfl) (by decide) u (h.trans (congrArg some (by decide)))

/-- What the condition gives the walk: strconv.ErrRange is an interface value. -/
theorem of_laid {W : World} (h : laidMetH Tryd.prog Rows.propAddUnitsExactOrOverflowRow.laid W) : Units.Err W := by
  rw [MakeChecks.laidMetH_plain _ _ _ (by kernel_rfl)] at h
  have h2 : laidMet Tryd.prog [("strconv.ErrRange", Rows.laid_strconv_ErrRange), ("strconv.ErrSyntax", Rows.laid_strconv_ErrSyntax)] W := laidMet.tail (laidMet.tail (laidMet.tail h))
  obtain ⟨a, s, hv, _, _, _⟩ := laid_sentinel h2 gErr tErr Tryd.underlying39 row69 Tryd.underlying69 Tryd.underlying71 rfl rfl Tryd.underlying9 cells71 cells9
  exact ⟨_, _, hv⟩

set_option maxRecDepth 100000 in
theorem lifted (os : Os) (started : os.Started) (H : Type) (enc : TypeId × Value → H) :
    ReturnsInHanded {} Tryd.checked os 4 .any (fun w args => (Rows.propAddUnitsExactOrOverflowSpec.pre enc Tryd.prog Tryd.f4 [] false w args ∧ laidMetH Tryd.prog Rows.propAddUnitsExactOrOverflowRow.laid w) ∧ sizedMet enc Tryd.prog Tryd.f4 (OpenSpec.ofChange Rows.propAddUnitsExactOrOverflowSpec) false w args)
      (Rows.propAddUnitsExactOrOverflowSpec.post enc Tryd.prog Tryd.f4 false true false false) := by
  refine returnsInHanded_of_change_and (C := Tryd.checked) (X := fun w _ => laidMetH Tryd.prog Rows.propAddUnitsExactOrOverflowRow.laid w) (fun _ _ _ hh h => h.of_heap hh) own started (by kernel_rfl) Tryd.func4
    (ChangeSpec.witness_shaped (enc := enc) (C := Tryd.checked) (os := os) (X := fun w _ => laidMetH Tryd.prog Rows.propAddUnitsExactOrOverflowRow.laid w) false (World.doorLaid Tryd.prog 400 os) #[.int .i64 0, .string ByteArray.empty, .int .i64 0] 8 rfl (World.shaped_of_RefB (by kernel_rfl) (by kernel_rfl)) (by kernel_rfl) (by kernel_rfl) (by kernel_rfl) (door_met os _)) ?_
  intro W base args ds gs before hval0 hW _ _ hL _
  have hval : ∀ (j : Nat) t v, Tryd.f4.params[j]? = some t → args[j]? = some v → Value.okWide Tryd.prog W .any base t v := hval0
  have hW' := hW
  obtain ⟨p, q, hA0, hV, rfl, hfz, hnd⟩ := hW
  have hA : DataW.TrodAll enc Tryd.prog W 0 (fun _ => true) true Tryd.f4.params.toList args.toList ds p := hA0
  rw [Tryd.params4] at hA hval
  obtain ⟨v0, vs0, d0, ds0, p0, q0, hargs, rfl, rfl, h0, r0⟩ := trodAll_cons hA
  obtain ⟨v1, vs1, d1, ds1, p1, q1, rfl, rfl, rfl, h1, r1⟩ := trodAll_cons r0
  obtain ⟨v2, vs2, d2, ds2, p2, q2, rfl, rfl, rfl, h2, r2⟩ := trodAll_cons r1
  obtain ⟨rfl, rfl, rfl⟩ := trodAll_nil r2
  obtain rfl : args = #[v0, v1, v2] := by cases args; simp_all
  obtain ⟨rfl, rfl⟩ := trodVars_none hV
  obtain ⟨a0, rfl, rfl, rfl, w0⟩ := open_int Tryd.underlying2 (hval 0 2 v0 rfl rfl) h0
  obtain ⟨s1, rfl, rfl, rfl, hs1⟩ := open_string Tryd.underlying9 (hval 1 9 v1 rfl rfl) h1
  obtain ⟨a2, rfl, rfl, rfl, w2⟩ := open_int Tryd.underlying2 (hval 2 2 v2 rfl rfl) h2
  have err := of_laid hL
  have b0 := bounds_i64 w0
  have b2 := bounds_i64 w2
  clear hA0 hval0
  simp only [List.append_nil] at hW'
  refine (Units.law4 a0 a2 s1 W hs1 (by omega) (by omega) (by omega) (by omega) err).mono fun e W' ⟨he, bel⟩ => ?_
  subst he
  exact ⟨_, rfl, _, _, _, [], [], [], hW', trodAll_mk1 (shut_bool Tryd.underlying4 _), (trodAll_cons_mk (shut_int Tryd.underlying2 w0) (trodAll_cons_mk (shut_string Tryd.underlying9 hs1) (trodAll_cons_mk (shut_int Tryd.underlying2 w2) trodAll_mk0))), rfl, bel.frame _, fun h => by cases h⟩

theorem closed : joinedFacts Tryd.prog 4 Tryd.f4 Rows.propAddUnitsExactOrOverflowSpec Rows.propAddUnitsExactOrOverflowRow = true := by
  refine Enter.and_mk (Enter.and_mk (Enter.and_mk (Enter.and_mk (Enter.and_mk (Enter.and_mk (Enter.and_mk ?_ Enter.enter) Enter.lifts) Enter.makes) ?_) ?_) ?_) ?_
  all_goals kernel_rfl

theorem over : Rows.PropAddUnitsExactOrOverflowSaid :=
  OpenClaim.holds_of_wide 4 Tryd.f4 rfl rfl rfl rfl rfl rfl rfl ⟨rfl, rfl, rfl, rfl, rfl⟩ rfl rfl rfl rfl rfl (by kernel_rfl) Tryd.func4 closed
    (of_decide_eq_true (by kernel_rfl)) (by unfold Func.isWrapper; first | (rw [if_pos (by decide +kernel)]; kernel_rfl) | (rw [if_neg (by decide +kernel)]; exact ⟨rfl, rfl⟩))
    (fun os started H enc _ => lifted os started H enc)

/-- THE CARD -/
theorem proved : Rows.PropAddUnitsExactOrOverflowCardSaid :=
  Claim7.holds_tied_plain_at .later [] [.data, .data, .data, .called, .called] true Rows.propAddUnitsExactOrOverflowCard.stood.harness true
    over (fun _ h => by cases h) (by kernel_rfl) (fun _ h => by cases h) propAddUnitsExactOrOverflow_row_tie rfl ⟨rfl, rfl⟩ (by kernel_rfl) rfl
    (fun f fn hf hfn => by
      obtain rfl : f = 4 := Option.some.inj ((show Tryd.prog.funcNamed Rows.propAddUnitsExactOrOverflowRow.func = some 4 by kernel_rfl).symm.trans hf) |>.symm
      obtain rfl : fn = Tryd.f4 := (Option.some.inj (Tryd.func4.symm.trans hfn)).symm
      exact ⟨by kernel_rfl, fun j t ht => by
        rw [Tryd.params4] at ht
        have hm : t ∈ [2, 9, 2] := by simpa using Array.mem_of_getElem? ht
        have hall : ([2, 9, 2].all fun u => !Tryd.prog.wantsStandIn u) = true := by kernel_rfl
        exact (show Tryd.prog.wantsStandIn t = false by simpa using List.all_eq_true.1 hall t hm)⟩)
    (by kernel_rfl)
#print axioms proved
end Go.Proofs.Qxb6002344aDoor.propAddUnitsExactOrOverflow
