/-
  A PROOF OF 'Rows.PropAppendQuantifierFormCardSaid': the row over the walk; the listed table is read off the row's condition; the card by the builder's one call over the given tie. After the guide's MapyProofs, MapyCard.
-/
import Derived.Test.Qxb6002344aDoorRows
import Derived.Test.Qxb6002344aDoorEnter
import Derived.Test.Qxb6002344aDoorTie
import Derived.Test.Qxb6002344aDoorCards
import Derived.Test.Qxb6002344aDoorForm
import Derived.ProofKit
import Derived.LaidMore
import Derived.OpenShut
import Derived.ShutString
import Derived.Stop.Joined
import Derived.Stop.LaidErr
import Derived.Lib.LaidTab
import Derived.SevenTiedAt
namespace Go.Proofs.Qxb6002344aDoor.propAppendQuantifierForm
open Go.ChangeShapes Go.WideShapes Go.ChangeAt Go.RowKit
set_option linter.unusedVariables false

theorem own : ownKnob Tryd.prog.godebug = none := by kernel_rfl

/-- The door's own heap meets the condition. -/
theorem door_met (os : Os) (args : Array Value) : laidMetH Tryd.prog Rows.propAppendQuantifierFormRow.laid ((World.doorLaid Tryd.prog 400 os).forCall (fun _ _ => 0) ⟨#[], args, []⟩).memory :=
  laidMetH_of_parts3 (fuel := 8) (laidMet_of_run' 8 (by kernel_rfl) (by kernel_rfl)) (by kernel_rfl) (by kernel_rfl)

theorem gTab : Tryd.prog.globalNamed App.tabN = some 2 := by kernel_rfl
theorem tTab : (Tryd.prog.globals[2]?).map (·.type) = some 63 := by kernel_rfl
theorem cells32 : Tryd.prog.cellsOf 32 = 1 := by kernel_rfl
theorem cells63 : Tryd.prog.cellsOf 63 = 20 := by kernel_rfl
theorem tab_eq : (Rows.laid_internal_strconv_uint64pow10 : DataW Unit) = Lib.tabData .u64 Lib.pow10Tab := by rfl

/-- What the condition gives the walk: the table. -/
theorem of_laid {W : World} (h : laidMetH Tryd.prog Rows.propAppendQuantifierFormRow.laid W) : App.Tab W := by
  rw [MakeChecks.laidMetH_plain _ _ _ (by kernel_rfl)] at h
  have h2 : laidMet Tryd.prog [(App.tabN, Rows.laid_internal_strconv_uint64pow10)] W := laidMet.tail (laidMet.tail h)
  rw [tab_eq] at h2
  exact Lib.tabIs_of_head gTab tTab Tryd.underlying63 Tryd.underlying32 cells32 cells63 h2

set_option maxRecDepth 100000 in
theorem lifted (os : Os) (started : os.Started) (H : Type) (enc : TypeId × Value → H) :
    ReturnsInHanded {} Tryd.checked os 3 .any (fun w args => (Rows.propAppendQuantifierFormSpec.pre enc Tryd.prog Tryd.f3 [] false w args ∧ laidMetH Tryd.prog Rows.propAppendQuantifierFormRow.laid w) ∧ sizedMet enc Tryd.prog Tryd.f3 (OpenSpec.ofChange Rows.propAppendQuantifierFormSpec) false w args)
      (Rows.propAppendQuantifierFormSpec.post enc Tryd.prog Tryd.f3 false true false false) := by
  refine returnsInHanded_of_change_and (C := Tryd.checked) (X := fun w _ => laidMetH Tryd.prog Rows.propAppendQuantifierFormRow.laid w) (fun _ _ _ hh h => h.of_heap hh) own started (by kernel_rfl) Tryd.func3
    (ChangeSpec.witness_shaped (enc := enc) (C := Tryd.checked) (os := os) (X := fun w _ => laidMetH Tryd.prog Rows.propAppendQuantifierFormRow.laid w) false (World.doorLaid Tryd.prog 400 os) #[.int .i64 0, .int .i64 0, .bool false] 8 rfl (World.shaped_of_RefB (by kernel_rfl) (by kernel_rfl)) (by kernel_rfl) (by kernel_rfl) (by kernel_rfl) (door_met os _)) ?_
  intro W base args ds gs before hval0 hW _ _ hL _
  have hval : ∀ (j : Nat) t v, Tryd.f3.params[j]? = some t → args[j]? = some v → Value.okWide Tryd.prog W .any base t v := hval0
  have hW' := hW
  obtain ⟨p, q, hA0, hV, rfl, hfz, hnd⟩ := hW
  have hA : DataW.TrodAll enc Tryd.prog W 0 (fun _ => true) true Tryd.f3.params.toList args.toList ds p := hA0
  rw [Tryd.params3] at hA hval
  obtain ⟨v0, vs0, d0, ds0, p0, q0, hargs, rfl, rfl, h0, r0⟩ := trodAll_cons hA
  obtain ⟨v1, vs1, d1, ds1, p1, q1, rfl, rfl, rfl, h1, r1⟩ := trodAll_cons r0
  obtain ⟨v2, vs2, d2, ds2, p2, q2, rfl, rfl, rfl, h2, r2⟩ := trodAll_cons r1
  obtain ⟨rfl, rfl, rfl⟩ := trodAll_nil r2
  obtain rfl : args = #[v0, v1, v2] := by cases args; simp_all
  obtain ⟨rfl, rfl⟩ := trodVars_none hV
  obtain ⟨a0, rfl, rfl, rfl, w0⟩ := open_int Tryd.underlying3 (hval 0 3 v0 rfl rfl) h0
  obtain ⟨a1, rfl, rfl, rfl, w1⟩ := open_int Tryd.underlying3 (hval 1 3 v1 rfl rfl) h1
  obtain ⟨a2, rfl, rfl, rfl⟩ := open_bool Tryd.underlying4 (hval 2 4 v2 rfl rfl) h2
  have tab := of_laid hL
  have b0 := bounds_i64 w0
  have b1 := bounds_i64 w1
  clear hA0 hval0
  simp only [List.append_nil] at hW'
  refine (App.law3 a0 a1 a2 (by omega) (by omega) (by omega) (by omega) W tab).mono fun e W' ⟨he, bel⟩ => ?_
  subst he
  exact ⟨_, rfl, _, _, _, [], [], [], hW', trodAll_mk1 (shut_bool Tryd.underlying4 _), (trodAll_cons_mk (shut_int Tryd.underlying3 w0) (trodAll_cons_mk (shut_int Tryd.underlying3 w1) (trodAll_cons_mk (shut_bool Tryd.underlying4 _) trodAll_mk0))), rfl, bel.frame _, fun h => by cases h⟩

theorem closed : joinedFacts Tryd.prog 3 Tryd.f3 Rows.propAppendQuantifierFormSpec Rows.propAppendQuantifierFormRow = true := by
  refine Enter.and_mk (Enter.and_mk (Enter.and_mk (Enter.and_mk (Enter.and_mk (Enter.and_mk (Enter.and_mk ?_ Enter.enter) Enter.lifts) Enter.makes) ?_) ?_) ?_) ?_
  all_goals kernel_rfl

theorem over : Rows.PropAppendQuantifierFormSaid :=
  OpenClaim.holds_of_wide 3 Tryd.f3 rfl rfl rfl rfl rfl rfl rfl ⟨rfl, rfl, rfl, rfl, rfl⟩ rfl rfl rfl rfl rfl (by kernel_rfl) Tryd.func3 closed
    (of_decide_eq_true (by kernel_rfl)) (by unfold Func.isWrapper; first | (rw [if_pos (by decide +kernel)]; kernel_rfl) | (rw [if_neg (by decide +kernel)]; exact ⟨rfl, rfl⟩))
    (fun os started H enc _ => lifted os started H enc)

/-- THE CARD -/
theorem proved : Rows.PropAppendQuantifierFormCardSaid :=
  Claim7.holds_tied_plain_at .later [] [.data, .data, .data] true Rows.propAppendQuantifierFormCard.stood.harness true
    over (fun _ h => by cases h) (by kernel_rfl) (fun _ h => by cases h) propAppendQuantifierForm_row_tie rfl ⟨rfl, rfl⟩ (by kernel_rfl) rfl
    (fun f fn hf hfn => by
      obtain rfl : f = 3 := Option.some.inj ((show Tryd.prog.funcNamed Rows.propAppendQuantifierFormRow.func = some 3 by kernel_rfl).symm.trans hf) |>.symm
      obtain rfl : fn = Tryd.f3 := (Option.some.inj (Tryd.func3.symm.trans hfn)).symm
      exact ⟨by kernel_rfl, fun j t ht => by
        rw [Tryd.params3] at ht
        have hm : t ∈ [3, 3, 4] := by simpa using Array.mem_of_getElem? ht
        have hall : ([3, 3, 4].all fun u => !Tryd.prog.wantsStandIn u) = true := by kernel_rfl
        exact (show Tryd.prog.wantsStandIn t = false by simpa using List.all_eq_true.1 hall t hm)⟩)
    (by kernel_rfl)
#print axioms proved
end Go.Proofs.Qxb6002344aDoor.propAppendQuantifierForm
