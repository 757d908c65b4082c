/-
  FnSchemaOverrideInjectiveOffFalse: THE ROW PROVED (after the guide's MapyProofs.lean): the listed table opened, the witness in the heap that the door's own run leaves.
-/
import Derived.Test.Qxb6601626aDoorWalks
import Derived.ProofKit
import Derived.LaidMore
import Derived.OpenShut
import Derived.Stop.Joined
import Derived.Stop.LaidErr
import Derived.Lib.LaidTab
import Derived.MakeChecks
namespace Go.Proofs.Qxb6601626aDoor
open Go.ChangeShapes Go.WideShapes Go.ChangeAt Go.RowKit
set_option linter.unusedVariables false

theorem own : ownKnob Tryd.prog.godebug = none := by kernel_rfl
def laid : List (String × DataW Unit) := Rows.fnSchemaOverrideInjectiveOffFalseRow.laid
theorem tabG : Tryd.prog.globalNamed tabName = some 0 := by kernel_rfl
theorem tabT : (Tryd.prog.globals[0]?).map (·.type) = some 42 := by kernel_rfl
theorem cells27 : Tryd.prog.cellsOf 27 = 1 := by kernel_rfl
theorem cells42 : Tryd.prog.cellsOf 42 = 20 := by kernel_rfl

/-- The door's own heap meets the condition. -/
theorem door_met (os : Os) (args : Array Value) : laidMetH Tryd.prog laid ((World.doorLaid Tryd.prog 24 os).forCall (fun _ _ => 0) ⟨#[], args, []⟩).memory :=
  laidMetH_of_parts3 (fuel := 8) (laidMet_of_run' 8 (by kernel_rfl) (by kernel_rfl)) (by kernel_rfl) (by kernel_rfl)

/-- WHAT THE CONDITION GIVES THE WALK: the table of powers of ten. -/
theorem of_laid {W : World} (h : laidMetH Tryd.prog laid W) : Walk.Tab W := by
  rw [MakeChecks.laidMetH_plain _ _ _ (by kernel_rfl)] at h
  have h2 : laidMet Tryd.prog [(tabName, Lib.tabData .u64 Lib.pow10Tab)] W := by
    have h1 := laidMet.tail (laidMet.tail (show laidMet Tryd.prog (_ :: _ :: _) W from h))
    have e : (laid.tail.tail) = [(tabName, Lib.tabData .u64 Lib.pow10Tab)] := by kernel_rfl
    rw [← e]
    exact h1
  exact Lib.tabIs_of_head tabG tabT Tryd.underlying42 Tryd.underlying27 cells27 cells42 h2

set_option maxRecDepth 100000 in
theorem lifted (os : Os) (started : os.Started) (H : Type) (enc : TypeId × Value → H) :
    ReturnsInHanded {} Tryd.checked os 5 .any (fun w args => (Rows.fnSchemaOverrideInjectiveOffFalseSpec.pre enc Tryd.prog Tryd.f5 [] false w args ∧ laidMetH Tryd.prog laid w) ∧ sizedMet enc Tryd.prog Tryd.f5 (OpenSpec.ofChange Rows.fnSchemaOverrideInjectiveOffFalseSpec) false w args)
      (Rows.fnSchemaOverrideInjectiveOffFalseSpec.post enc Tryd.prog Tryd.f5 false true false false) := by
  refine returnsInHanded_of_change_and (C := Tryd.checked) (X := fun w _ => laidMetH Tryd.prog laid w) (fun _ _ _ hh h => h.of_heap hh) own started (by kernel_rfl) Tryd.func5
    (ChangeSpec.witness_shaped (enc := enc) (C := Tryd.checked) (os := os) (X := fun w _ => laidMetH Tryd.prog laid w) false (World.doorLaid Tryd.prog 24 os) #[.int .i64 0, .int .i64 0] 8 rfl (World.shaped_of_RefB (by kernel_rfl) (by kernel_rfl)) (by kernel_rfl) (by kernel_rfl) (by kernel_rfl) (door_met os _)) ?_
  intro W base args ds gs before hval0 hW _ _ hL _
  have hval : ∀ (j : Nat) t v, Tryd.f5.params[j]? = some t → args[j]? = some v → Value.okWide Tryd.prog W .any base t v := hval0
  have hW' := hW
  obtain ⟨p, q, hA0, hV, rfl, hfz, hnd⟩ := hW
  have hA : DataW.TrodAll enc Tryd.prog W 0 (fun _ => true) true Tryd.f5.params.toList args.toList ds p := hA0
  rw [Tryd.params5] at hA hval
  obtain ⟨v0, vs0, d0, ds0, p0, q0, hargs, rfl, rfl, h0, r0⟩ := trodAll_cons hA
  obtain ⟨v1, vs1, d1, ds1, p1, q1, rfl, rfl, rfl, h1, r1⟩ := trodAll_cons r0
  obtain ⟨rfl, rfl, rfl⟩ := trodAll_nil r1
  obtain rfl : args = #[v0, v1] := by cases args; simp_all
  obtain ⟨rfl, rfl⟩ := trodVars_none hV
  obtain ⟨i, rfl, rfl, rfl, wi⟩ := open_int Tryd.underlying3 (hval 0 3 v0 rfl rfl) h0
  obtain ⟨j, rfl, rfl, rfl, wj⟩ := open_int Tryd.underlying3 (hval 1 3 v1 rfl rfl) h1
  have bi := bounds_i64 wi
  have bj := bounds_i64 wj
  have hT := of_laid hL
  clear hA0 hval0
  refine (Walk.law_any i j W bi.1 bi.2 bj.1 bj.2 hT).mono fun e W' ⟨he, bel⟩ => ?_
  subst he
  exact ⟨_, rfl, _, _, _, [], _, [], hW', trodAll_mk1 (shut_bool Tryd.underlying4 _), (trodAll_cons_mk (shut_int Tryd.underlying3 wi) (trodAll_cons_mk (shut_int Tryd.underlying3 wj) trodAll_mk0)), rfl, bel.frame _, fun h => by cases h⟩

theorem row_holds : Rows.FnSchemaOverrideInjectiveOffFalseSaid :=
  OpenClaim.holds_of_wide 5 Tryd.f5 rfl rfl rfl rfl rfl rfl rfl ⟨rfl, rfl, rfl, rfl, rfl⟩ rfl rfl rfl rfl rfl (by kernel_rfl) Tryd.func5 (by kernel_rfl)
    (of_decide_eq_true (by kernel_rfl)) (by unfold Func.isWrapper; first | (rw [if_pos (by decide +kernel)]; kernel_rfl) | (rw [if_neg (by decide +kernel)]; exact ⟨rfl, rfl⟩))
    (fun os started H enc _ => lifted os started H enc)
#print axioms row_holds
end Go.Proofs.Qxb6601626aDoor
