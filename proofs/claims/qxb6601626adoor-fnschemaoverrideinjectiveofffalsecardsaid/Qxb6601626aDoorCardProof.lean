/-
  FnSchemaOverrideInjectiveOffFalse: THE TIED CARD, closed by the builder's one call (after the guide's MapyCard.lean); the tie is the given one.
-/
import Derived.Test.Qxb6601626aDoorProofs
import Derived.Test.Qxb6601626aDoorTie
import Derived.Test.Qxb6601626aDoorCards
import Derived.SevenTiedAt
namespace Go.Proofs.Qxb6601626aDoor
open Go

theorem card_holds : Rows.FnSchemaOverrideInjectiveOffFalseCardSaid :=
  Claim7.holds_tied_plain_at .later [] [.data, .data, .data] true (true, "6b7dddc96726f45cb2cbb6f905e52e0fcdc31c07785702222cc29c8c9deee8ff") false
    row_holds (fun _ h => by cases h) (by kernel_rfl) (fun _ h => by cases h) fnSchemaOverrideInjectiveOffFalse_row_tie rfl ⟨rfl, rfl⟩ (by kernel_rfl) rfl
    (fun f fn hf hfn => by
      obtain rfl : f = 5 := Option.some.inj ((show Tryd.prog.funcNamed Rows.fnSchemaOverrideInjectiveOffFalseRow.func = some 5 by kernel_rfl).symm.trans hf) |>.symm
      obtain rfl : fn = Tryd.f5 := (Option.some.inj (Tryd.func5.symm.trans hfn)).symm
      exact ⟨by kernel_rfl, fun j t ht => by
        rw [Tryd.params5] at ht
        have hm : t ∈ [3, 3] := by simpa using Array.mem_of_getElem? ht
        have hall : ([3, 3].all fun u => !Tryd.prog.wantsStandIn u) = true := by kernel_rfl
        exact (show Tryd.prog.wantsStandIn t = false by simpa using List.all_eq_true.1 hall t hm)⟩)
    (by kernel_rfl)
#print axioms card_holds
end Go.Proofs.Qxb6601626aDoor
