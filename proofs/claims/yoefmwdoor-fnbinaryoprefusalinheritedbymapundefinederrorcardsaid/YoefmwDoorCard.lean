/-
  THE TIED CARD of 'FnBinaryOpRefusalInheritedByMapUndefinedError': the row's proof and the given tie, closed by the builder's one call.
-/
import Derived.Test.YoefmwDoorProofs
import Derived.Test.YoefmwDoorTie
import Derived.Test.YoefmwDoorCards
import Derived.SevenTiedAt
namespace Go.Proofs.YoefmwDoor
open Go

theorem card_holds : Rows.FnBinaryOpRefusalInheritedByMapUndefinedErrorCardSaid :=
  Claim7.holds_tied_plain_at .later [] [.called] true (true, "c6c1d2dc5c61880570f94987d61c86647caf0dabe5efcf1ab2122879c7b45405") true
    row_holds (fun _ h => by cases h) (by kernel_rfl) (fun _ h => by cases h) fnBinaryOpRefusalInheritedByMapUndefinedError_row_tie rfl ⟨rfl, rfl⟩ (by kernel_rfl) rfl
    (fun f fn hf hfn => by
      obtain rfl : f = 3 := Option.some.inj ((show Efmg.prog.funcNamed Rows.fnBinaryOpRefusalInheritedByMapUndefinedErrorRow.func = some 3 by kernel_rfl).symm.trans hf) |>.symm
      obtain rfl : fn = Efmg.f3 := (Option.some.inj (Efmg.func3.symm.trans hfn)).symm
      exact ⟨by kernel_rfl, fun j t ht => by
        rw [Efmg.params3] at ht
        have hm : t ∈ [3, 2] := by simpa using Array.mem_of_getElem? ht
        have hall : ([3, 2].all fun u => !Efmg.prog.wantsStandIn u) = true := by kernel_rfl
        exact (show Efmg.prog.wantsStandIn t = false by simpa using List.all_eq_true.1 hall t hm)⟩)
    (by kernel_rfl)
end Go.Proofs.YoefmwDoor
