/-
  DERIVED. GIVEN WITH THE SEED: THE CARDS: each row of YoefmwDoorRows.lean that lists a variable, with what it lists TIED to the program's text (the seventh form; the later family's looks); each row that meets fmt, with fmt's text TOLD by the authors' own Lean function (tested against real Go, not proved from fmt's source: count such statements apart). THE CARD IS WHAT COUNTS. Prove the row's statement (the work); the ties are given (YoefmwDoorTie.lean); close each card by the builder's one call (the guide's Derived/Test/ToyasCard.lean, 'card_holds'). Laid BY PROGRAM, IN A SANDBOX (cutbox-door.mjs). By AI agents, Wed Nov 11 2026. No macro, syntax, notation, axiom, sorry.
-/
import Derived.Test.YoefmwDoorRows
import GoSem.ClaimSeven
namespace Go.Proofs.YoefmwDoor
namespace Rows

/-- THE TIED CARD OF 'zzlaws_root_b1.FnBinaryOpRefusalInheritedByMapUndefinedError'. -/
def fnBinaryOpRefusalInheritedByMapUndefinedErrorCard : Claim7 := { stood := { row := fnBinaryOpRefusalInheritedByMapUndefinedErrorRow, standIns := [], harness := (true, "c6c1d2dc5c61880570f94987d61c86647caf0dabe5efcf1ab2122879c7b45405"), looks := true }, kinds := [], alts := [], laidByText := true, laidKinds := [.called], laidTests := true, laidLooks := .later }
def FnBinaryOpRefusalInheritedByMapUndefinedErrorCardSaid : Prop := Claim7.holds Efmg.pinned (.plain (OpenSpec.ofChange fnBinaryOpRefusalInheritedByMapUndefinedErrorSpec)) fnBinaryOpRefusalInheritedByMapUndefinedErrorCard
end Rows
end Go.Proofs.YoefmwDoor
