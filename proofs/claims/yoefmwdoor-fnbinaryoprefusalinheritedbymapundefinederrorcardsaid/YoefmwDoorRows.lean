/-
  NARROWER THAN 'FOR EVERY INPUT', by the rows' own cells (each row's printed sentence says how): FnBinaryOpRefusalInheritedByMapUndefinedError: ifaces, laid.
  DERIVED. THE GIVEN ROWS OF THIS SEAT. 1 by the template 'for every input the law returns true; each argument reads behind the call as it read before'; 0 by the template 'total and deterministic' (their statements: YoefmwDoorTotals.lean).
  GIVEN WITH THE SEED: the statements are not yours to turn. If you find one false, say at which input.
  Laid BY PROGRAM, IN A SANDBOX (cutbox-rows.mjs): the forced cells as the released guide's own fill.sh prints them over the translation 573813d2a96b14e0… (all of the seat's roots in one cut). By AI agents, Wed Nov 11 2026. No macro, syntax, notation, axiom, sorry.
-/
import Derived.Test.YoefmwDoorChecked
import GoSem.Claim
import GoSem.ClaimJoined
import GoSem.ClaimMapViews
import Derived.JoinedTies
import Derived.KernelRfl
namespace Go.Proofs.YoefmwDoor
/- THE CELL 'sum', in the pinned program and in every row, IS THE sha256 OF THE DUMP (.gsa) THAT YoefmwDoorProg.lean LOADS. Nothing in Lean hashes anything: it is a label: what it is worth is what the hold of that sum in a sandbox is worth. -/
noncomputable def Efmg.pinned : Pinned := { name := "yoefmwdoor", sum := "573813d2a96b14e07a431fd3efafc4e23fba3657e6077ff7e1d448442a18b431", checked := Efmg.checked }
namespace Rows
def none {H : Type} : Left H := { results := [], args := [] }

/- WHAT THE LISTED PACKAGE-LEVEL VARIABLES READ AS WHEN THE CALL BEGINS. Each datum BY PROGRAM (the guide's laid-datum.mjs) off the statement by which the dump's own 'gosem.cut.vars' lays the variable. In a bare row this is a premise. The card (YoefmwDoorCards.lean) ties it to the program's text. -/
def laid_github_com_d5_tengo_v2_ErrInvalidOperator {H : Type} : DataW H := .iface "*errors.errorString" (.ptr (.agg [.lit (.string [105, 110, 118, 97, 108, 105, 100, 32, 111, 112, 101, 114, 97, 116, 111, 114])]))

/-- 'zzlaws_root_b1.FnBinaryOpRefusalInheritedByMapUndefinedError': WHATEVER THE INPUT: true; the input reads as it did. -/
def fnBinaryOpRefusalInheritedByMapUndefinedErrorSpec : ChangeSpec := { name := "fnBinaryOpRefusalInheritedByMapUndefinedError", vars := ["github.com/d5/tengo/v2.ErrInvalidOperator"], fn := fun _ => fun
  | [d1, d2, g1] => { results := [.lit (.bool true)], args := [d1, d2], vars := [g1] }
  | _ => none }
def fnBinaryOpRefusalInheritedByMapUndefinedErrorRow : OpenClaim := { program := "yoefmwdoor", sum := "573813d2a96b14e07a431fd3efafc4e23fba3657e6077ff7e1d448442a18b431", func := "github.com/d5/tengo/v2/zzlaws_root_b1.FnBinaryOpRefusalInheritedByMapUndefinedError", spec := "fnBinaryOpRefusalInheritedByMapUndefinedError", named := ["github.com/d5/tengo/v2.ErrInvalidOperator"], ifaces := true, apart := false, laid := [("github.com/d5/tengo/v2.ErrInvalidOperator", laid_github_com_d5_tengo_v2_ErrInvalidOperator)] }
def FnBinaryOpRefusalInheritedByMapUndefinedErrorSaid : Prop := fnBinaryOpRefusalInheritedByMapUndefinedErrorRow.holds Efmg.pinned (OpenSpec.ofChange fnBinaryOpRefusalInheritedByMapUndefinedErrorSpec)

/-- ITS FALSE NEIGHBOUR: 'it returns false'. Refute it at one input. -/
def fnBinaryOpRefusalInheritedByMapUndefinedErrorWrong : ChangeSpec := { name := "fnBinaryOpRefusalInheritedByMapUndefinedError", vars := ["github.com/d5/tengo/v2.ErrInvalidOperator"], fn := fun _ => fun
  | [d1, d2, g1] => { results := [.lit (.bool false)], args := [d1, d2], vars := [g1] }
  | _ => none }
def FnBinaryOpRefusalInheritedByMapUndefinedErrorWrongFalsely : Prop := fnBinaryOpRefusalInheritedByMapUndefinedErrorRow.holds Efmg.pinned (OpenSpec.ofChange fnBinaryOpRefusalInheritedByMapUndefinedErrorWrong)

end Rows
end Go.Proofs.YoefmwDoor
