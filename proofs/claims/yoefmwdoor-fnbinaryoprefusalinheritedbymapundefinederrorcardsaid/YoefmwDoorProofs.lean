/-
  THE ROW PROVED: 'FnBinaryOpRefusalInheritedByMapUndefinedErrorSaid': from the condition on ErrInvalidOperator to the variable's cell ('laid_sentinel'); the witness starts in the heap that the door's own run leaves ('World.doorLaid').
-/
import Derived.Test.YoefmwDoorRows
import Derived.Test.YoefmwDoorWalks
import Derived.ProofKit
import Derived.LaidMore
import Derived.MakeChecks
import Derived.Stop.LaidErr
import Derived.Stop.Joined
namespace Go.Proofs.YoefmwDoor
open Go.ChangeShapes Go.WideShapes Go.RowKit

theorem own : ownKnob Efmg.prog.godebug = none := by kernel_rfl
/-- The variable's name, out of the given specification. -/
def errName : String := Rows.fnBinaryOpRefusalInheritedByMapUndefinedErrorSpec.vars.headD default
theorem gErr : Efmg.prog.globalNamed errName = some 0 := by kernel_rfl
theorem tErr : (Efmg.prog.globals[0]?).map (·.type) = some 26 := by kernel_rfl
theorem cells75 : Efmg.prog.cellsOf 75 = 1 := by kernel_rfl
theorem cells9 : Efmg.prog.cellsOf 9 = 1 := by kernel_rfl
/-- One type of the table alone is a pointer to errors.errorString: number 48. -/
theorem row48 (u : TypeId) (h : Efmg.prog.typeName? 3 u = Efmg.prog.typeName? 3 48) : u = 48 :=
  typeName_ptr_named (nm := "errors.errorString") (by kernel_rfl) (by kernel_rfl) (by decide) u (h.trans (by kernel_rfl))

/-- The door's own heap meets the condition. -/
theorem door_met (os : Os) (args : Array Value) : laidMetH Efmg.prog Rows.fnBinaryOpRefusalInheritedByMapUndefinedErrorRow.laid ((World.doorLaid Efmg.prog 28 os).forCall (fun _ _ => 0) ⟨#[], args, []⟩).memory :=
  laidMetH_of_parts3 (fuel := 8) (laidMet_of_run' 8 (by kernel_rfl) (by kernel_rfl)) (by kernel_rfl) (by kernel_rfl)

/-- WHAT THE CONDITION GIVES: the variable holds a pointer to an errors.errorString. -/
theorem of_laid {W : World} (h : laidMetH Efmg.prog Rows.fnBinaryOpRefusalInheritedByMapUndefinedErrorRow.laid W) :
    ∃ a : Addr, W.var? Efmg.prog errName = some #[.iface 48 (.pointer (some a))] := by
  rw [MakeChecks.laidMetH_plain _ _ _ (by kernel_rfl)] at h
  obtain ⟨a0, s0, hv0, _, _, _⟩ := laid_sentinel h gErr tErr Efmg.underlying26 (fun u hu => row48 u (hu.trans (by kernel_rfl))) Efmg.underlying48 Efmg.underlying75 rfl rfl Efmg.underlying9 cells75 cells9
  exact ⟨a0, hv0⟩

set_option maxRecDepth 100000 in
theorem lifted (os : Os) (started : os.Started) (H : Type) (enc : TypeId × Value → H) :
    ReturnsInHanded {} Efmg.checked os 3 .any (fun w args => (Rows.fnBinaryOpRefusalInheritedByMapUndefinedErrorSpec.pre enc Efmg.prog Efmg.f3 [] false w args ∧ laidMetH Efmg.prog Rows.fnBinaryOpRefusalInheritedByMapUndefinedErrorRow.laid w) ∧ sizedMet enc Efmg.prog Efmg.f3 (OpenSpec.ofChange Rows.fnBinaryOpRefusalInheritedByMapUndefinedErrorSpec) false w args)
      (Rows.fnBinaryOpRefusalInheritedByMapUndefinedErrorSpec.post enc Efmg.prog Efmg.f3 false true false false) := by
  refine returnsInHanded_of_change_and (C := Efmg.checked) (X := fun w _ => laidMetH Efmg.prog Rows.fnBinaryOpRefusalInheritedByMapUndefinedErrorRow.laid w) (fun _ _ _ hh h => h.of_heap hh) own started (by kernel_rfl) Efmg.func3
    (ChangeSpec.witness_shaped (enc := enc) (C := Efmg.checked) (os := os) (X := fun w _ => laidMetH Efmg.prog Rows.fnBinaryOpRefusalInheritedByMapUndefinedErrorRow.laid w) false (World.doorLaid Efmg.prog 28 os) #[.int .i64 0, .int .i64 0] 8 rfl (World.shaped_of_RefB (by kernel_rfl) (by kernel_rfl)) (by kernel_rfl) (by kernel_rfl) (by kernel_rfl) (door_met os _)) ?_
  intro W base args ds gs before hval0 hW _ _ hL _
  have hval : ∀ (j : Nat) t v, Efmg.f3.params[j]? = some t → args[j]? = some v → Value.okWide Efmg.prog W .any base t v := hval0
  have hW' := hW
  obtain ⟨p, q, hA0, hV0, rfl, hfz, hnd⟩ := hW
  have hA : DataW.TrodAll enc Efmg.prog W 0 (fun _ => true) true Efmg.f3.params.toList args.toList ds p := hA0
  have hV : DataW.TrodVars enc Efmg.prog W (fun _ => true) [errName] gs q := hV0
  rw [Efmg.params3] at hA hval
  obtain ⟨v0, v1, d0, d1, p0, p1, rfl, rfl, rfl, h0, h1⟩ := trodAll_two hA
  obtain ⟨op, rfl, rfl, rfl, hop⟩ := open_int Efmg.underlying3 (hval 0 3 v0 rfl rfl) h0
  obtain ⟨iv, rfl, rfl, rfl, hiv⟩ := open_int Efmg.underlying2 (hval 1 2 v1 rfl rfl) h1
  obtain ⟨a, hv⟩ := of_laid hL
  obtain ⟨rfl, rfl⟩ := hV.unique (vars_read1 enc gErr tErr Efmg.underlying26 hv trivial _)
  clear hA0 hV0 hval0
  have hg : W.cell? ⟨0, 0, none⟩ = some (.iface 48 (.pointer (some a))) := by simpa using World.var?_cell gErr hv 0
  have hv' := var_grown iv hv
  refine (law_any op iv a W hg).mono fun e W' ⟨he, hw⟩ => ?_
  subst he; subst hw
  refine ⟨_, rfl, _, _, _, [], [], [.cell 0 0], hW', ?_, ?_, ?_, ?_, fun h => by cases h⟩
  · exact trodAll_mk1 (shut_bool Efmg.underlying4 true)
  · exact trodAll_mk2 (shut_int Efmg.underlying3 hop) (shut_int Efmg.underlying2 hiv)
  · exact vars_read1 enc gErr tErr Efmg.underlying26 hv' trivial _
  · refine World.keptBut.alike (w'' := grown iv W) ?_ ⟨rfl, rfl, rfl⟩
    unfold grown
    exact World.keptBut_trans (World.keptBut_trans (World.keptBut_trans (World.keptBut_trans (World.keptBut_trans (World.keptBut_trans (World.keptBut_trans (World.keptBut_trans (World.keptBut_trans (World.keptBut_alloc _ _ _) (World.keptBut_alloc _ _ _)) (World.keptBut_alloc _ _ _)) (World.keptBut_alloc _ _ _)) (World.keptBut_alloc _ _ _)) (World.keptBut_alloc _ _ _)) (World.keptBut_alloc _ _ _)) (World.keptBut_alloc _ _ _)) (World.keptBut_alloc _ _ _)) (World.keptBut_alloc _ _ _)

theorem row_holds : Rows.FnBinaryOpRefusalInheritedByMapUndefinedErrorSaid :=
  OpenClaim.holds_of_wide 3 Efmg.f3 rfl rfl rfl rfl rfl rfl rfl ⟨rfl, rfl, rfl, rfl, rfl⟩ rfl rfl rfl rfl rfl (by kernel_rfl) Efmg.func3 (by kernel_rfl)
    (of_decide_eq_true (by kernel_rfl)) (by unfold Func.isWrapper; rw [if_neg (of_decide_eq_false (by kernel_rfl))]; exact ⟨rfl, rfl⟩)
    (fun os started H enc _ => lifted os started H enc)
end Go.Proofs.YoefmwDoor
