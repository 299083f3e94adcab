/-
  THE WALKS of 'FnBinaryOpRefusalInheritedByMapUndefinedError' (function 3) and of '(*ObjectImpl).BinaryOp' (function 4): whatever op and iv are, the law returns true; behind it the heap has ten blocks more, and five draws have been made.
-/
import Derived.Test.YoefmwDoorField
import Derived.WalkKit
import Derived.WalkLawsBesides
import Derived.LaidEql
import Derived.Stop.LaidErr
namespace Go.Proofs.YoefmwDoor
open Go.RowKit

/-- 'x != y' between two interface values that hold one and the same pointer: false. -/
theorem run_neq_iface_ptr_same {P : Program} (w : World) {ti tp te : TypeId} {ms : Array (String × TypeId)} {i j : TypeInfo} (a : Addr)
    (hi : P.underlying ti = some (.interface ms)) (hp : P.underlying tp = some (.pointer te)) (hinfo : P.info? tp = some i) (hcomp : i.comparable = true) (hte : P.info? te = some j) :
    (binOp .neq ti (.iface tp (.pointer (some a))) (.iface tp (.pointer (some a)))).run P w = .ok (.bool false) w := by
  simp only [binOp]
  simp [Op.equal, Op.maxDepth, run_equalIn_iface_ptr_same w 9998 a hi hp hinfo hcomp hte]

theorem cell_drew {w : World} {a : Addr} {v : Value} (h : w.cell? a = some v) : w.drew.cell? a = some v := h

theorem comp48 : (Efmg.prog.info? 48).map (·.comparable) = some true := by kernel_rfl
theorem size75 : (Efmg.prog.info? 75).map (·.size) = some 1 := by kernel_rfl

/-- '(*ObjectImpl).BinaryOp', whatever its receiver and arguments: nil, and what ErrInvalidOperator holds. -/
theorem binop_any (o t r : Value) (a : Addr) (w : World) (hc : w.cell? ⟨0, 0, none⟩ = some (.iface 48 (.pointer (some a)))) :
    Calls Efmg.prog 4 #[o, t, r] w fun e w' => e = .returned (.tuple #[.nilIface, .iface 48 (.pointer (some a))]) ∧ w' = w.drew := by
  go_enter Efmg.func4, Efmg.ntmps4
  go_wp2
  go_region
  go_wp2
  go_ret2
  exact ⟨rfl, rfl⟩

/-- The ten blocks that the law lays: five receivers, five operands. -/
def grown (iv : Int) (w : World) : World :=
  (((((((((w.alloc (.cells #[] 30)).alloc (.cells #[.int .i64 iv] 34)).alloc (.cells #[.map none] 38)).alloc (.cells #[.int .i64 iv] 34)).alloc (.cells #[.map none] 40)).alloc (.cells #[.int .i64 iv] 34)).alloc (.cells #[] 43)).alloc (.cells #[.int .i64 iv] 34)).alloc (.cells #[.nilIface] 46)).alloc (.cells #[.int .i64 iv] 34)

set_option maxHeartbeats 1000000 in
theorem law_any (op iv : Int) (a : Addr) (w : World) (hc : w.cell? ⟨0, 0, none⟩ = some (.iface 48 (.pointer (some a)))) :
    Calls Efmg.prog 3 #[.int .i64 op, .int .i64 iv] w fun e w' => e = .returned (.bool true) ∧ w' = (grown iv w).drew.drew.drew.drew.drew := by
  obtain ⟨i, hi, hcmp⟩ := Option.map_eq_some_iff.1 comp48
  obtain ⟨j, hj, _⟩ := Option.map_eq_some_iff.1 size75
  have hne := fun (wx : World) => run_neq_iface_ptr_same (P := Efmg.prog) wx a Efmg.underlying26 Efmg.underlying48 hi hcmp hj
  clear hi hcmp hj
  have p38 := @part38
  have p40 := @part40
  have p43 := @part43
  have p46 := @part46
  go_enter Efmg.func3, Efmg.ntmps3
  go_wp2_with fail
  refine (binop_any _ _ _ a _ ?hc0).mono ?_
  case hc0 => repeat (first | exact hc | refine cell?_alloc_old _ ?_ | refine cell_drew ?_)
  rintro e w' ⟨rfl, rfl⟩
  go_wp2_with fail
  refine (binop_any _ _ _ a _ ?hc1).mono ?_
  case hc1 => repeat (first | exact hc | refine cell?_alloc_old _ ?_ | refine cell_drew ?_)
  rintro e w' ⟨rfl, rfl⟩
  go_wp2_with fail
  refine (binop_any _ _ _ a _ ?hc2).mono ?_
  case hc2 => repeat (first | exact hc | refine cell?_alloc_old _ ?_ | refine cell_drew ?_)
  rintro e w' ⟨rfl, rfl⟩
  go_wp2_with fail
  refine (binop_any _ _ _ a _ ?hc3).mono ?_
  case hc3 => repeat (first | exact hc | refine cell?_alloc_old _ ?_ | refine cell_drew ?_)
  rintro e w' ⟨rfl, rfl⟩
  go_wp2_with fail
  refine (binop_any _ _ _ a _ ?hc4).mono ?_
  case hc4 => repeat (first | exact hc | refine cell?_alloc_old _ ?_ | refine cell_drew ?_)
  rintro e w' ⟨rfl, rfl⟩
  go_wp2_with fail
  go_ret
  exact ⟨rfl, rfl⟩

/-- What a package-level variable held, it holds behind the ten blocks. -/
theorem var_grown {P : Program} {W : World} {n : String} {cs : Array Value} (iv : Int) (h : W.var? P n = some cs) : (grown iv W).drew.drew.drew.drew.drew.var? P n = some cs := by
  unfold grown
  exact var?_drew (var?_drew (var?_drew (var?_drew (var?_drew (var?_alloc (var?_alloc (var?_alloc (var?_alloc (var?_alloc (var?_alloc (var?_alloc (var?_alloc (var?_alloc (var?_alloc h))))))))))))))
end Go.Proofs.YoefmwDoor
