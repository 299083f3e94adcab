/-
  '&x.f' where the field f has no size and lies at the struct's own head: the address is the struct's own.
-/
import Derived.Test.YoefmwDoorProg
import Derived.WalkKit
import Derived.WalkLawsBesides
import Derived.Stop.Walk2
namespace Go.Proofs.YoefmwDoor
open Go.RowKit

theorem run_partAt_head {P : Program} {w : World} {b e c k : Nat} (hs : w.shape? b = some (e, c))
    (hb : P.cellsOf e = 0 ∨ byteOfCell P P.depth e (0 % P.cellsOf e) = some k) :
    (partAt ⟨b, 0, none⟩ 0 0).run P w = .ok ⟨b, 0, none⟩ w := by
  rcases hb with h0 | h1
  · simp [partAt, byteOf, noView, viewAt, hs, h0]
  · by_cases h0 : P.cellsOf e = 0
    · simp [partAt, byteOf, noView, viewAt, hs, h0]
    · simp only [Nat.zero_mod] at h1
      simp [partAt, byteOf, noView, viewAt, hs, h0, h1]

theorem part38 {w : World} {b : Nat} (hs : w.shape? b = some (38, 1)) : (partAt ⟨b, 0, none⟩ 0 0).run Efmg.prog w = .ok ⟨b, 0, none⟩ w :=
  run_partAt_head hs (.inr (show byteOfCell Efmg.prog Efmg.prog.depth 38 (0 % Efmg.prog.cellsOf 38) = some 0 by kernel_rfl))
theorem part40 {w : World} {b : Nat} (hs : w.shape? b = some (40, 1)) : (partAt ⟨b, 0, none⟩ 0 0).run Efmg.prog w = .ok ⟨b, 0, none⟩ w :=
  run_partAt_head hs (.inr (show byteOfCell Efmg.prog Efmg.prog.depth 40 (0 % Efmg.prog.cellsOf 40) = some 0 by kernel_rfl))
theorem part43 {w : World} {b : Nat} (hs : w.shape? b = some (43, 0)) : (partAt ⟨b, 0, none⟩ 0 0).run Efmg.prog w = .ok ⟨b, 0, none⟩ w :=
  run_partAt_head (k := 0) hs (.inl (show Efmg.prog.cellsOf 43 = 0 by kernel_rfl))
theorem part46 {w : World} {b : Nat} (hs : w.shape? b = some (46, 1)) : (partAt ⟨b, 0, none⟩ 0 0).run Efmg.prog w = .ok ⟨b, 0, none⟩ w :=
  run_partAt_head hs (.inr (show byteOfCell Efmg.prog Efmg.prog.depth 46 (0 % Efmg.prog.cellsOf 46) = some 0 by kernel_rfl))
end Go.Proofs.YoefmwDoor
