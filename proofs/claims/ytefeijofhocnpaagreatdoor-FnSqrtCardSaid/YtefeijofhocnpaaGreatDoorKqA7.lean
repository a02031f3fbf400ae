/- For the claim of laws.The greatest number whose square is at most x (FnSqrt).: MulK, MulK0, IntMul, IntMulK. -/
import Derived.Test.YtefeijofhocnpaaGreatDoorKqA6
import Derived.StillTailTactics
import Derived.BigRegion
set_option linter.unusedVariables false
set_option linter.unusedSimpArgs false
namespace Go.Proofs.YtefeijofhocnpaaGreatDoor
open Go.RowKit
theorem iInt3 : (Tryz.prog.info? 80).map (fun i => i.size) = some 2 := by kernel_rfl
theorem uPInt : Tryz.prog.underlying 76 = some (.pointer 80) := by kernel_rfl
end Go.Proofs.YtefeijofhocnpaaGreatDoor
namespace Go.Proofs.YtefeijofhocnpaaGreatDoor
open Go.RowKit
theorem blk_upd (w : World) (zb k : Nat) (u v : Value) : Upd (Blk zb) w (((w.setCell ⟨zb, 1, none⟩ u).setCell ⟨zb, 0, none⟩ v).drewN k) :=
  (((Upd.refl (Blk zb) w).setCell (fun _ => rfl) _).setCell (fun _ => rfl) _).drewN k
end Go.Proofs.YtefeijofhocnpaaGreatDoor
