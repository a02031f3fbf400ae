/- For the claim of laws.The program's symbol is Jacobi's (FnJacobi).: Kara, MulAll. -/
import Derived.Test.YtefeijofhocnpaaGreatDoorKlA9
import Derived.StillTailTactics
import Derived.Deep.RegionHeld3
set_option linter.unusedVariables false
set_option linter.unusedSimpArgs false
namespace Go.Proofs.YtefeijofhocnpaaGreatDoor
open Go.RowKit
abbrev boxO (l : Loc) (N : Nat) : Obj := .cells #[.bool false, .slice l.A (digs N).length l.c] 80
theorem natCast_neg (N : Nat) : decide ((N : Int) < 0) = false := decide_eq_false (by omega)
theorem IntV.boxed {w w' : World} {l : Loc} {N : Nat} (h : NatV w l N) (u : Upd NoF (w.alloc (boxO l N)) w') : IntV w' w.heap.size l (N : Int) := by
  have hh := heap_alloc_new w (boxO l N)
  have hn : NatV (w.alloc (boxO l N)) l N := h.upd0 ((Upd.refl NoF w).alloc _)
  refine ⟨?_, ?_, ?_⟩
  · rw [natCast_neg]
    exact CellT.upd (CellT.new (by simp) hh) u (fun h => h)
  · rw [Int.natAbs_natCast]
    exact CellT.upd (CellT.new (by simp) hh) u (fun h => h)
  · rw [Int.natAbs_natCast]
    exact hn.upd0 u
end Go.Proofs.YtefeijofhocnpaaGreatDoor
namespace Go.Proofs.YtefeijofhocnpaaGreatDoor
open Go.RowKit
def IntMulRes (w : World) (zb : Nat) (lz lx ly : Loc) (X Y : Int) (w' : World) : Prop :=
  ∃ (r : Loc) (k : Nat), (r = lz ∨ w.heap.size ≤ r.b) ∧ (Apart lz lx ∧ Apart lz ly ∧ (digs X.natAbs).length + (digs Y.natAbs).length ≤ lz.c → r = lz) ∧ k ≤ (digs X.natAbs).length + (digs Y.natAbs).length ∧ IntV w' zb r (X * Y) ∧ Upd (Or2 (Blk zb) (ZF lz k)) w w'
end Go.Proofs.YtefeijofhocnpaaGreatDoor
