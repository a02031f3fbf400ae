/- For the claim of laws.The greatest number whose square is at most x (FnSqrt).: Kara, MulAll. -/
import Derived.Test.YtefeijofhocnpaaGreatDoorKqA9
import Derived.StillTailTactics
import Derived.Deep.RegionHeld3
set_option linter.unusedVariables false
set_option linter.unusedSimpArgs false
namespace Go.Proofs.YtefeijofhocnpaaGreatDoor
open Go.RowKit
abbrev boxO (l : Loc) (N : Nat) : Obj := .cells #[.bool false, .slice l.A (digs N).length l.c] 80
theorem natCast_neg (N : Nat) : decide ((N : Int) < 0) = false := decide_eq_false (by omega)
theorem IntV.boxed {w w' : World} {l : Loc} {N : Nat} (h : NatV w l N) (u : Upd NoF (w.alloc (boxO l N)) w') : IntV w' w.heap.size l (N : Int) := by
  have hh := heap_alloc_new w (boxO l N)
  have hn : NatV (w.alloc (boxO l N)) l N := h.upd0 ((Upd.refl NoF w).alloc _)
  refine ⟨?_, ?_, ?_⟩
  · rw [natCast_neg]
    exact CellT.upd (CellT.new (by simp) hh) u (fun h => h)
  · rw [Int.natAbs_natCast]
    exact CellT.upd (CellT.new (by simp) hh) u (fun h => h)
  · rw [Int.natAbs_natCast]
    exact hn.upd0 u
end Go.Proofs.YtefeijofhocnpaaGreatDoor
namespace Go.Proofs.YtefeijofhocnpaaGreatDoor
open Go.RowKit
theorem MulPost.swap {w w' : World} {z : Loc} {p q : Prop} {m n a b sb ns : Nat} {J : SI} {e : Ending} (h : MulPost w z (p ∧ q ∧ n + m ≤ z.c) (n + m) (b * a) sb ns J e w') : MulPost w z (q ∧ p ∧ m + n ≤ z.c) (m + n) (a * b) sb ns J e w' := by
  obtain ⟨r, rs, J', h1, h2, h3, h4, h5, h6, h7, h8, h9⟩ := h
  rw [Nat.mul_comm b a] at h1 h8
  exact ⟨r, rs, J', h1, h2, fun h => h3 ⟨h.2.1, h.1, by omega⟩, by omega, h5, h6, h7, h8, h9⟩
theorem MulRes.swap {w w' : World} {z : Loc} {p q : Prop} {m n a b : Nat} {F : Nat → Nat → Prop} {e : Ending} (h : MulRes w z (p ∧ q ∧ n + m ≤ z.c) (n + m) (b * a) F e w') : MulRes w z (q ∧ p ∧ m + n ≤ z.c) (m + n) (a * b) F e w' := by
  obtain ⟨r, rs, h1, h2, h3, h4, h5, h6, h7, h8, h9⟩ := h
  rw [Nat.mul_comm b a] at h1 h8
  exact ⟨r, rs, h1, h2, fun h => h3 ⟨h.2.1, h.1, by omega⟩, by omega, h5, h6, h7, h8, h9⟩
def IntMulRes (w : World) (zb : Nat) (lz lx ly : Loc) (X Y : Int) (w' : World) : Prop :=
  ∃ (r : Loc) (k : Nat), (r = lz ∨ w.heap.size ≤ r.b) ∧ (Apart lz lx ∧ Apart lz ly ∧ (digs X.natAbs).length + (digs Y.natAbs).length ≤ lz.c → r = lz) ∧ k ≤ (digs X.natAbs).length + (digs Y.natAbs).length ∧ IntV w' zb r (X * Y) ∧ Upd (Or2 (Blk zb) (ZF lz k)) w w'
end Go.Proofs.YtefeijofhocnpaaGreatDoor
