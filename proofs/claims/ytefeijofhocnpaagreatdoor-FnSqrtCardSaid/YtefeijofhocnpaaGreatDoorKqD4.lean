/- For the claim of laws.The greatest number whose square is at most x (FnSqrt).: Binom. -/
import Derived.Test.YtefeijofhocnpaaGreatDoorKqD3
import Derived.Test.YtefeijofhocnpaaGreatDoorKqB5
set_option linter.unusedVariables false
set_option linter.unusedSimpArgs false
namespace Go.Proofs.YtefeijofhocnpaaGreatDoor
open Go.RowKit
def OneI (w : World) : Prop := ∃ (ob oo : Nat) (lo : Loc), CellT 76 w 0 0 (.pointer (some ⟨ob, oo, none⟩)) ∧ IntVo w ob oo lo 1
theorem OneI.upd {w w' : World} (h : OneI w) (u : Upd NoF w w') : OneI w' := let ⟨ob, oo, lo, h1, h2⟩ := h; ⟨ob, oo, lo, h1.upd u (fun h => h), h2.upd u (fun _ h => h) (fun _ _ h => h)⟩
theorem Ints.new {w0 w : World} {L : List (Nat × Loc × Int)} (h : Ints w0 w L) : Ints w0 (w.alloc (.cells #[.bool false, .slice none 0 0] 80)) ((w.heap.size, nilL, 0) :: L) := by
  have hD := intBox w _ (Upd.refl NoF _)
  refine h.cons ((Upd.refl NoF w).alloc _) ⟨?_, ?_, ?_⟩ (Nat.le_refl _) (Or.inl rfl)
  · exact hD.neg
  · have := hD.abs
    show CellT _ _ _ _ (.slice nilL.A (digs 0).length nilL.c)
    rw [digs_zero]; exact this
  · exact NatV.zero (nilL_ok _)
theorem size_alloc (w : World) (o : Obj) : (w.alloc o).heap.size = w.heap.size + 1 := by simp
theorem OneI.sub {w0 w : World} {L : List (Nat × Loc × Int)} (h : OneI w0) (hI : Ints w0 w L) : ∃ (ob oo : Nat) (lo : Loc), w.cell? ⟨0, 0, none⟩ = some (.pointer (some ⟨ob, oo, none⟩)) ∧ IntVo w0 ob oo lo 1 := by
  obtain ⟨ob, oo, lo, h1, h2⟩ := h
  exact ⟨ob, oo, lo, (h1.upd hI.up (fun h => h)).cell, h2⟩
end Go.Proofs.YtefeijofhocnpaaGreatDoor
