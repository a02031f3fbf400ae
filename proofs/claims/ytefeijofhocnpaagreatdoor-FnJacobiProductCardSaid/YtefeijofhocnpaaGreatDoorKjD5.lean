/- For the claim of laws.The symbol of a product is the product of the symbols, above and below (FnJacobiProduct).: SpecD, Plus, SpE, SpecS. -/
import Derived.Test.YtefeijofhocnpaaGreatDoorKjB3
import Derived.Test.YtefeijofhocnpaaGreatDoorKjSpec1
import Derived.Test.YtefeijofhocnpaaGreatDoorKjD2
import Derived.Test.YtefeijofhocnpaaGreatDoorKjB4
set_option linter.unusedVariables false
set_option linter.unusedSimpArgs false
namespace Go.Proofs.YtefeijofhocnpaaGreatDoor
open Go.RowKit Go.Proofs.YtefeijofhocnpaaGreatDoor.PSpec Go.Proofs.YtefeijofhocnpaaGreatDoorW.PrintWords Go.Proofs.YtefeijofhocnpaaGreatDoorW.PrintLast Go.Proofs.YtefeijofhocnpaaGreatDoorW.PrintMore
theorem SpN.zero (w : World) : SpN w (.slice none 0 0) 0 := by
  refine ⟨none, 0, by rw [ds_zero]; rfl, by rw [ds_zero]; exact Nat.le_refl _, ?_⟩
  rw [ds_zero]
  exact ⟨rfl, by simp, fun h => absurd h (Nat.lt_irrefl 0)⟩
end Go.Proofs.YtefeijofhocnpaaGreatDoor
