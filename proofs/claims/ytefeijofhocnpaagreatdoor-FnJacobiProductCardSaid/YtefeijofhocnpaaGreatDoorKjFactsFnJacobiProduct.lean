/- For the claim of laws.The symbol of a product is the product of the symbols, above and below (FnJacobiProduct).: FactsFnJacobiProduct. -/
import Derived.Test.YtefeijofhocnpaaGreatDoorKjE1
set_option linter.unusedVariables false
set_option linter.unusedSimpArgs false
namespace Go.Proofs.YtefeijofhocnpaaGreatDoor
open Go
set_option maxRecDepth 100000 in
set_option maxHeartbeats 16000000 in
theorem fnJacobiProduct_closed : joinedFacts Tryz.pinned.checked.prog 12 Tryz.f12 Rows.fnJacobiProductSpec Rows.fnJacobiProductRow = true := by
  unfold joinedFacts
  repeat' (with_reducible refine and_t ?_ ?_)
  all_goals (as_aux_lemma => kernel_rfl)
end Go.Proofs.YtefeijofhocnpaaGreatDoor
