/- For the claim of laws.FnSquareRoot: FactsFnSquareRoot. -/
import Derived.Test.YtefeijofhocnpaaGreatDoorKsE1
set_option linter.unusedVariables false
set_option linter.unusedSimpArgs false
namespace Go.Proofs.YtefeijofhocnpaaGreatDoor
open Go
set_option maxRecDepth 100000 in
set_option maxHeartbeats 16000000 in
theorem fnSquareRoot_closed : joinedFacts Tryz.pinned.checked.prog 10 Tryz.f10 Rows.fnSquareRootSpec Rows.fnSquareRootRow = true := by
  unfold joinedFacts
  repeat' (with_reducible refine and_t ?_ ?_)
  all_goals (as_aux_lemma => kernel_rfl)
end Go.Proofs.YtefeijofhocnpaaGreatDoor
