/- For the claim of laws.FnRange: FactsFnRangeSplit. -/
import Derived.Test.YtefeijofhocnpaaGreatDoorRowB
set_option linter.unusedVariables false
set_option linter.unusedSimpArgs false
/- The closed facts of the row of laws.FnRangeSplit, one by one. -/
namespace Go.Proofs.YtefeijofhocnpaaGreatDoor
open Go

set_option maxRecDepth 100000 in
set_option maxHeartbeats 16000000 in
theorem fnRangeSplit_closed : joinedFacts Tryz.pinned.checked.prog 4 Tryz.f4 Rows.fnRangeSplitSpec Rows.fnRangeSplitRow = true := by
  unfold joinedFacts
  repeat' (with_reducible refine and_t ?_ ?_)
  all_goals (as_aux_lemma => kernel_rfl)
end Go.Proofs.YtefeijofhocnpaaGreatDoor
