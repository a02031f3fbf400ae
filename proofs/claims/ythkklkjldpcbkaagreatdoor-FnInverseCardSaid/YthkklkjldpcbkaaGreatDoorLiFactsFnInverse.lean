/- For the claim of laws.FnInverse: FactsFnInverse. -/
import Derived.Test.YthkklkjldpcbkaaGreatDoorLiE1
set_option linter.unusedVariables false
set_option linter.unusedSimpArgs false
namespace Go.Proofs.YthkklkjldpcbkaaGreatDoor
open Go
set_option maxRecDepth 100000 in
set_option maxHeartbeats 16000000 in
theorem fnInverse_closed : joinedFacts Tryz.pinned.checked.prog 5 Tryz.f5 Rows.fnInverseSpec Rows.fnInverseRow = true := by
 unfold joinedFacts
 repeat' (with_reducible refine and_t ?_ ?_)
 all_goals (as_aux_lemma => kernel_rfl)
end Go.Proofs.YthkklkjldpcbkaaGreatDoor
