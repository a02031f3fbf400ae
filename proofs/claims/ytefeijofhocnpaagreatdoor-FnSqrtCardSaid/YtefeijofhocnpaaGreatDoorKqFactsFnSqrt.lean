/- For the claim of laws.The greatest number whose square is at most x (FnSqrt).: FactsFnSqrt. -/
import Derived.Test.YtefeijofhocnpaaGreatDoorKqE1
set_option linter.unusedVariables false
set_option linter.unusedSimpArgs false
namespace Go.Proofs.YtefeijofhocnpaaGreatDoor
open Go
set_option maxRecDepth 100000 in
set_option maxHeartbeats 16000000 in
theorem fnSqrt_closed : joinedFacts Tryz.pinned.checked.prog 9 Tryz.f9 Rows.fnSqrtSpec Rows.fnSqrtRow = true := by
  unfold joinedFacts
  repeat' (with_reducible refine and_t ?_ ?_)
  all_goals (as_aux_lemma => kernel_rfl)
end Go.Proofs.YtefeijofhocnpaaGreatDoor
