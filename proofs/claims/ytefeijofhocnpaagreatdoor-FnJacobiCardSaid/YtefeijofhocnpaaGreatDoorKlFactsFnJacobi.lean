/- For the claim of laws.The program's symbol is Jacobi's (FnJacobi).: FactsFnJacobi. -/
import Derived.Test.YtefeijofhocnpaaGreatDoorKlE1
set_option linter.unusedVariables false
set_option linter.unusedSimpArgs false
namespace Go.Proofs.YtefeijofhocnpaaGreatDoor
open Go
set_option maxRecDepth 100000 in
set_option maxHeartbeats 16000000 in
theorem fnJacobi_closed : joinedFacts Tryz.pinned.checked.prog 11 Tryz.f11 Rows.fnJacobiSpec Rows.fnJacobiRow = true := by
  unfold joinedFacts
  repeat' (with_reducible refine and_t ?_ ?_)
  all_goals (as_aux_lemma => kernel_rfl)
end Go.Proofs.YtefeijofhocnpaaGreatDoor
