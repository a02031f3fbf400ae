/- For the claim of laws.The program's symbol is Jacobi's (FnJacobi).: CardFnJacobi. -/
import Derived.Test.YtefeijofhocnpaaGreatDoorKlRowFnJacobi
import Derived.Test.YtefeijofhocnpaaGreatDoorCards
import Derived.Test.YtefeijofhocnpaaGreatDoorTie
import Derived.SevenTiedAt
set_option linter.unusedVariables false
set_option linter.unusedSimpArgs false
namespace Go.Proofs.YtefeijofhocnpaaGreatDoor
open Go
set_option maxRecDepth 100000 in
set_option maxHeartbeats 16000000 in
theorem fnJacobi_card_holds : Rows.FnJacobiCardSaid :=
  Claim7.holds_tied_plain_at .later [] [.data, .data, .widerDeep] true (true, "dfe66db06847715612a119ecb213408b6be2397c9d78115e895575b1c698fd25") false
    fnJacobi_holds (fun _ h => by cases h) (by as_aux_lemma => kernel_rfl) (fun _ h => by cases h) fnJacobi_row_tie rfl ⟨rfl, rfl⟩ (by as_aux_lemma => kernel_rfl) rfl
    (fun f fn hf hfn => by
      obtain rfl : f = 11 := Option.some.inj ((show Tryz.prog.funcNamed "loop.example/pub-g03125/laws.FnJacobi" = some 11 by as_aux_lemma => kernel_rfl).symm.trans hf) |>.symm
      obtain rfl : fn = Tryz.f11 := (Option.some.inj (Tryz.func11.symm.trans hfn)).symm
      exact ⟨by as_aux_lemma => kernel_rfl, fun j t ht => by
        rw [Tryz.params11] at ht
        have hm : t ∈ [33, 40] := by
          have h1 : t ∈ [33, 40] := by simpa using Array.mem_of_getElem? ht
          simpa using h1
        have hall : ([33, 40].all fun u => !Tryz.prog.wantsStandIn u) = true := by as_aux_lemma => kernel_rfl
        exact (show Tryz.prog.wantsStandIn t = false by simpa using List.all_eq_true.1 hall t hm)⟩)
    (by as_aux_lemma => kernel_rfl)
#print axioms fnJacobi_card_holds
end Go.Proofs.YtefeijofhocnpaaGreatDoor
