/- For the claim of laws.FnInverse: CardFnInverse. -/
import Derived.Test.YthkklkjldpcbkaaGreatDoorLiRowFnInverse
import Derived.Test.YthkklkjldpcbkaaGreatDoorCards
import Derived.Test.YthkklkjldpcbkaaGreatDoorTie
import Derived.SevenTiedAt
set_option linter.unusedVariables false
set_option linter.unusedSimpArgs false
namespace Go.Proofs.YthkklkjldpcbkaaGreatDoor
open Go
set_option maxRecDepth 100000 in
set_option maxHeartbeats 16000000 in
theorem fnInverse_card_holds : Rows.FnInverseCardSaid :=
 Claim7.holds_tied_plain_at .later [] [.data, .data, .widerDeep, .data, .data] true (true, "d617d2a727d2fa75bce7f77ff0ff1eaa06df22946d406d4a92b97d550fd5c3c4") false
  fnInverse_holds (fun _ h => by cases h) (by as_aux_lemma => kernel_rfl) (fun _ h => by cases h) fnInverse_row_tie rfl ⟨rfl, rfl⟩ (by as_aux_lemma => kernel_rfl) rfl
  (fun f fn hf hfn => by
   obtain rfl : f = 5 := Option.some.inj ((show Tryz.prog.funcNamed "loop.example/pub-g03125/laws.FnInverse" = some 5 by as_aux_lemma => kernel_rfl).symm.trans hf) |>.symm
   obtain rfl : fn = Tryz.f5 := (Option.some.inj (Tryz.func5.symm.trans hfn)).symm
   exact ⟨by as_aux_lemma => kernel_rfl, fun j t ht => by
    rw [Tryz.params5] at ht
    have hm : t ∈ [24] := by
     have h1 : t ∈ [24, 24] := by simpa using Array.mem_of_getElem? ht
     simpa using h1
    have hall : ([24].all fun u => !Tryz.prog.wantsStandIn u) = true := by as_aux_lemma => kernel_rfl
    exact (show Tryz.prog.wantsStandIn t = false by simpa using List.all_eq_true.1 hall t hm)⟩)
  (by as_aux_lemma => kernel_rfl)
#print axioms fnInverse_card_holds
end Go.Proofs.YthkklkjldpcbkaaGreatDoor
