/- Contracts over the program, for the claim of laws.FnMul: Card. -/
import Derived.Test.YtojfpehnclnbgaaGreatDoorRow
import Derived.Test.YtojfpehnclnbgaaGreatDoorCards
import Derived.Test.YtojfpehnclnbgaaGreatDoorTie
import Derived.SevenTiedAt
set_option linter.unusedVariables false
set_option linter.unusedSimpArgs false
/- The tied card of laws.FnMul. -/
namespace Go.Proofs.YtojfpehnclnbgaaGreatDoor
open Go
theorem fnMul_card_holds : Rows.FnMulCardSaid :=
  Claim7.holds_tied_plain_at .later [] [.data, .data, .data] true (true, "ca9dd640d118dcbf3b7b1cb513e2c1eac2cb2aec7e83019bd0b85ef007983cb8") false
    fnMul_holds (fun _ h => by cases h) (by kernel_rfl) (fun _ h => by cases h) fnMul_row_tie rfl ⟨rfl, rfl⟩ (by kernel_rfl) rfl
    (fun f fn hf hfn => by
      obtain rfl : f = 3 := Option.some.inj ((show Tryz.prog.funcNamed "loop.example/pub-g03125/laws.FnMul" = some 3 by kernel_rfl).symm.trans hf) |>.symm
      obtain rfl : fn = Tryz.f3 := (Option.some.inj (Tryz.func3.symm.trans hfn)).symm
      exact ⟨by kernel_rfl, fun j t ht => by
        rw [Tryz.params3] at ht
        have hm : t ∈ [24] := by
          have h1 : t ∈ [24, 24] := by simpa using Array.mem_of_getElem? ht
          simpa using h1
        have hall : ([24].all fun u => !Tryz.prog.wantsStandIn u) = true := by kernel_rfl
        exact (show Tryz.prog.wantsStandIn t = false by simpa using List.all_eq_true.1 hall t hm)⟩)
    (by kernel_rfl)
#print axioms fnMul_card_holds
end Go.Proofs.YtojfpehnclnbgaaGreatDoor
