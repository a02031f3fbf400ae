/-
  DERIVED. GIVEN WITH THE SEED: THE CARDS: each row of YtojfpehnclnbgaaGreatDoorRows.lean that lists a variable, with what it lists TIED to the program's text (the seventh form; the later family's looks); each row that meets fmt, with fmt's text TOLD by the authors' own Lean function (tested against real Go, not proved from fmt's source: count such statements apart). THE CARD IS WHAT COUNTS. Prove the row's statement (the work); the ties are given (YtojfpehnclnbgaaGreatDoorTie.lean); close each card by the builder's one call (the guide's Derived/Test/ToyasCard.lean, 'card_holds'). Laid BY PROGRAM, IN A SANDBOX (cutbox-door.mjs). By AI agents, Wed Nov 11 2026. No macro, syntax, notation, axiom, sorry.
-/
import Derived.Test.YtojfpehnclnbgaaGreatDoorRows
import GoSem.ClaimSeven
namespace Go.Proofs.YtojfpehnclnbgaaGreatDoor
namespace Rows

/-- THE TIED CARD OF 'laws.FnMul'. -/
def fnMulCard : Claim7 := { stood := { row := fnMulRow, standIns := [], harness := (true, "ca9dd640d118dcbf3b7b1cb513e2c1eac2cb2aec7e83019bd0b85ef007983cb8"), looks := false }, kinds := [], alts := [], laidByText := true, laidKinds := [.data, .data, .data], laidTests := true, laidLooks := .later }
def FnMulCardSaid : Prop := Claim7.holds Tryz.pinned (.plain (OpenSpec.ofChange fnMulSpec)) fnMulCard

/-- THE TIED CARD OF 'laws.FnQuoRem'. -/
def fnQuoRemCard : Claim7 := { stood := { row := fnQuoRemRow, standIns := [], harness := (true, "ca9dd640d118dcbf3b7b1cb513e2c1eac2cb2aec7e83019bd0b85ef007983cb8"), looks := false }, kinds := [], alts := [], laidByText := true, laidKinds := [.data, .data, .data], laidTests := true, laidLooks := .later }
def FnQuoRemCardSaid : Prop := Claim7.holds Tryz.pinned (.plain (OpenSpec.ofChange fnQuoRemSpec)) fnQuoRemCard

/-- THE SECOND FORM's CARD OF 'laws.FnMul'. -/
def fnMulUptoCard : Claim7 := { stood := { row := fnMulUptoRow, standIns := [], harness := (true, "ca9dd640d118dcbf3b7b1cb513e2c1eac2cb2aec7e83019bd0b85ef007983cb8"), looks := false }, kinds := [], alts := [], laidByText := true, laidKinds := [.data, .data, .data], laidTests := true, laidLooks := .later }
def FnMulUptoCardSaid : Prop := Claim7.holds Tryz.pinned (.plain (OpenSpec.upto fnMulSpec)) fnMulUptoCard

/-- THE SECOND FORM's CARD OF 'laws.FnQuoRem'. -/
def fnQuoRemUptoCard : Claim7 := { stood := { row := fnQuoRemUptoRow, standIns := [], harness := (true, "ca9dd640d118dcbf3b7b1cb513e2c1eac2cb2aec7e83019bd0b85ef007983cb8"), looks := false }, kinds := [], alts := [], laidByText := true, laidKinds := [.data, .data, .data], laidTests := true, laidLooks := .later }
def FnQuoRemUptoCardSaid : Prop := Claim7.holds Tryz.pinned (.plain (OpenSpec.upto fnQuoRemSpec)) fnQuoRemUptoCard
end Rows
end Go.Proofs.YtojfpehnclnbgaaGreatDoor
