/-
  DERIVED. GIVEN WITH THE SEED: THE CARDS: each row of YthkklkjldpcbkaaGreatDoorRows.lean that lists a variable, with what it lists TIED to the program's text (the seventh form; the later family's looks); each row that meets fmt, with fmt's text TOLD by the authors' own Lean function (tested against real Go, not proved from fmt's source: count such statements apart). THE CARD IS WHAT COUNTS. Prove the row's statement (the work); the ties are given (YthkklkjldpcbkaaGreatDoorTie.lean); close each card by the builder's one call (the guide's Derived/Test/ToyasCard.lean, 'card_holds'). Laid BY PROGRAM, IN A SANDBOX (cutbox-door.mjs). By AI agents, Wed Nov 11 2026. No macro, syntax, notation, axiom, sorry.
-/
import Derived.Test.YthkklkjldpcbkaaGreatDoorRows
import GoSem.ClaimSeven
namespace Go.Proofs.YthkklkjldpcbkaaGreatDoor
namespace Rows

/-- THE TIED CARD OF 'laws.FnGcd'. -/
def fnGcdCard : Claim7 := { stood := { row := fnGcdRow, standIns := [], harness := (true, "d617d2a727d2fa75bce7f77ff0ff1eaa06df22946d406d4a92b97d550fd5c3c4"), looks := false }, kinds := [], alts := [], laidByText := true, laidKinds := [.data, .data, .data, .data], laidTests := true, laidLooks := .later }
def FnGcdCardSaid : Prop := Claim7.holds Tryz.pinned (.plain (OpenSpec.ofChange fnGcdSpec)) fnGcdCard

/-- THE TIED CARD OF 'laws.FnGcdDivides'. -/
def fnGcdDividesCard : Claim7 := { stood := { row := fnGcdDividesRow, standIns := [], harness := (true, "d617d2a727d2fa75bce7f77ff0ff1eaa06df22946d406d4a92b97d550fd5c3c4"), looks := false }, kinds := [], alts := [], laidByText := true, laidKinds := [.data, .data, .data, .data], laidTests := true, laidLooks := .later }
def FnGcdDividesCardSaid : Prop := Claim7.holds Tryz.pinned (.plain (OpenSpec.ofChange fnGcdDividesSpec)) fnGcdDividesCard

/-- THE TIED CARD OF 'laws.FnInverse'. -/
def fnInverseCard : Claim7 := { stood := { row := fnInverseRow, standIns := [], harness := (true, "d617d2a727d2fa75bce7f77ff0ff1eaa06df22946d406d4a92b97d550fd5c3c4"), looks := false }, kinds := [], alts := [], laidByText := true, laidKinds := [.data, .data, .widerDeep, .data, .data], laidTests := true, laidLooks := .later }
def FnInverseCardSaid : Prop := Claim7.holds Tryz.pinned (.plain (OpenSpec.ofChange fnInverseSpec)) fnInverseCard

/-- THE TIED CARD OF 'laws.FnQuoRem'. -/
def fnQuoRemCard : Claim7 := { stood := { row := fnQuoRemRow, standIns := [], harness := (true, "d617d2a727d2fa75bce7f77ff0ff1eaa06df22946d406d4a92b97d550fd5c3c4"), looks := false }, kinds := [], alts := [], laidByText := true, laidKinds := [.data, .data, .data], laidTests := true, laidLooks := .later }
def FnQuoRemCardSaid : Prop := Claim7.holds Tryz.pinned (.plain (OpenSpec.ofChange fnQuoRemSpec)) fnQuoRemCard

/-- THE TIED CARD OF 'laws.FnDivide'. -/
def fnDivideCard : Claim7 := { stood := { row := fnDivideRow, standIns := [], harness := (true, "d617d2a727d2fa75bce7f77ff0ff1eaa06df22946d406d4a92b97d550fd5c3c4"), looks := false }, kinds := [], alts := [], laidByText := true, laidKinds := [.data, .data, .widerDeep, .data], laidTests := true, laidLooks := .later }
def FnDivideCardSaid : Prop := Claim7.holds Tryz.pinned (.plain (OpenSpec.ofChange fnDivideSpec)) fnDivideCard

/-- THE SECOND FORM's CARD OF 'laws.FnGcdDivides'. -/
def fnGcdDividesUptoCard : Claim7 := { stood := { row := fnGcdDividesUptoRow, standIns := [], harness := (true, "d617d2a727d2fa75bce7f77ff0ff1eaa06df22946d406d4a92b97d550fd5c3c4"), looks := false }, kinds := [], alts := [], laidByText := true, laidKinds := [.data, .data, .data, .data], laidTests := true, laidLooks := .later }
def FnGcdDividesUptoCardSaid : Prop := Claim7.holds Tryz.pinned (.plain (OpenSpec.upto fnGcdDividesSpec)) fnGcdDividesUptoCard

/-- THE SECOND FORM's CARD OF 'laws.FnInverse'. -/
def fnInverseUptoCard : Claim7 := { stood := { row := fnInverseUptoRow, standIns := [], harness := (true, "d617d2a727d2fa75bce7f77ff0ff1eaa06df22946d406d4a92b97d550fd5c3c4"), looks := false }, kinds := [], alts := [], laidByText := true, laidKinds := [.data, .data, .widerDeep, .data, .data], laidTests := true, laidLooks := .later }
def FnInverseUptoCardSaid : Prop := Claim7.holds Tryz.pinned (.plain (OpenSpec.upto fnInverseSpec)) fnInverseUptoCard

/-- THE SECOND FORM's CARD OF 'laws.FnQuoRem'. -/
def fnQuoRemUptoCard : Claim7 := { stood := { row := fnQuoRemUptoRow, standIns := [], harness := (true, "d617d2a727d2fa75bce7f77ff0ff1eaa06df22946d406d4a92b97d550fd5c3c4"), looks := false }, kinds := [], alts := [], laidByText := true, laidKinds := [.data, .data, .data], laidTests := true, laidLooks := .later }
def FnQuoRemUptoCardSaid : Prop := Claim7.holds Tryz.pinned (.plain (OpenSpec.upto fnQuoRemSpec)) fnQuoRemUptoCard

/-- THE SECOND FORM's CARD OF 'laws.FnDivide'. -/
def fnDivideUptoCard : Claim7 := { stood := { row := fnDivideUptoRow, standIns := [], harness := (true, "d617d2a727d2fa75bce7f77ff0ff1eaa06df22946d406d4a92b97d550fd5c3c4"), looks := false }, kinds := [], alts := [], laidByText := true, laidKinds := [.data, .data, .widerDeep, .data], laidTests := true, laidLooks := .later }
def FnDivideUptoCardSaid : Prop := Claim7.holds Tryz.pinned (.plain (OpenSpec.upto fnDivideSpec)) fnDivideUptoCard
end Rows
end Go.Proofs.YthkklkjldpcbkaaGreatDoor
