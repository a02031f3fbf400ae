/-
  DERIVED. GIVEN WITH THE SEED: THE CARDS: each row of YtefeijofhocnpaaGreatDoorRows.lean that lists a variable, with what it lists TIED to the program's text (the seventh form; the later family's looks); each row that meets fmt, with fmt's text TOLD by the authors' own Lean function (tested against real Go, not proved from fmt's source: count such statements apart). THE CARD IS WHAT COUNTS. Prove the row's statement (the work); the ties are given (YtefeijofhocnpaaGreatDoorTie.lean); close each card by the builder's one call (the guide's Derived/Test/ToyasCard.lean, 'card_holds'). Laid BY PROGRAM, IN A SANDBOX (cutbox-door.mjs). By AI agents, Wed Nov 11 2026. No macro, syntax, notation, axiom, sorry.
-/
import Derived.Test.YtefeijofhocnpaaGreatDoorRows
import GoSem.ClaimSeven
namespace Go.Proofs.YtefeijofhocnpaaGreatDoor
namespace Rows

/-- THE TIED CARD OF 'laws.FnRange'. -/
def fnRangeCard : Claim7 := { stood := { row := fnRangeRow, standIns := [], harness := (true, "dfe66db06847715612a119ecb213408b6be2397c9d78115e895575b1c698fd25"), looks := false }, kinds := [], alts := [], laidByText := true, laidKinds := [.data, .data, .data], laidTests := true, laidLooks := .later }
def FnRangeCardSaid : Prop := Claim7.holds Tryz.pinned (.plain (OpenSpec.ofChange fnRangeSpec)) fnRangeCard

/-- THE TIED CARD OF 'laws.FnRangeSplit'. -/
def fnRangeSplitCard : Claim7 := { stood := { row := fnRangeSplitRow, standIns := [], harness := (true, "dfe66db06847715612a119ecb213408b6be2397c9d78115e895575b1c698fd25"), looks := false }, kinds := [], alts := [], laidByText := true, laidKinds := [.data, .data, .data], laidTests := true, laidLooks := .later }
def FnRangeSplitCardSaid : Prop := Claim7.holds Tryz.pinned (.plain (OpenSpec.ofChange fnRangeSplitSpec)) fnRangeSplitCard

/-- THE TIED CARD OF 'laws.FnBinomial'. -/
def fnBinomialCard : Claim7 := { stood := { row := fnBinomialRow, standIns := [], harness := (true, "dfe66db06847715612a119ecb213408b6be2397c9d78115e895575b1c698fd25"), looks := false }, kinds := [], alts := [], laidByText := true, laidKinds := [.data, .data, .widerDeep], laidTests := true, laidLooks := .later }
def FnBinomialCardSaid : Prop := Claim7.holds Tryz.pinned (.plain (OpenSpec.ofChange fnBinomialSpec)) fnBinomialCard

/-- THE TIED CARD OF 'laws.FnBinomialSum'. -/
def fnBinomialSumCard : Claim7 := { stood := { row := fnBinomialSumRow, standIns := [], harness := (true, "dfe66db06847715612a119ecb213408b6be2397c9d78115e895575b1c698fd25"), looks := false }, kinds := [], alts := [], laidByText := true, laidKinds := [.data, .data, .widerDeep], laidTests := true, laidLooks := .later }
def FnBinomialSumCardSaid : Prop := Claim7.holds Tryz.pinned (.plain (OpenSpec.ofChange fnBinomialSumSpec)) fnBinomialSumCard

/-- THE TIED CARD OF 'laws.FnQuoRem'. -/
def fnQuoRemCard : Claim7 := { stood := { row := fnQuoRemRow, standIns := [], harness := (true, "dfe66db06847715612a119ecb213408b6be2397c9d78115e895575b1c698fd25"), looks := false }, kinds := [], alts := [], laidByText := true, laidKinds := [.data, .data, .data], laidTests := true, laidLooks := .later }
def FnQuoRemCardSaid : Prop := Claim7.holds Tryz.pinned (.plain (OpenSpec.ofChange fnQuoRemSpec)) fnQuoRemCard

/-- THE TIED CARD OF 'laws.FnDivide'. -/
def fnDivideCard : Claim7 := { stood := { row := fnDivideRow, standIns := [], harness := (true, "dfe66db06847715612a119ecb213408b6be2397c9d78115e895575b1c698fd25"), looks := false }, kinds := [], alts := [], laidByText := true, laidKinds := [.data, .data, .widerDeep, .data], laidTests := true, laidLooks := .later }
def FnDivideCardSaid : Prop := Claim7.holds Tryz.pinned (.plain (OpenSpec.ofChange fnDivideSpec)) fnDivideCard

/-- THE TIED CARD OF 'laws.FnSqrt'. -/
def fnSqrtCard : Claim7 := { stood := { row := fnSqrtRow, standIns := [], harness := (true, "dfe66db06847715612a119ecb213408b6be2397c9d78115e895575b1c698fd25"), looks := false }, kinds := [], alts := [], laidByText := true, laidKinds := [.data, .data, .widerDeep, .data], laidTests := true, laidLooks := .later }
def FnSqrtCardSaid : Prop := Claim7.holds Tryz.pinned (.plain (OpenSpec.ofChange fnSqrtSpec)) fnSqrtCard

/-- THE TIED CARD OF 'laws.FnSquareRoot'. -/
def fnSquareRootCard : Claim7 := { stood := { row := fnSquareRootRow, standIns := [], harness := (true, "dfe66db06847715612a119ecb213408b6be2397c9d78115e895575b1c698fd25"), looks := false }, kinds := [], alts := [], laidByText := true, laidKinds := [.data, .data, .widerDeep, .data, .data], laidTests := true, laidLooks := .later }
def FnSquareRootCardSaid : Prop := Claim7.holds Tryz.pinned (.plain (OpenSpec.ofChange fnSquareRootSpec)) fnSquareRootCard

/-- THE TIED CARD OF 'laws.FnJacobi'. -/
def fnJacobiCard : Claim7 := { stood := { row := fnJacobiRow, standIns := [], harness := (true, "dfe66db06847715612a119ecb213408b6be2397c9d78115e895575b1c698fd25"), looks := false }, kinds := [], alts := [], laidByText := true, laidKinds := [.data, .data, .widerDeep], laidTests := true, laidLooks := .later }
def FnJacobiCardSaid : Prop := Claim7.holds Tryz.pinned (.plain (OpenSpec.ofChange fnJacobiSpec)) fnJacobiCard

/-- THE TIED CARD OF 'laws.FnJacobiProduct'. -/
def fnJacobiProductCard : Claim7 := { stood := { row := fnJacobiProductRow, standIns := [], harness := (true, "dfe66db06847715612a119ecb213408b6be2397c9d78115e895575b1c698fd25"), looks := false }, kinds := [], alts := [], laidByText := true, laidKinds := [.data, .data, .widerDeep, .data, .data], laidTests := true, laidLooks := .later }
def FnJacobiProductCardSaid : Prop := Claim7.holds Tryz.pinned (.plain (OpenSpec.ofChange fnJacobiProductSpec)) fnJacobiProductCard

/-- THE TIED CARD OF 'laws.FnGcd'. -/
def fnGcdCard : Claim7 := { stood := { row := fnGcdRow, standIns := [], harness := (true, "dfe66db06847715612a119ecb213408b6be2397c9d78115e895575b1c698fd25"), looks := false }, kinds := [], alts := [], laidByText := true, laidKinds := [.data, .data, .data, .data], laidTests := true, laidLooks := .later }
def FnGcdCardSaid : Prop := Claim7.holds Tryz.pinned (.plain (OpenSpec.ofChange fnGcdSpec)) fnGcdCard

/-- THE TIED CARD OF 'laws.FnGcdDivides'. -/
def fnGcdDividesCard : Claim7 := { stood := { row := fnGcdDividesRow, standIns := [], harness := (true, "dfe66db06847715612a119ecb213408b6be2397c9d78115e895575b1c698fd25"), looks := false }, kinds := [], alts := [], laidByText := true, laidKinds := [.data, .data, .data, .data], laidTests := true, laidLooks := .later }
def FnGcdDividesCardSaid : Prop := Claim7.holds Tryz.pinned (.plain (OpenSpec.ofChange fnGcdDividesSpec)) fnGcdDividesCard

/-- THE TIED CARD OF 'laws.FnInverse'. -/
def fnInverseCard : Claim7 := { stood := { row := fnInverseRow, standIns := [], harness := (true, "dfe66db06847715612a119ecb213408b6be2397c9d78115e895575b1c698fd25"), looks := false }, kinds := [], alts := [], laidByText := true, laidKinds := [.data, .data, .widerDeep, .data, .data], laidTests := true, laidLooks := .later }
def FnInverseCardSaid : Prop := Claim7.holds Tryz.pinned (.plain (OpenSpec.ofChange fnInverseSpec)) fnInverseCard

/-- THE SECOND FORM's CARD OF 'laws.FnRange'. -/
def fnRangeUptoCard : Claim7 := { stood := { row := fnRangeUptoRow, standIns := [], harness := (true, "dfe66db06847715612a119ecb213408b6be2397c9d78115e895575b1c698fd25"), looks := false }, kinds := [], alts := [], laidByText := true, laidKinds := [.data, .data, .data], laidTests := true, laidLooks := .later }
def FnRangeUptoCardSaid : Prop := Claim7.holds Tryz.pinned (.plain (OpenSpec.upto fnRangeSpec)) fnRangeUptoCard

/-- THE SECOND FORM's CARD OF 'laws.FnRangeSplit'. -/
def fnRangeSplitUptoCard : Claim7 := { stood := { row := fnRangeSplitUptoRow, standIns := [], harness := (true, "dfe66db06847715612a119ecb213408b6be2397c9d78115e895575b1c698fd25"), looks := false }, kinds := [], alts := [], laidByText := true, laidKinds := [.data, .data, .data], laidTests := true, laidLooks := .later }
def FnRangeSplitUptoCardSaid : Prop := Claim7.holds Tryz.pinned (.plain (OpenSpec.upto fnRangeSplitSpec)) fnRangeSplitUptoCard

/-- THE SECOND FORM's CARD OF 'laws.FnBinomial'. -/
def fnBinomialUptoCard : Claim7 := { stood := { row := fnBinomialUptoRow, standIns := [], harness := (true, "dfe66db06847715612a119ecb213408b6be2397c9d78115e895575b1c698fd25"), looks := false }, kinds := [], alts := [], laidByText := true, laidKinds := [.data, .data, .widerDeep], laidTests := true, laidLooks := .later }
def FnBinomialUptoCardSaid : Prop := Claim7.holds Tryz.pinned (.plain (OpenSpec.upto fnBinomialSpec)) fnBinomialUptoCard

/-- THE SECOND FORM's CARD OF 'laws.FnBinomialSum'. -/
def fnBinomialSumUptoCard : Claim7 := { stood := { row := fnBinomialSumUptoRow, standIns := [], harness := (true, "dfe66db06847715612a119ecb213408b6be2397c9d78115e895575b1c698fd25"), looks := false }, kinds := [], alts := [], laidByText := true, laidKinds := [.data, .data, .widerDeep], laidTests := true, laidLooks := .later }
def FnBinomialSumUptoCardSaid : Prop := Claim7.holds Tryz.pinned (.plain (OpenSpec.upto fnBinomialSumSpec)) fnBinomialSumUptoCard

/-- THE SECOND FORM's CARD OF 'laws.FnQuoRem'. -/
def fnQuoRemUptoCard : Claim7 := { stood := { row := fnQuoRemUptoRow, standIns := [], harness := (true, "dfe66db06847715612a119ecb213408b6be2397c9d78115e895575b1c698fd25"), looks := false }, kinds := [], alts := [], laidByText := true, laidKinds := [.data, .data, .data], laidTests := true, laidLooks := .later }
def FnQuoRemUptoCardSaid : Prop := Claim7.holds Tryz.pinned (.plain (OpenSpec.upto fnQuoRemSpec)) fnQuoRemUptoCard

/-- THE SECOND FORM's CARD OF 'laws.FnDivide'. -/
def fnDivideUptoCard : Claim7 := { stood := { row := fnDivideUptoRow, standIns := [], harness := (true, "dfe66db06847715612a119ecb213408b6be2397c9d78115e895575b1c698fd25"), looks := false }, kinds := [], alts := [], laidByText := true, laidKinds := [.data, .data, .widerDeep, .data], laidTests := true, laidLooks := .later }
def FnDivideUptoCardSaid : Prop := Claim7.holds Tryz.pinned (.plain (OpenSpec.upto fnDivideSpec)) fnDivideUptoCard

/-- THE SECOND FORM's CARD OF 'laws.FnSqrt'. -/
def fnSqrtUptoCard : Claim7 := { stood := { row := fnSqrtUptoRow, standIns := [], harness := (true, "dfe66db06847715612a119ecb213408b6be2397c9d78115e895575b1c698fd25"), looks := false }, kinds := [], alts := [], laidByText := true, laidKinds := [.data, .data, .widerDeep, .data], laidTests := true, laidLooks := .later }
def FnSqrtUptoCardSaid : Prop := Claim7.holds Tryz.pinned (.plain (OpenSpec.upto fnSqrtSpec)) fnSqrtUptoCard

/-- THE SECOND FORM's CARD OF 'laws.FnSquareRoot'. -/
def fnSquareRootUptoCard : Claim7 := { stood := { row := fnSquareRootUptoRow, standIns := [], harness := (true, "dfe66db06847715612a119ecb213408b6be2397c9d78115e895575b1c698fd25"), looks := false }, kinds := [], alts := [], laidByText := true, laidKinds := [.data, .data, .widerDeep, .data, .data], laidTests := true, laidLooks := .later }
def FnSquareRootUptoCardSaid : Prop := Claim7.holds Tryz.pinned (.plain (OpenSpec.upto fnSquareRootSpec)) fnSquareRootUptoCard

/-- THE SECOND FORM's CARD OF 'laws.FnJacobi'. -/
def fnJacobiUptoCard : Claim7 := { stood := { row := fnJacobiUptoRow, standIns := [], harness := (true, "dfe66db06847715612a119ecb213408b6be2397c9d78115e895575b1c698fd25"), looks := false }, kinds := [], alts := [], laidByText := true, laidKinds := [.data, .data, .widerDeep], laidTests := true, laidLooks := .later }
def FnJacobiUptoCardSaid : Prop := Claim7.holds Tryz.pinned (.plain (OpenSpec.upto fnJacobiSpec)) fnJacobiUptoCard

/-- THE SECOND FORM's CARD OF 'laws.FnJacobiProduct'. -/
def fnJacobiProductUptoCard : Claim7 := { stood := { row := fnJacobiProductUptoRow, standIns := [], harness := (true, "dfe66db06847715612a119ecb213408b6be2397c9d78115e895575b1c698fd25"), looks := false }, kinds := [], alts := [], laidByText := true, laidKinds := [.data, .data, .widerDeep, .data, .data], laidTests := true, laidLooks := .later }
def FnJacobiProductUptoCardSaid : Prop := Claim7.holds Tryz.pinned (.plain (OpenSpec.upto fnJacobiProductSpec)) fnJacobiProductUptoCard

/-- THE SECOND FORM's CARD OF 'laws.FnGcd'. -/
def fnGcdUptoCard : Claim7 := { stood := { row := fnGcdUptoRow, standIns := [], harness := (true, "dfe66db06847715612a119ecb213408b6be2397c9d78115e895575b1c698fd25"), looks := false }, kinds := [], alts := [], laidByText := true, laidKinds := [.data, .data, .data, .data], laidTests := true, laidLooks := .later }
def FnGcdUptoCardSaid : Prop := Claim7.holds Tryz.pinned (.plain (OpenSpec.upto fnGcdSpec)) fnGcdUptoCard

/-- THE SECOND FORM's CARD OF 'laws.FnGcdDivides'. -/
def fnGcdDividesUptoCard : Claim7 := { stood := { row := fnGcdDividesUptoRow, standIns := [], harness := (true, "dfe66db06847715612a119ecb213408b6be2397c9d78115e895575b1c698fd25"), looks := false }, kinds := [], alts := [], laidByText := true, laidKinds := [.data, .data, .data, .data], laidTests := true, laidLooks := .later }
def FnGcdDividesUptoCardSaid : Prop := Claim7.holds Tryz.pinned (.plain (OpenSpec.upto fnGcdDividesSpec)) fnGcdDividesUptoCard

/-- THE SECOND FORM's CARD OF 'laws.FnInverse'. -/
def fnInverseUptoCard : Claim7 := { stood := { row := fnInverseUptoRow, standIns := [], harness := (true, "dfe66db06847715612a119ecb213408b6be2397c9d78115e895575b1c698fd25"), looks := false }, kinds := [], alts := [], laidByText := true, laidKinds := [.data, .data, .widerDeep, .data, .data], laidTests := true, laidLooks := .later }
def FnInverseUptoCardSaid : Prop := Claim7.holds Tryz.pinned (.plain (OpenSpec.upto fnInverseSpec)) fnInverseUptoCard
end Rows
end Go.Proofs.YtefeijofhocnpaaGreatDoor
