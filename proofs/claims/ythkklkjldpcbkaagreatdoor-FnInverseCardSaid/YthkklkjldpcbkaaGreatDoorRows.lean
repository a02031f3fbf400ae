/-
  NARROWER THAN 'FOR EVERY INPUT', by the rows' own cells (each row's printed sentence says how): FnGcd: calm, laid · FnGcdDivides: laid · FnInverse: laid · FnQuoRem: laid · FnDivide: laid.
  DERIVED. THE GIVEN ROWS OF THIS SEAT. 5 by the template 'for every input the law returns true; each argument reads behind the call as it read before'; 0 by the template 'total and deterministic' (their statements: YthkklkjldpcbkaaGreatDoorTotals.lean).
  GIVEN WITH THE SEED: the statements are not yours to turn. If you find one false, say at which input.
  Laid BY PROGRAM, IN A SANDBOX (cutbox-rows.mjs): the forced cells as the released guide's own fill.sh prints them over the translation 371dbed0a0a2891b… (all of the seat's roots in one cut). By AI agents, Wed Nov 11 2026. No macro, syntax, notation, axiom, sorry.
-/
import Derived.Test.YthkklkjldpcbkaaGreatDoorChecked
import GoSem.Claim
import GoSem.ClaimJoined
import GoSem.ClaimMapViews
import Derived.JoinedTies
import Derived.KernelRfl
namespace Go.Proofs.YthkklkjldpcbkaaGreatDoor
/- THE CELL 'sum', in the pinned program and in every row, IS THE sha256 OF THE DUMP (.gsa) THAT YthkklkjldpcbkaaGreatDoorProg.lean LOADS. Nothing in Lean hashes anything: it is a label: what it is worth is what the hold of that sum in a sandbox is worth. -/
noncomputable def Tryz.pinned : Pinned := { name := "ythkklkjldpcbkaagreatdoor", sum := "371dbed0a0a2891b13efb9121fa0451d20143c4ed8f954e3510ff58b52cff75e", checked := Tryz.checked }
namespace Rows
def none {H : Type} : Left H := { results := [], args := [] }

/- WHAT THE LISTED PACKAGE-LEVEL VARIABLES READ AS WHEN THE CALL BEGINS. Each datum BY PROGRAM (the guide's laid-datum.mjs) off the statement by which the dump's own 'gosem.cut.vars' lays the variable. In a bare row this is a premise. The card (YthkklkjldpcbkaaGreatDoorCards.lean) ties it to the program's text. -/
def laid_math_bits_deBruijn32tab {H : Type} : DataW H := .agg [.lit (.int .u8 0), .lit (.int .u8 1), .lit (.int .u8 28), .lit (.int .u8 2), .lit (.int .u8 29), .lit (.int .u8 14), .lit (.int .u8 24), .lit (.int .u8 3), .lit (.int .u8 30), .lit (.int .u8 22), .lit (.int .u8 20), .lit (.int .u8 15), .lit (.int .u8 25), .lit (.int .u8 17), .lit (.int .u8 4), .lit (.int .u8 8), .lit (.int .u8 31), .lit (.int .u8 27), .lit (.int .u8 13), .lit (.int .u8 23), .lit (.int .u8 21), .lit (.int .u8 19), .lit (.int .u8 16), .lit (.int .u8 7), .lit (.int .u8 26), .lit (.int .u8 12), .lit (.int .u8 18), .lit (.int .u8 6), .lit (.int .u8 11), .lit (.int .u8 5), .lit (.int .u8 10), .lit (.int .u8 9)]
def laid_math_bits_deBruijn64tab {H : Type} : DataW H := .agg [.lit (.int .u8 0), .lit (.int .u8 1), .lit (.int .u8 56), .lit (.int .u8 2), .lit (.int .u8 57), .lit (.int .u8 49), .lit (.int .u8 28), .lit (.int .u8 3), .lit (.int .u8 61), .lit (.int .u8 58), .lit (.int .u8 42), .lit (.int .u8 50), .lit (.int .u8 38), .lit (.int .u8 29), .lit (.int .u8 17), .lit (.int .u8 4), .lit (.int .u8 62), .lit (.int .u8 47), .lit (.int .u8 59), .lit (.int .u8 36), .lit (.int .u8 45), .lit (.int .u8 43), .lit (.int .u8 51), .lit (.int .u8 22), .lit (.int .u8 53), .lit (.int .u8 39), .lit (.int .u8 33), .lit (.int .u8 30), .lit (.int .u8 24), .lit (.int .u8 18), .lit (.int .u8 12), .lit (.int .u8 5), .lit (.int .u8 63), .lit (.int .u8 55), .lit (.int .u8 48), .lit (.int .u8 27), .lit (.int .u8 60), .lit (.int .u8 41), .lit (.int .u8 37), .lit (.int .u8 16), .lit (.int .u8 46), .lit (.int .u8 35), .lit (.int .u8 44), .lit (.int .u8 21), .lit (.int .u8 52), .lit (.int .u8 32), .lit (.int .u8 23), .lit (.int .u8 11), .lit (.int .u8 54), .lit (.int .u8 26), .lit (.int .u8 40), .lit (.int .u8 15), .lit (.int .u8 34), .lit (.int .u8 20), .lit (.int .u8 31), .lit (.int .u8 10), .lit (.int .u8 25), .lit (.int .u8 14), .lit (.int .u8 19), .lit (.int .u8 9), .lit (.int .u8 13), .lit (.int .u8 8), .lit (.int .u8 7), .lit (.int .u8 6)]
def laid_loop_example_pub_g03125_pub_big_divRecursiveThreshold {H : Type} : DataW H := .lit (.int .i64 40)
def laid_loop_example_pub_g03125_pub_big_karatsubaThreshold {H : Type} : DataW H := .lit (.int .i64 40)
def laid_loop_example_pub_g03125_pub_big_intOne {H : Type} : DataW H := .ptr (.agg [.lit (.bool false), .slice [.lit (.int .u64 1)] []])
def laid_loop_example_pub_g03125_pub_big_natOne {H : Type} : DataW H := .slice [.lit (.int .u64 1)] []

/-- 'laws.FnGcd': WHATEVER THE INPUT: true; the input reads as it did. -/
def fnGcdSpec : ChangeSpec := { name := "fnGcd", vars := ["loop.example/pub-g03125/pub/big.divRecursiveThreshold", "loop.example/pub-g03125/pub/big.karatsubaThreshold", "loop.example/pub-g03125/pub/big.basicSqrThreshold", "loop.example/pub-g03125/pub/big.karatsubaSqrThreshold", "loop.example/pub-g03125/pub/big.leafSize", "loop.example/pub-g03125/pub/big.natOne", "loop.example/pub-g03125/pub/big.intOne"], fn := fun _ => fun
  | [d1, d2, g1, g2, g3, g4, g5, g6, g7] => { results := [.lit (.bool true)], args := [d1, d2], vars := [g1, g2, g3, g4, g5, g6, g7] }
  | _ => none }
def fnGcdRow : OpenClaim := { program := "ythkklkjldpcbkaagreatdoor", sum := "371dbed0a0a2891b13efb9121fa0451d20143c4ed8f954e3510ff58b52cff75e", func := "loop.example/pub-g03125/laws.FnGcd", spec := "fnGcd", inPlace := ["math/bits.Add64", "math/bits.Sub64", "math.Float64bits", "math.Float64frombits", "math.archLog"], recurses := true, named := ["loop.example/pub-g03125/pub/big.divRecursiveThreshold", "loop.example/pub-g03125/pub/big.karatsubaThreshold", "loop.example/pub-g03125/pub/big.basicSqrThreshold", "loop.example/pub-g03125/pub/big.karatsubaSqrThreshold", "math/bits.deBruijn32tab", "math/bits.deBruijn64tab", "loop.example/pub-g03125/pub/big.leafSize", "loop.example/pub-g03125/pub/big.natOne", "loop.example/pub-g03125/pub/big.intOne"], apart := false, calm := true, outside := [.timePasses], laid := [("math/bits.deBruijn32tab", laid_math_bits_deBruijn32tab), ("math/bits.deBruijn64tab", laid_math_bits_deBruijn64tab), ("loop.example/pub-g03125/pub/big.divRecursiveThreshold", laid_loop_example_pub_g03125_pub_big_divRecursiveThreshold), ("loop.example/pub-g03125/pub/big.karatsubaThreshold", laid_loop_example_pub_g03125_pub_big_karatsubaThreshold)] }
def FnGcdSaid : Prop := fnGcdRow.holds Tryz.pinned (OpenSpec.ofChange fnGcdSpec)

/-- ITS FALSE NEIGHBOUR: 'it returns false'. Refute it at one input. -/
def fnGcdWrong : ChangeSpec := { name := "fnGcd", vars := ["loop.example/pub-g03125/pub/big.divRecursiveThreshold", "loop.example/pub-g03125/pub/big.karatsubaThreshold", "loop.example/pub-g03125/pub/big.basicSqrThreshold", "loop.example/pub-g03125/pub/big.karatsubaSqrThreshold", "loop.example/pub-g03125/pub/big.leafSize", "loop.example/pub-g03125/pub/big.natOne", "loop.example/pub-g03125/pub/big.intOne"], fn := fun _ => fun
  | [d1, d2, g1, g2, g3, g4, g5, g6, g7] => { results := [.lit (.bool false)], args := [d1, d2], vars := [g1, g2, g3, g4, g5, g6, g7] }
  | _ => none }
def FnGcdWrongFalsely : Prop := fnGcdRow.holds Tryz.pinned (OpenSpec.ofChange fnGcdWrong)

/-- 'laws.FnGcdDivides': WHATEVER THE INPUT: true; the input reads as it did. -/
def fnGcdDividesSpec : ChangeSpec := { name := "fnGcdDivides", vars := ["loop.example/pub-g03125/pub/big.divRecursiveThreshold", "loop.example/pub-g03125/pub/big.karatsubaThreshold", "loop.example/pub-g03125/pub/big.basicSqrThreshold", "loop.example/pub-g03125/pub/big.karatsubaSqrThreshold", "loop.example/pub-g03125/pub/big.leafSize", "loop.example/pub-g03125/pub/big.natOne", "loop.example/pub-g03125/pub/big.intOne"], fn := fun _ => fun
  | [d1, d2, d3, g1, g2, g3, g4, g5, g6, g7] => { results := [.lit (.bool true)], args := [d1, d2, d3], vars := [g1, g2, g3, g4, g5, g6, g7] }
  | _ => none }
def fnGcdDividesRow : OpenClaim := { program := "ythkklkjldpcbkaagreatdoor", sum := "371dbed0a0a2891b13efb9121fa0451d20143c4ed8f954e3510ff58b52cff75e", func := "loop.example/pub-g03125/laws.FnGcdDivides", spec := "fnGcdDivides", inPlace := ["math/bits.Add64", "math/bits.Sub64", "math.Float64bits", "math.Float64frombits", "math.archLog"], unfollowed := true, recurses := true, named := ["loop.example/pub-g03125/pub/big.divRecursiveThreshold", "loop.example/pub-g03125/pub/big.karatsubaThreshold", "loop.example/pub-g03125/pub/big.basicSqrThreshold", "loop.example/pub-g03125/pub/big.karatsubaSqrThreshold", "math/bits.deBruijn32tab", "math/bits.deBruijn64tab", "loop.example/pub-g03125/pub/big.leafSize", "loop.example/pub-g03125/pub/big.natOne", "loop.example/pub-g03125/pub/big.intOne"], apart := false, laid := [("math/bits.deBruijn32tab", laid_math_bits_deBruijn32tab), ("math/bits.deBruijn64tab", laid_math_bits_deBruijn64tab), ("loop.example/pub-g03125/pub/big.divRecursiveThreshold", laid_loop_example_pub_g03125_pub_big_divRecursiveThreshold), ("loop.example/pub-g03125/pub/big.karatsubaThreshold", laid_loop_example_pub_g03125_pub_big_karatsubaThreshold)] }
def FnGcdDividesSaid : Prop := fnGcdDividesRow.holds Tryz.pinned (OpenSpec.ofChange fnGcdDividesSpec)

/-- ITS FALSE NEIGHBOUR: 'it returns false'. Refute it at one input. -/
def fnGcdDividesWrong : ChangeSpec := { name := "fnGcdDivides", vars := ["loop.example/pub-g03125/pub/big.divRecursiveThreshold", "loop.example/pub-g03125/pub/big.karatsubaThreshold", "loop.example/pub-g03125/pub/big.basicSqrThreshold", "loop.example/pub-g03125/pub/big.karatsubaSqrThreshold", "loop.example/pub-g03125/pub/big.leafSize", "loop.example/pub-g03125/pub/big.natOne", "loop.example/pub-g03125/pub/big.intOne"], fn := fun _ => fun
  | [d1, d2, d3, g1, g2, g3, g4, g5, g6, g7] => { results := [.lit (.bool false)], args := [d1, d2, d3], vars := [g1, g2, g3, g4, g5, g6, g7] }
  | _ => none }
def FnGcdDividesWrongFalsely : Prop := fnGcdDividesRow.holds Tryz.pinned (OpenSpec.ofChange fnGcdDividesWrong)

/-- 'laws.FnInverse': WHATEVER THE INPUT: true; the input reads as it did. -/
def fnInverseSpec : ChangeSpec := { name := "fnInverse", vars := ["loop.example/pub-g03125/pub/big.intOne", "loop.example/pub-g03125/pub/big.divRecursiveThreshold", "loop.example/pub-g03125/pub/big.karatsubaThreshold", "loop.example/pub-g03125/pub/big.basicSqrThreshold", "loop.example/pub-g03125/pub/big.karatsubaSqrThreshold", "loop.example/pub-g03125/pub/big.leafSize", "loop.example/pub-g03125/pub/big.natOne"], fn := fun _ => fun
  | [d1, d2, g1, g2, g3, g4, g5, g6, g7] => { results := [.lit (.bool true)], args := [d1, d2], vars := [g1, g2, g3, g4, g5, g6, g7] }
  | _ => none }
def fnInverseRow : OpenClaim := { program := "ythkklkjldpcbkaagreatdoor", sum := "371dbed0a0a2891b13efb9121fa0451d20143c4ed8f954e3510ff58b52cff75e", func := "loop.example/pub-g03125/laws.FnInverse", spec := "fnInverse", inPlace := ["math/bits.Add64", "math/bits.Sub64", "math.Float64bits", "math.Float64frombits", "math.archLog"], unfollowed := true, recurses := true, named := ["loop.example/pub-g03125/pub/big.intOne", "loop.example/pub-g03125/pub/big.divRecursiveThreshold", "loop.example/pub-g03125/pub/big.karatsubaThreshold", "loop.example/pub-g03125/pub/big.basicSqrThreshold", "loop.example/pub-g03125/pub/big.karatsubaSqrThreshold", "math/bits.deBruijn32tab", "math/bits.deBruijn64tab", "loop.example/pub-g03125/pub/big.leafSize", "loop.example/pub-g03125/pub/big.natOne"], apart := false, laid := [("math/bits.deBruijn32tab", laid_math_bits_deBruijn32tab), ("math/bits.deBruijn64tab", laid_math_bits_deBruijn64tab), ("loop.example/pub-g03125/pub/big.intOne", laid_loop_example_pub_g03125_pub_big_intOne), ("loop.example/pub-g03125/pub/big.divRecursiveThreshold", laid_loop_example_pub_g03125_pub_big_divRecursiveThreshold), ("loop.example/pub-g03125/pub/big.karatsubaThreshold", laid_loop_example_pub_g03125_pub_big_karatsubaThreshold)] }
def FnInverseSaid : Prop := fnInverseRow.holds Tryz.pinned (OpenSpec.ofChange fnInverseSpec)

/-- ITS FALSE NEIGHBOUR: 'it returns false'. Refute it at one input. -/
def fnInverseWrong : ChangeSpec := { name := "fnInverse", vars := ["loop.example/pub-g03125/pub/big.intOne", "loop.example/pub-g03125/pub/big.divRecursiveThreshold", "loop.example/pub-g03125/pub/big.karatsubaThreshold", "loop.example/pub-g03125/pub/big.basicSqrThreshold", "loop.example/pub-g03125/pub/big.karatsubaSqrThreshold", "loop.example/pub-g03125/pub/big.leafSize", "loop.example/pub-g03125/pub/big.natOne"], fn := fun _ => fun
  | [d1, d2, g1, g2, g3, g4, g5, g6, g7] => { results := [.lit (.bool false)], args := [d1, d2], vars := [g1, g2, g3, g4, g5, g6, g7] }
  | _ => none }
def FnInverseWrongFalsely : Prop := fnInverseRow.holds Tryz.pinned (OpenSpec.ofChange fnInverseWrong)

/-- 'laws.FnQuoRem': WHATEVER THE INPUT: true; the input reads as it did. -/
def fnQuoRemSpec : ChangeSpec := { name := "fnQuoRem", vars := ["loop.example/pub-g03125/pub/big.divRecursiveThreshold", "loop.example/pub-g03125/pub/big.karatsubaThreshold", "loop.example/pub-g03125/pub/big.basicSqrThreshold", "loop.example/pub-g03125/pub/big.karatsubaSqrThreshold", "loop.example/pub-g03125/pub/big.leafSize", "loop.example/pub-g03125/pub/big.natOne", "loop.example/pub-g03125/pub/big.intOne"], fn := fun _ => fun
  | [d1, d2, g1, g2, g3, g4, g5, g6, g7] => { results := [.lit (.bool true)], args := [d1, d2], vars := [g1, g2, g3, g4, g5, g6, g7] }
  | _ => none }
def fnQuoRemRow : OpenClaim := { program := "ythkklkjldpcbkaagreatdoor", sum := "371dbed0a0a2891b13efb9121fa0451d20143c4ed8f954e3510ff58b52cff75e", func := "loop.example/pub-g03125/laws.FnQuoRem", spec := "fnQuoRem", inPlace := ["math/bits.Add64", "math/bits.Sub64", "math.Float64bits", "math.Float64frombits", "math.archLog"], unfollowed := true, recurses := true, named := ["loop.example/pub-g03125/pub/big.divRecursiveThreshold", "loop.example/pub-g03125/pub/big.karatsubaThreshold", "loop.example/pub-g03125/pub/big.basicSqrThreshold", "loop.example/pub-g03125/pub/big.karatsubaSqrThreshold", "math/bits.deBruijn32tab", "math/bits.deBruijn64tab", "loop.example/pub-g03125/pub/big.leafSize", "loop.example/pub-g03125/pub/big.natOne", "loop.example/pub-g03125/pub/big.intOne"], apart := false, laid := [("math/bits.deBruijn32tab", laid_math_bits_deBruijn32tab), ("math/bits.deBruijn64tab", laid_math_bits_deBruijn64tab), ("loop.example/pub-g03125/pub/big.divRecursiveThreshold", laid_loop_example_pub_g03125_pub_big_divRecursiveThreshold)] }
def FnQuoRemSaid : Prop := fnQuoRemRow.holds Tryz.pinned (OpenSpec.ofChange fnQuoRemSpec)

/-- ITS FALSE NEIGHBOUR: 'it returns false'. Refute it at one input. -/
def fnQuoRemWrong : ChangeSpec := { name := "fnQuoRem", vars := ["loop.example/pub-g03125/pub/big.divRecursiveThreshold", "loop.example/pub-g03125/pub/big.karatsubaThreshold", "loop.example/pub-g03125/pub/big.basicSqrThreshold", "loop.example/pub-g03125/pub/big.karatsubaSqrThreshold", "loop.example/pub-g03125/pub/big.leafSize", "loop.example/pub-g03125/pub/big.natOne", "loop.example/pub-g03125/pub/big.intOne"], fn := fun _ => fun
  | [d1, d2, g1, g2, g3, g4, g5, g6, g7] => { results := [.lit (.bool false)], args := [d1, d2], vars := [g1, g2, g3, g4, g5, g6, g7] }
  | _ => none }
def FnQuoRemWrongFalsely : Prop := fnQuoRemRow.holds Tryz.pinned (OpenSpec.ofChange fnQuoRemWrong)

/-- 'laws.FnDivide': WHATEVER THE INPUT: true; the input reads as it did. -/
def fnDivideSpec : ChangeSpec := { name := "fnDivide", vars := ["loop.example/pub-g03125/pub/big.natOne", "loop.example/pub-g03125/pub/big.divRecursiveThreshold", "loop.example/pub-g03125/pub/big.karatsubaThreshold", "loop.example/pub-g03125/pub/big.basicSqrThreshold", "loop.example/pub-g03125/pub/big.karatsubaSqrThreshold", "loop.example/pub-g03125/pub/big.leafSize", "loop.example/pub-g03125/pub/big.intOne"], fn := fun _ => fun
  | [d1, d2, d3, g1, g2, g3, g4, g5, g6, g7] => { results := [.lit (.bool true)], args := [d1, d2, d3], vars := [g1, g2, g3, g4, g5, g6, g7] }
  | _ => none }
def fnDivideRow : OpenClaim := { program := "ythkklkjldpcbkaagreatdoor", sum := "371dbed0a0a2891b13efb9121fa0451d20143c4ed8f954e3510ff58b52cff75e", func := "loop.example/pub-g03125/laws.FnDivide", spec := "fnDivide", inPlace := ["math/bits.Add64", "math/bits.Sub64", "math.Float64bits", "math.Float64frombits", "math.archLog"], unfollowed := true, recurses := true, named := ["loop.example/pub-g03125/pub/big.natOne", "loop.example/pub-g03125/pub/big.divRecursiveThreshold", "loop.example/pub-g03125/pub/big.karatsubaThreshold", "loop.example/pub-g03125/pub/big.basicSqrThreshold", "loop.example/pub-g03125/pub/big.karatsubaSqrThreshold", "math/bits.deBruijn32tab", "math/bits.deBruijn64tab", "loop.example/pub-g03125/pub/big.leafSize", "loop.example/pub-g03125/pub/big.intOne"], apart := false, laid := [("math/bits.deBruijn32tab", laid_math_bits_deBruijn32tab), ("math/bits.deBruijn64tab", laid_math_bits_deBruijn64tab), ("loop.example/pub-g03125/pub/big.natOne", laid_loop_example_pub_g03125_pub_big_natOne), ("loop.example/pub-g03125/pub/big.divRecursiveThreshold", laid_loop_example_pub_g03125_pub_big_divRecursiveThreshold)] }
def FnDivideSaid : Prop := fnDivideRow.holds Tryz.pinned (OpenSpec.ofChange fnDivideSpec)

/-- ITS FALSE NEIGHBOUR: 'it returns false'. Refute it at one input. -/
def fnDivideWrong : ChangeSpec := { name := "fnDivide", vars := ["loop.example/pub-g03125/pub/big.natOne", "loop.example/pub-g03125/pub/big.divRecursiveThreshold", "loop.example/pub-g03125/pub/big.karatsubaThreshold", "loop.example/pub-g03125/pub/big.basicSqrThreshold", "loop.example/pub-g03125/pub/big.karatsubaSqrThreshold", "loop.example/pub-g03125/pub/big.leafSize", "loop.example/pub-g03125/pub/big.intOne"], fn := fun _ => fun
  | [d1, d2, d3, g1, g2, g3, g4, g5, g6, g7] => { results := [.lit (.bool false)], args := [d1, d2, d3], vars := [g1, g2, g3, g4, g5, g6, g7] }
  | _ => none }
def FnDivideWrongFalsely : Prop := fnDivideRow.holds Tryz.pinned (OpenSpec.ofChange fnDivideWrong)

/- THE SECOND FORM. 'bulk': how many values and letters a reading holds, each counted each time it is reached (what is shared counts as often as it is met; a slice's spare places count too). A statement '..UptoSaid' is the law's where the arguments, and the package variables that the reading takes, are together of bulk at most 1048576: NARROWER than '..Said'. Prove '..Said' where nothing that the law and all that it calls make is longer than what came in: it says more and counts as full. Else prove '..UptoSaid'. A law counts once. -/
mutual
def uptoBulk {H : Type} : DataW H → Nat
  | .lit (.string bytes) => bytes.length + 1
  | .lit _ => 1
  | .nil => 1
  | .ptr d => uptoBulk d + 1
  | .slice elems spare => uptoBulkAll elems + uptoBulkAll spare + 1
  | .agg parts => uptoBulkAll parts + 1
  | .iface _ d => uptoBulk d + 1
  | .map entries => uptoBulkEntries entries + 1
  | .held _ => 1
def uptoBulkAll {H : Type} : List (DataW H) → Nat
  | [] => 0
  | d :: r => uptoBulk d + uptoBulkAll r
def uptoBulkEntries {H : Type} : List (Lit × DataW H) → Nat
  | [] => 0
  | x :: r => uptoBulkEntry x + uptoBulkEntries r
def uptoBulkEntry {H : Type} : Lit × DataW H → Nat
  | (.string bytes, d) => bytes.length + uptoBulk d + 1
  | (_, d) => uptoBulk d + 1
 end
def uptoSmall : (H : Type) → List (DataW H) → Bool := fun _ ds => decide (uptoBulkAll ds ≤ 1048576)
def OpenSpec.upto (s : _root_.Go.ChangeSpec) : _root_.Go.OpenSpec := { _root_.Go.OpenSpec.ofChange s with cond := some uptoSmall }

/-- 'laws.FnGcdDivides', WHERE WHAT IT READS IS OF BULK AT MOST 1048576: true; the input reads as it did. -/
def fnGcdDividesUptoRow : OpenClaim := { program := "ythkklkjldpcbkaagreatdoor", sum := "371dbed0a0a2891b13efb9121fa0451d20143c4ed8f954e3510ff58b52cff75e", func := "loop.example/pub-g03125/laws.FnGcdDivides", spec := "fnGcdDivides", inPlace := ["math/bits.Add64", "math/bits.Sub64", "math.Float64bits", "math.Float64frombits", "math.archLog"], unfollowed := true, recurses := true, named := ["loop.example/pub-g03125/pub/big.divRecursiveThreshold", "loop.example/pub-g03125/pub/big.karatsubaThreshold", "loop.example/pub-g03125/pub/big.basicSqrThreshold", "loop.example/pub-g03125/pub/big.karatsubaSqrThreshold", "math/bits.deBruijn32tab", "math/bits.deBruijn64tab", "loop.example/pub-g03125/pub/big.leafSize", "loop.example/pub-g03125/pub/big.natOne", "loop.example/pub-g03125/pub/big.intOne"], apart := false, laid := [("math/bits.deBruijn32tab", laid_math_bits_deBruijn32tab), ("math/bits.deBruijn64tab", laid_math_bits_deBruijn64tab), ("loop.example/pub-g03125/pub/big.divRecursiveThreshold", laid_loop_example_pub_g03125_pub_big_divRecursiveThreshold), ("loop.example/pub-g03125/pub/big.karatsubaThreshold", laid_loop_example_pub_g03125_pub_big_karatsubaThreshold)], narrowed := true }
def FnGcdDividesUptoSaid : Prop := fnGcdDividesUptoRow.holds Tryz.pinned (OpenSpec.upto fnGcdDividesSpec)

/-- 'laws.FnInverse', WHERE WHAT IT READS IS OF BULK AT MOST 1048576: true; the input reads as it did. -/
def fnInverseUptoRow : OpenClaim := { program := "ythkklkjldpcbkaagreatdoor", sum := "371dbed0a0a2891b13efb9121fa0451d20143c4ed8f954e3510ff58b52cff75e", func := "loop.example/pub-g03125/laws.FnInverse", spec := "fnInverse", inPlace := ["math/bits.Add64", "math/bits.Sub64", "math.Float64bits", "math.Float64frombits", "math.archLog"], unfollowed := true, recurses := true, named := ["loop.example/pub-g03125/pub/big.intOne", "loop.example/pub-g03125/pub/big.divRecursiveThreshold", "loop.example/pub-g03125/pub/big.karatsubaThreshold", "loop.example/pub-g03125/pub/big.basicSqrThreshold", "loop.example/pub-g03125/pub/big.karatsubaSqrThreshold", "math/bits.deBruijn32tab", "math/bits.deBruijn64tab", "loop.example/pub-g03125/pub/big.leafSize", "loop.example/pub-g03125/pub/big.natOne"], apart := false, laid := [("math/bits.deBruijn32tab", laid_math_bits_deBruijn32tab), ("math/bits.deBruijn64tab", laid_math_bits_deBruijn64tab), ("loop.example/pub-g03125/pub/big.intOne", laid_loop_example_pub_g03125_pub_big_intOne), ("loop.example/pub-g03125/pub/big.divRecursiveThreshold", laid_loop_example_pub_g03125_pub_big_divRecursiveThreshold), ("loop.example/pub-g03125/pub/big.karatsubaThreshold", laid_loop_example_pub_g03125_pub_big_karatsubaThreshold)], narrowed := true }
def FnInverseUptoSaid : Prop := fnInverseUptoRow.holds Tryz.pinned (OpenSpec.upto fnInverseSpec)

/-- 'laws.FnQuoRem', WHERE WHAT IT READS IS OF BULK AT MOST 1048576: true; the input reads as it did. -/
def fnQuoRemUptoRow : OpenClaim := { program := "ythkklkjldpcbkaagreatdoor", sum := "371dbed0a0a2891b13efb9121fa0451d20143c4ed8f954e3510ff58b52cff75e", func := "loop.example/pub-g03125/laws.FnQuoRem", spec := "fnQuoRem", inPlace := ["math/bits.Add64", "math/bits.Sub64", "math.Float64bits", "math.Float64frombits", "math.archLog"], unfollowed := true, recurses := true, named := ["loop.example/pub-g03125/pub/big.divRecursiveThreshold", "loop.example/pub-g03125/pub/big.karatsubaThreshold", "loop.example/pub-g03125/pub/big.basicSqrThreshold", "loop.example/pub-g03125/pub/big.karatsubaSqrThreshold", "math/bits.deBruijn32tab", "math/bits.deBruijn64tab", "loop.example/pub-g03125/pub/big.leafSize", "loop.example/pub-g03125/pub/big.natOne", "loop.example/pub-g03125/pub/big.intOne"], apart := false, laid := [("math/bits.deBruijn32tab", laid_math_bits_deBruijn32tab), ("math/bits.deBruijn64tab", laid_math_bits_deBruijn64tab), ("loop.example/pub-g03125/pub/big.divRecursiveThreshold", laid_loop_example_pub_g03125_pub_big_divRecursiveThreshold)], narrowed := true }
def FnQuoRemUptoSaid : Prop := fnQuoRemUptoRow.holds Tryz.pinned (OpenSpec.upto fnQuoRemSpec)

/-- 'laws.FnDivide', WHERE WHAT IT READS IS OF BULK AT MOST 1048576: true; the input reads as it did. -/
def fnDivideUptoRow : OpenClaim := { program := "ythkklkjldpcbkaagreatdoor", sum := "371dbed0a0a2891b13efb9121fa0451d20143c4ed8f954e3510ff58b52cff75e", func := "loop.example/pub-g03125/laws.FnDivide", spec := "fnDivide", inPlace := ["math/bits.Add64", "math/bits.Sub64", "math.Float64bits", "math.Float64frombits", "math.archLog"], unfollowed := true, recurses := true, named := ["loop.example/pub-g03125/pub/big.natOne", "loop.example/pub-g03125/pub/big.divRecursiveThreshold", "loop.example/pub-g03125/pub/big.karatsubaThreshold", "loop.example/pub-g03125/pub/big.basicSqrThreshold", "loop.example/pub-g03125/pub/big.karatsubaSqrThreshold", "math/bits.deBruijn32tab", "math/bits.deBruijn64tab", "loop.example/pub-g03125/pub/big.leafSize", "loop.example/pub-g03125/pub/big.intOne"], apart := false, laid := [("math/bits.deBruijn32tab", laid_math_bits_deBruijn32tab), ("math/bits.deBruijn64tab", laid_math_bits_deBruijn64tab), ("loop.example/pub-g03125/pub/big.natOne", laid_loop_example_pub_g03125_pub_big_natOne), ("loop.example/pub-g03125/pub/big.divRecursiveThreshold", laid_loop_example_pub_g03125_pub_big_divRecursiveThreshold)], narrowed := true }
def FnDivideUptoSaid : Prop := fnDivideUptoRow.holds Tryz.pinned (OpenSpec.upto fnDivideSpec)

end Rows
end Go.Proofs.YthkklkjldpcbkaaGreatDoor
