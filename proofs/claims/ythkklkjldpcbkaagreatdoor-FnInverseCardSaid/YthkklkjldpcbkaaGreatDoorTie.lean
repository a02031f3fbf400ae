/-
  DERIVED. GIVEN WITH THE SEED: THE PROGRAM's TIES (one call each: nine closed facts by the kernel) AND EACH ROW's TIE, after the 31st guide's Derived/Test/Toyas{Tie, Card}.lean. No idea stands in it: it is a product of the set-up. Laid BY PROGRAM, IN A SANDBOX (cutbox-door.mjs). By AI agents, Wed Nov 11 2026. No macro, syntax, notation, axiom, sorry.
-/
import Derived.Test.YthkklkjldpcbkaaGreatDoorRows
import Derived.LaidByTextLater
import Derived.SevenTiedAt
import Derived.LaidSub
import Derived.LaidOnce
namespace Go.Proofs.YthkklkjldpcbkaaGreatDoor
open Go
set_option maxRecDepth 100000
theorem seatTie1 : Tryz.prog.laidByTextLater [("math/bits.deBruijn32tab", Rows.laid_math_bits_deBruijn32tab), ("math/bits.deBruijn64tab", Rows.laid_math_bits_deBruijn64tab), ("loop.example/pub-g03125/pub/big.intOne", Rows.laid_loop_example_pub_g03125_pub_big_intOne), ("loop.example/pub-g03125/pub/big.divRecursiveThreshold", Rows.laid_loop_example_pub_g03125_pub_big_divRecursiveThreshold), ("loop.example/pub-g03125/pub/big.karatsubaThreshold", Rows.laid_loop_example_pub_g03125_pub_big_karatsubaThreshold)] [.data, .data, .widerDeep, .data, .data] true :=
  Program.laidByTextLater_by_one 51 8 65 (by kernel_rfl) (by kernel_rfl) (by kernel_rfl) (by kernel_rfl) (by kernel_rfl) (by kernel_rfl) (fun _ _ => by kernel_rfl)
theorem seatTie2 : Tryz.prog.laidByTextLater [("math/bits.deBruijn32tab", Rows.laid_math_bits_deBruijn32tab), ("math/bits.deBruijn64tab", Rows.laid_math_bits_deBruijn64tab), ("loop.example/pub-g03125/pub/big.natOne", Rows.laid_loop_example_pub_g03125_pub_big_natOne), ("loop.example/pub-g03125/pub/big.divRecursiveThreshold", Rows.laid_loop_example_pub_g03125_pub_big_divRecursiveThreshold)] [.data, .data, .widerDeep, .data] true :=
  Program.laidByTextLater_by_one 51 8 65 (by kernel_rfl) (by kernel_rfl) (by kernel_rfl) (by kernel_rfl) (by kernel_rfl) (by kernel_rfl) (fun _ _ => by kernel_rfl)
theorem noOwnUnsafe : Tryz.pinned.checked.prog.headLifts.contains "ownunsafe" = false := by kernel_rfl
theorem tie : Tryz.prog.laidByTextLater [("math/bits.deBruijn32tab", Rows.laid_math_bits_deBruijn32tab), ("math/bits.deBruijn64tab", Rows.laid_math_bits_deBruijn64tab), ("loop.example/pub-g03125/pub/big.divRecursiveThreshold", Rows.laid_loop_example_pub_g03125_pub_big_divRecursiveThreshold), ("loop.example/pub-g03125/pub/big.karatsubaThreshold", Rows.laid_loop_example_pub_g03125_pub_big_karatsubaThreshold)] [.data, .data, .data, .data] true :=
  Program.laidByTextLater.sub seatTie1 ["math/bits.deBruijn32tab", "math/bits.deBruijn64tab", "loop.example/pub-g03125/pub/big.divRecursiveThreshold", "loop.example/pub-g03125/pub/big.karatsubaThreshold"] (by kernel_rfl) (by kernel_rfl)
theorem fnGcd_row_tie : Rows.fnGcdRow.laidByTextAt .later Tryz.pinned [.data, .data, .data, .data] true :=
  OpenClaim.laidByTextAt_later rfl rfl tie noOwnUnsafe
theorem fnGcdDivides_row_tie : Rows.fnGcdDividesRow.laidByTextAt .later Tryz.pinned [.data, .data, .data, .data] true :=
  OpenClaim.laidByTextAt_later rfl rfl tie noOwnUnsafe
theorem tie2 : Tryz.prog.laidByTextLater [("math/bits.deBruijn32tab", Rows.laid_math_bits_deBruijn32tab), ("math/bits.deBruijn64tab", Rows.laid_math_bits_deBruijn64tab), ("loop.example/pub-g03125/pub/big.intOne", Rows.laid_loop_example_pub_g03125_pub_big_intOne), ("loop.example/pub-g03125/pub/big.divRecursiveThreshold", Rows.laid_loop_example_pub_g03125_pub_big_divRecursiveThreshold), ("loop.example/pub-g03125/pub/big.karatsubaThreshold", Rows.laid_loop_example_pub_g03125_pub_big_karatsubaThreshold)] [.data, .data, .widerDeep, .data, .data] true :=
  Program.laidByTextLater.sub seatTie1 ["math/bits.deBruijn32tab", "math/bits.deBruijn64tab", "loop.example/pub-g03125/pub/big.intOne", "loop.example/pub-g03125/pub/big.divRecursiveThreshold", "loop.example/pub-g03125/pub/big.karatsubaThreshold"] (by kernel_rfl) (by kernel_rfl)
theorem fnInverse_row_tie : Rows.fnInverseRow.laidByTextAt .later Tryz.pinned [.data, .data, .widerDeep, .data, .data] true :=
  OpenClaim.laidByTextAt_later rfl rfl tie2 noOwnUnsafe
theorem tie3 : Tryz.prog.laidByTextLater [("math/bits.deBruijn32tab", Rows.laid_math_bits_deBruijn32tab), ("math/bits.deBruijn64tab", Rows.laid_math_bits_deBruijn64tab), ("loop.example/pub-g03125/pub/big.divRecursiveThreshold", Rows.laid_loop_example_pub_g03125_pub_big_divRecursiveThreshold)] [.data, .data, .data] true :=
  Program.laidByTextLater.sub seatTie1 ["math/bits.deBruijn32tab", "math/bits.deBruijn64tab", "loop.example/pub-g03125/pub/big.divRecursiveThreshold"] (by kernel_rfl) (by kernel_rfl)
theorem fnQuoRem_row_tie : Rows.fnQuoRemRow.laidByTextAt .later Tryz.pinned [.data, .data, .data] true :=
  OpenClaim.laidByTextAt_later rfl rfl tie3 noOwnUnsafe
theorem tie4 : Tryz.prog.laidByTextLater [("math/bits.deBruijn32tab", Rows.laid_math_bits_deBruijn32tab), ("math/bits.deBruijn64tab", Rows.laid_math_bits_deBruijn64tab), ("loop.example/pub-g03125/pub/big.natOne", Rows.laid_loop_example_pub_g03125_pub_big_natOne), ("loop.example/pub-g03125/pub/big.divRecursiveThreshold", Rows.laid_loop_example_pub_g03125_pub_big_divRecursiveThreshold)] [.data, .data, .widerDeep, .data] true :=
  Program.laidByTextLater.sub seatTie2 ["math/bits.deBruijn32tab", "math/bits.deBruijn64tab", "loop.example/pub-g03125/pub/big.natOne", "loop.example/pub-g03125/pub/big.divRecursiveThreshold"] (by kernel_rfl) (by kernel_rfl)
theorem fnDivide_row_tie : Rows.fnDivideRow.laidByTextAt .later Tryz.pinned [.data, .data, .widerDeep, .data] true :=
  OpenClaim.laidByTextAt_later rfl rfl tie4 noOwnUnsafe
theorem fnGcdDividesUpto_row_tie : Rows.fnGcdDividesUptoRow.laidByTextAt .later Tryz.pinned [.data, .data, .data, .data] true :=
  OpenClaim.laidByTextAt_later rfl rfl tie noOwnUnsafe
theorem fnInverseUpto_row_tie : Rows.fnInverseUptoRow.laidByTextAt .later Tryz.pinned [.data, .data, .widerDeep, .data, .data] true :=
  OpenClaim.laidByTextAt_later rfl rfl tie2 noOwnUnsafe
theorem fnQuoRemUpto_row_tie : Rows.fnQuoRemUptoRow.laidByTextAt .later Tryz.pinned [.data, .data, .data] true :=
  OpenClaim.laidByTextAt_later rfl rfl tie3 noOwnUnsafe
theorem fnDivideUpto_row_tie : Rows.fnDivideUptoRow.laidByTextAt .later Tryz.pinned [.data, .data, .widerDeep, .data] true :=
  OpenClaim.laidByTextAt_later rfl rfl tie4 noOwnUnsafe
end Go.Proofs.YthkklkjldpcbkaaGreatDoor
