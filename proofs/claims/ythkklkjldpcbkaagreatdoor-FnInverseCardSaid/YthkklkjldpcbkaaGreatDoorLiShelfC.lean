/-
 DERIVED: THE SHELF's CONTRACTS AT THIS DUMP, IN PLAIN WORDS (tools/lay-plain.mjs out of 'YthkklkjldpcbkaaGreatDoorTmpShelfC.lean', which tools/lay-shelf.mjs wrote): THE SAME DECLARATIONS UNDER THE SAME NAMES: 'import', 'namespace', 'open', 'def', 'theorem' AND NOTHING ELSE: no command of the shelf's: FOR A HAND-IN. Each laying: the table of numbers ('.._ren') and one theorem, a field a fact of the dump's own or the kernel's comparison; each contract: ONE APPLICATION.
-/
import Derived.Shelf.Small.Bits
import Derived.Shelf.Strconv.Itoa0
import Derived.Test.YthkklkjldpcbkaaGreatDoorProg
namespace Go.Proofs
open Go.Shelf
def Tryz.lays129_ren : Go.Shelf.Ren := ⟨fun | 129 => 145 | n => n, fun | 53 => 80 | 3 => 3 | 4 => 4 | 46 => 65 | 5 => 5 | 9 => 9 | n => n, fun | n => n⟩
def Tryz.lays125_ren : Go.Shelf.Ren := ⟨fun | 125 => 138 | 128 => 144 | 129 => 145 | n => n, fun | 46 => 65 | 3 => 3 | 51 => 145 | 53 => 80 | 4 => 4 | 5 => 5 | 9 => 9 | n => n, fun | n => n⟩
def Tryz.lays134_ren : Go.Shelf.Ren := ⟨fun | 134 => 141 | 129 => 145 | n => n, fun | 53 => 80 | 3 => 3 | 4 => 4 | 46 => 65 | 5 => 5 | 9 => 9 | n => n, fun | n => n⟩
theorem Tryz.lays134 : Go.Proofs.Lays.n134 Tryz.prog Tryz.lays134_ren := {
 mixed := by kernel_rfl
 f129 := Tryz.func145.trans (congrArg some (by kernel_rfl))
 f134 := Tryz.func141.trans (congrArg some (by kernel_rfl))
 t3 := Tryz.underlying3
 a3 := Tryz.isAgg3
 z3 := Tryz.sizeOf3
 v3 := Tryz.zeroValue3
 t4 := Tryz.underlying4
 a4 := Tryz.isAgg4
 z4 := Tryz.sizeOf4
 v4 := Tryz.zeroValue4
 t5 := Tryz.underlying5
 a5 := Tryz.isAgg5
 z5 := Tryz.sizeOf5
 v5 := Tryz.zeroValue5
 t9 := Tryz.underlying9
 a9 := Tryz.isAgg9
 z9 := Tryz.sizeOf9
 v9 := Tryz.zeroValue9
 t46 := Tryz.underlying65
 a46 := Tryz.isAgg65
 z46 := Tryz.sizeOf65
 v46 := Tryz.zeroValue65
 t53 := Tryz.underlying80
 a53 := Tryz.isAgg80
 z53 := Tryz.sizeOf80
 v53 := Tryz.zeroValue80 }
def Tryz.lays130_ren : Go.Shelf.Ren := ⟨fun | 130 => 121 | 125 => 138 | 128 => 144 | 129 => 145 | n => n, fun | 46 => 65 | 3 => 3 | 51 => 145 | 53 => 80 | 4 => 4 | 5 => 5 | 9 => 9 | n => n, fun | n => n⟩
theorem Tryz.lays130 : Go.Proofs.Lays.n130 Tryz.prog Tryz.lays130_ren := {
 mixed := by kernel_rfl
 f125 := Tryz.func138.trans (congrArg some (by kernel_rfl))
 f128 := Tryz.func144.trans (congrArg some (by kernel_rfl))
 f129 := Tryz.func145.trans (congrArg some (by kernel_rfl))
 f130 := Tryz.func121.trans (congrArg some (by kernel_rfl))
 t3 := Tryz.underlying3
 a3 := Tryz.isAgg3
 z3 := Tryz.sizeOf3
 v3 := Tryz.zeroValue3
 t4 := Tryz.underlying4
 a4 := Tryz.isAgg4
 z4 := Tryz.sizeOf4
 v4 := Tryz.zeroValue4
 t5 := Tryz.underlying5
 a5 := Tryz.isAgg5
 z5 := Tryz.sizeOf5
 v5 := Tryz.zeroValue5
 t9 := Tryz.underlying9
 a9 := Tryz.isAgg9
 z9 := Tryz.sizeOf9
 v9 := Tryz.zeroValue9
 t46 := Tryz.underlying65
 a46 := Tryz.isAgg65
 z46 := Tryz.sizeOf65
 v46 := Tryz.zeroValue65
 t51 := Tryz.underlying145
 a51 := Tryz.isAgg145
 z51 := Tryz.sizeOf145
 v51 := Tryz.zeroValue145
 t53 := Tryz.underlying80
 a53 := Tryz.isAgg80
 z53 := Tryz.sizeOf80
 v53 := Tryz.zeroValue80 }
end Go.Proofs
