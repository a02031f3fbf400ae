/-
  DERIVED: THE SHELF's CONTRACTS AT THIS DUMP, IN PLAIN WORDS (tools/lay-plain.mjs out of 'YtefeijofhocnpaaGreatDoorTmpShelfC.lean', which tools/lay-shelf.mjs wrote): THE SAME DECLARATIONS UNDER THE SAME NAMES: 'import', 'namespace', 'open', 'def', 'theorem' AND NOTHING ELSE: no command of the shelf's: FOR A HAND-IN. Each laying: the table of numbers ('.._ren') and one theorem, a field a fact of the dump's own or the kernel's comparison; each contract: ONE APPLICATION.
-/
import Derived.Shelf.Small.Bits
import Derived.Shelf.Strconv.Itoa0
import Derived.Test.YtefeijofhocnpaaGreatDoorProg
namespace Go.Proofs
open Go.Shelf
def Tryz.lays129_ren : Go.Shelf.Ren := ⟨fun | 129 => 175 | n => n, fun | 53 => 74 | 3 => 3 | 4 => 4 | 46 => 22 | 5 => 5 | 9 => 9 | n => n, fun | n => n⟩
def Tryz.lays125_ren : Go.Shelf.Ren := ⟨fun | 125 => 152 | 128 => 174 | 129 => 175 | n => n, fun | 46 => 22 | 3 => 3 | 51 => 162 | 53 => 74 | 4 => 4 | 5 => 5 | 9 => 9 | n => n, fun | n => n⟩
def Tryz.lays134_ren : Go.Shelf.Ren := ⟨fun | 134 => 177 | 129 => 175 | n => n, fun | 53 => 74 | 3 => 3 | 4 => 4 | 46 => 22 | 5 => 5 | 9 => 9 | n => n, fun | n => n⟩
theorem Tryz.lays134 : Go.Proofs.Lays.n134 Tryz.prog Tryz.lays134_ren := {
  mixed := by kernel_rfl
  f129 := Tryz.func175.trans (congrArg some (by kernel_rfl))
  f134 := Tryz.func177.trans (congrArg some (by kernel_rfl))
  t3 := Tryz.underlying3
  a3 := Tryz.isAgg3
  z3 := Tryz.sizeOf3
  v3 := Tryz.zeroValue3
  t4 := Tryz.underlying4
  a4 := Tryz.isAgg4
  z4 := Tryz.sizeOf4
  v4 := Tryz.zeroValue4
  t5 := Tryz.underlying5
  a5 := Tryz.isAgg5
  z5 := Tryz.sizeOf5
  v5 := Tryz.zeroValue5
  t9 := Tryz.underlying9
  a9 := Tryz.isAgg9
  z9 := Tryz.sizeOf9
  v9 := Tryz.zeroValue9
  t46 := Tryz.underlying22
  a46 := Tryz.isAgg22
  z46 := Tryz.sizeOf22
  v46 := Tryz.zeroValue22
  t53 := Tryz.underlying74
  a53 := Tryz.isAgg74
  z53 := Tryz.sizeOf74
  v53 := Tryz.zeroValue74 }
def Tryz.lays130_ren : Go.Shelf.Ren := ⟨fun | 130 => 161 | 125 => 152 | 128 => 174 | 129 => 175 | n => n, fun | 46 => 22 | 3 => 3 | 51 => 162 | 53 => 74 | 4 => 4 | 5 => 5 | 9 => 9 | n => n, fun | n => n⟩
theorem Tryz.lays130 : Go.Proofs.Lays.n130 Tryz.prog Tryz.lays130_ren := {
  mixed := by kernel_rfl
  f125 := Tryz.func152.trans (congrArg some (by kernel_rfl))
  f128 := Tryz.func174.trans (congrArg some (by kernel_rfl))
  f129 := Tryz.func175.trans (congrArg some (by kernel_rfl))
  f130 := Tryz.func161.trans (congrArg some (by kernel_rfl))
  t3 := Tryz.underlying3
  a3 := Tryz.isAgg3
  z3 := Tryz.sizeOf3
  v3 := Tryz.zeroValue3
  t4 := Tryz.underlying4
  a4 := Tryz.isAgg4
  z4 := Tryz.sizeOf4
  v4 := Tryz.zeroValue4
  t5 := Tryz.underlying5
  a5 := Tryz.isAgg5
  z5 := Tryz.sizeOf5
  v5 := Tryz.zeroValue5
  t9 := Tryz.underlying9
  a9 := Tryz.isAgg9
  z9 := Tryz.sizeOf9
  v9 := Tryz.zeroValue9
  t46 := Tryz.underlying22
  a46 := Tryz.isAgg22
  z46 := Tryz.sizeOf22
  v46 := Tryz.zeroValue22
  t51 := Tryz.underlying162
  a51 := Tryz.isAgg162
  z51 := Tryz.sizeOf162
  v51 := Tryz.zeroValue162
  t53 := Tryz.underlying74
  a53 := Tryz.isAgg74
  z53 := Tryz.sizeOf74
  v53 := Tryz.zeroValue74 }
end Go.Proofs
