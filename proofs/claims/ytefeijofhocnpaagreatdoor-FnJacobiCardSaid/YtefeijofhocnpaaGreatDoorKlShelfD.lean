/-
  DERIVED: THE SHELF's CONTRACTS AT THIS DUMP, IN PLAIN WORDS (tools/lay-plain.mjs out of 'YtefeijofhocnpaaGreatDoorTmpShelfD.lean', which tools/lay-shelf.mjs wrote): THE SAME DECLARATIONS UNDER THE SAME NAMES: 'import', 'namespace', 'open', 'def', 'theorem' AND NOTHING ELSE: no command of the shelf's: FOR A HAND-IN. Each laying: the table of numbers ('.._ren') and one theorem, a field a fact of the dump's own or the kernel's comparison; each contract: ONE APPLICATION.
-/
import Derived.Shelf.Spec.TrailingZeros
import Derived.Test.YtefeijofhocnpaaGreatDoorProg
namespace Go.Proofs
open Go.Shelf
def Tryz.lays727_ren : Go.Shelf.Ren := ⟨fun | 27 => 126 | 28 => 156 | 29 => 157 | n => n, fun | 25 => 22 | 3 => 3 | 27 => 162 | 22 => 74 | 4 => 4 | 53 => 175 | 0 => 0 | 5 => 5 | 54 => 176 | n => n, fun | 0 => 6 | 1 => 7 | n => n⟩
theorem Tryz.lays727 : Go.Proofs.Lays7.n27 Tryz.prog Tryz.lays727_ren := {
  mixed := by kernel_rfl
  f27 := Tryz.func126.trans (congrArg some (by kernel_rfl))
  f28 := Tryz.func156.trans (congrArg some (by kernel_rfl))
  f29 := Tryz.func157.trans (congrArg some (by kernel_rfl))
  t0 := Tryz.underlying0
  a0 := Tryz.isAgg0
  z0 := Tryz.sizeOf0
  v0 := Tryz.zeroValue0
  i0 := by kernel_rfl
  t3 := Tryz.underlying3
  a3 := Tryz.isAgg3
  z3 := Tryz.sizeOf3
  v3 := Tryz.zeroValue3
  i3 := by kernel_rfl
  t4 := Tryz.underlying4
  a4 := Tryz.isAgg4
  z4 := Tryz.sizeOf4
  v4 := Tryz.zeroValue4
  i4 := by kernel_rfl
  t5 := Tryz.underlying5
  a5 := Tryz.isAgg5
  z5 := Tryz.sizeOf5
  v5 := Tryz.zeroValue5
  i5 := by kernel_rfl
  t22 := Tryz.underlying74
  a22 := Tryz.isAgg74
  z22 := Tryz.sizeOf74
  v22 := Tryz.zeroValue74
  i22 := by kernel_rfl
  t25 := Tryz.underlying22
  a25 := Tryz.isAgg22
  z25 := Tryz.sizeOf22
  v25 := Tryz.zeroValue22
  i25 := by kernel_rfl
  t27 := Tryz.underlying162
  a27 := Tryz.isAgg162
  z27 := Tryz.sizeOf162
  v27 := Tryz.zeroValue162
  i27 := by kernel_rfl
  t53 := Tryz.underlying175
  a53 := Tryz.isAgg175
  z53 := Tryz.sizeOf175
  v53 := Tryz.zeroValue175
  i53 := by kernel_rfl
  t54 := Tryz.underlying176
  a54 := Tryz.isAgg176
  z54 := Tryz.sizeOf176
  g0 := by kernel_rfl
  g1 := by kernel_rfl }
end Go.Proofs
