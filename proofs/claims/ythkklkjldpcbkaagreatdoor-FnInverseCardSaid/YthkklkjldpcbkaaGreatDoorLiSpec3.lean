/- The reference's functions spec_Has as Lean functions, each with the proof that Go comes to its answer: written for this claim by the kit's print program; these pieces of its texts stand here together. -/
import Derived.Test.YthkklkjldpcbkaaGreatDoorLiSpec1
import Derived.Test.YthkklkjldpcbkaaGreatDoorProg
import Derived.Below
import Derived.Deep.Draws
import Derived.Deep.AppendLies
import Derived.Maps.AppendAt
import Derived.OwnWalk
import Derived.Laws.BytesArg
import Derived.Laws.MakeOwn
import Derived.Laws.OwnMore
import Derived.Deep.OwnRows
import Derived.Tactics
import Derived.Lib.ConvBytes
import Derived.Laws.Slices
import Derived.WalkKit
import Derived.KernelRfl
import Derived.RowKit3
import Derived.Deep.LoopGhost
import Derived.Deep.QuietTactic
import Derived.BigQuiet
import Derived.WideLaws
import Derived.Deep.DeepCutAuto
import Derived.Deep.CutBlock
import Derived.Deep.RegionHeld3
import Derived.Laws.Rows
import Derived.Lib.AppendStr
import Derived.ArgAppend
import Derived.Laws.IdiomCopy
import Derived.OrdersHeld
import Derived.Laws.BitsLemmas
import Derived.RowKit
import Derived.Test.YthkklkjldpcbkaaGreatDoorLiWWords
import Derived.Test.YthkklkjldpcbkaaGreatDoorLiWLast
import Derived.Test.YthkklkjldpcbkaaGreatDoorLiWApart
import Derived.Test.YthkklkjldpcbkaaGreatDoorLiWFoot
import Derived.Test.YthkklkjldpcbkaaGreatDoorLiWKept
import Derived.Test.YthkklkjldpcbkaaGreatDoorLiWShare
import Derived.Laws.StructEq
import Derived.Test.YthkklkjldpcbkaaGreatDoorLiWRepsOne
import Derived.Test.YthkklkjldpcbkaaGreatDoorLiWGuard
import Derived.Test.YthkklkjldpcbkaaGreatDoorLiWMore
namespace Go.Proofs.YthkklkjldpcbkaaGreatDoor.PSpec
open Go.RowKit Go.Proofs.YthkklkjldpcbkaaGreatDoorW.PrintWords Go.Proofs.YthkklkjldpcbkaaGreatDoorW.PrintLast Go.Proofs.YthkklkjldpcbkaaGreatDoorW.PrintMore
attribute [local go_sem] max2_int min2_int max_two min_two max_three min_three max_four min_four   -- for this text's walks alone
set_option linter.unusedVariables false
set_option linter.unusedSimpArgs false
end Go.Proofs.YthkklkjldpcbkaaGreatDoor.PSpec
