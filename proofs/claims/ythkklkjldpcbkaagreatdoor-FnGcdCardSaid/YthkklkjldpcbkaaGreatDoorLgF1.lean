/- For the claim of laws.FnGcd: BitLen, Lsh, SqrtM, Sqrt, ISqrt, Guard, Answer, ImplSqrt. -/
import Derived.Test.YthkklkjldpcbkaaGreatDoorLgD1
import Derived.Test.YthkklkjldpcbkaaGreatDoorLgA2
import Derived.Test.YthkklkjldpcbkaaGreatDoorLgD6
import Derived.Test.YthkklkjldpcbkaaGreatDoorLgA1
import Derived.Test.YthkklkjldpcbkaaGreatDoorLgC1
import Derived.Test.YthkklkjldpcbkaaGreatDoorLgD3
import Derived.WalkLawsBesides
import Derived.Test.YthkklkjldpcbkaaGreatDoorLgB2
import Derived.Recover
import Derived.Defers
import Derived.Test.YthkklkjldpcbkaaGreatDoorLgB4
set_option linter.unusedVariables false
set_option linter.unusedSimpArgs false
namespace Go.Proofs.YthkklkjldpcbkaaGreatDoor
open Go.RowKit
@[reducible] def gW (w : World) : World := w.alloc (.cells #[.bool false] 4)
end Go.Proofs.YthkklkjldpcbkaaGreatDoor
