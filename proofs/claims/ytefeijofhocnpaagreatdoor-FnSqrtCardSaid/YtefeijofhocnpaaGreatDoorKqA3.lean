/- For the claim of laws.The greatest number whose square is at most x (FnSqrt).: MulW, MulB, AddTo. -/
import Derived.Test.YtefeijofhocnpaaGreatDoorKqA2
import Derived.Deep.RegionHeld3
import Derived.StillTailTactics
set_option linter.unusedVariables false
set_option linter.unusedSimpArgs false
