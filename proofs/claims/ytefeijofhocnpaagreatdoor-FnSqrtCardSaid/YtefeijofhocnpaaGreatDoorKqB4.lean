/- For the claim of laws.The greatest number whose square is at most x (FnSqrt).: Times. -/
import Derived.Test.YtefeijofhocnpaaGreatDoorKqB3
import Derived.Test.YtefeijofhocnpaaGreatDoorKqB2
import Derived.Deep.RegionHeld3
set_option linter.unusedVariables false
set_option linter.unusedSimpArgs false
namespace Go.Proofs.YtefeijofhocnpaaGreatDoor
open Go.RowKit Go.Proofs.YtefeijofhocnpaaGreatDoor.PSpec Go.Proofs.YtefeijofhocnpaaGreatDoorW.PrintWords Go.Proofs.YtefeijofhocnpaaGreatDoorW.PrintLast Go.Proofs.YtefeijofhocnpaaGreatDoorW.PrintMore
theorem C_upd {k : IntKind} {w w' : World} {A : Option Addr} {n : Nat} {xs : List Int} (h : Kd.C (Kd.int k) w A n xs) (u : Upd NoF w w') : Kd.C (Kd.int k) w' A n xs :=
  Kd.C_below h (u.below _ (Nat.le_refl _) (fun _ _ _ h => h))
end Go.Proofs.YtefeijofhocnpaaGreatDoor
