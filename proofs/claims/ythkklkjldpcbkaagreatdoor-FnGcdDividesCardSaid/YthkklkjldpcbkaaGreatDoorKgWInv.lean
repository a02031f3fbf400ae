/- For the claim: texts of this seat that the proof stands on. -/
import Derived.Test.YthkklkjldpcbkaaGreatDoorKgWTab
namespace Go.Proofs.YthkklkjldpcbkaaGreatDoorW.PrintLast
def up (b : Nat → Bool) (i : Nat) : Nat → Bool := fun j => if j = i then true else b j
end Go.Proofs.YthkklkjldpcbkaaGreatDoorW.PrintLast
