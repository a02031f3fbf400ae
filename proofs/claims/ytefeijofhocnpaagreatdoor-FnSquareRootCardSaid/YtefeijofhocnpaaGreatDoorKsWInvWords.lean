/- For the claim: texts of this seat that the proof stands on. -/
import Derived.Test.YtefeijofhocnpaaGreatDoorKsWInv
import Derived.Test.YtefeijofhocnpaaGreatDoorKsWFootNe
