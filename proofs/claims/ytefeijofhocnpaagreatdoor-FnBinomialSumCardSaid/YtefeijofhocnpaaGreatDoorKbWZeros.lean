/- For the claim: texts of this seat that the proof stands on. -/
import Derived.Test.YtefeijofhocnpaaGreatDoorKbWApart
import Derived.Test.YtefeijofhocnpaaGreatDoorKbWArr
