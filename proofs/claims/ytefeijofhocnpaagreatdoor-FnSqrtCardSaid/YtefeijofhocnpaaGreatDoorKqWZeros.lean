/- For the claim: texts of this seat that the proof stands on. -/
import Derived.Test.YtefeijofhocnpaaGreatDoorKqWApart
import Derived.Test.YtefeijofhocnpaaGreatDoorKqWArr
