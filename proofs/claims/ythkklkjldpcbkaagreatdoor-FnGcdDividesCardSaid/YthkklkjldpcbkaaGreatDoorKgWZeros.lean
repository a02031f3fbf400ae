/- For the claim: texts of this seat that the proof stands on. -/
import Derived.Test.YthkklkjldpcbkaaGreatDoorKgWApart
import Derived.Test.YthkklkjldpcbkaaGreatDoorKgWArr
