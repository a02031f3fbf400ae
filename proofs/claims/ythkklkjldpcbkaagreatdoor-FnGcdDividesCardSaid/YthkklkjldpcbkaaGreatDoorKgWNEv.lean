/- For the claim: texts of this seat that the proof stands on. -/
import Derived.Test.YthkklkjldpcbkaaGreatDoorKgWN
