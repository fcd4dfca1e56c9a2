/- The contracts of the small functions on lists, together. -/
import Derived.Test.YtkocpijloiamcaaGreatDoorGC
import Derived.Test.YtkocpijloiamcaaGreatDoorSmallOf
import Derived.Test.YtkocpijloiamcaaGreatDoorRaised
import Derived.Test.YtkocpijloiamcaaGreatDoorAreLevels
