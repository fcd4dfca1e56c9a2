/- The contracts of the small functions on lists, together. -/
import Derived.Test.YtkocpijloiamcaaDoorGC
import Derived.Test.YtkocpijloiamcaaDoorSmallOf
import Derived.Test.YtkocpijloiamcaaDoorRaised
import Derived.Test.YtkocpijloiamcaaDoorAreLevels
