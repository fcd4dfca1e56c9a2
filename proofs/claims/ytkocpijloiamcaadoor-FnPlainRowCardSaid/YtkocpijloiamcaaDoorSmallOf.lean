/- impl.smallOf: numbers as int8. -/
import Derived.Test.YtkocpijloiamcaaDoorGA
import Derived.Deep.LoopGhost
import Derived.Deep.QuietTactic
import Derived.BigQuiet
import Derived.Lib.Hide
namespace Go.Proofs.YtkocpijloiamcaaDoor
open Go.RowKit

end Go.Proofs.YtkocpijloiamcaaDoor
