/- impl.Reorder over bidi.Reorder: the places of one line. -/
import Derived.Test.YtkocpijloiamcaaDoorReorder
import Derived.Test.YtkocpijloiamcaaDoorSmall
namespace Go.Proofs.YtkocpijloiamcaaDoor
open Go.RowKit

theorem wrap8_small {x : Int} (h0 : 0 ≤ x) (h1 : x ≤ 126) : IntKind.i8.wrap x = x := wraps_i8 x h0 (by omega)

end Go.Proofs.YtkocpijloiamcaaDoor
