/- spec.AreLevels: whether numbers are levels. -/
import Derived.Test.YtkocpijloiamcaaDoorGA
import Derived.Deep.LoopGhost
import Derived.Deep.QuietTactic
import Derived.BigQuiet
import Derived.Lib.Hide
namespace Go.Proofs.YtkocpijloiamcaaDoor
open Go.RowKit

def levelsB (n : Nat) (x : Nat → Int) : Bool := decide (∀ i, i < n → 0 ≤ x i ∧ x i ≤ 126)

end Go.Proofs.YtkocpijloiamcaaDoor
