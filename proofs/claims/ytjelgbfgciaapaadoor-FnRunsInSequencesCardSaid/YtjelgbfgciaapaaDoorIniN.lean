/- Initiators and PDIs by the numbers of classes. No program in sight. -/
import Derived.Test.YtjelgbfgciaapaaDoorCls
namespace Go.Proofs.YtjelgbfgciaapaaDoor

/-- Initiators and PDIs of a text of numbers. -/
def iniN (x : Nat → Int) (i : Nat) : Bool := iniB (x i)
def pdiN (x : Nat → Int) (i : Nat) : Bool := x i == 22

end Go.Proofs.YtjelgbfgciaapaaDoor
