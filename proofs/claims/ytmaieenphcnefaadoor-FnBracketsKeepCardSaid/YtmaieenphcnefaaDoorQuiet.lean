/- Calls that only read, inside of a region that draws its order. No program in sight. -/
import Derived.Deep.QuietTactic
import Derived.BigQuiet
namespace Go.Proofs.YtmaieenphcnefaaDoor
open Go.RowKit

theorem quiet_same {P : Program} {f : FuncId} {args : Array Value} {w : World} {n : Nat} {v v' : Value} (hv : v = v')
    (h : Calls P f args (w.drewN n) fun e w' => e = .returned v ∧ w.drewN n = w') : Calls P f args (w.drewN n) fun e w'' => e = .returned v' ∧ ∃ m, w'' = w.drewN m :=
  h.mono fun _ _ ⟨he, hm⟩ => ⟨hv ▸ he, n, hm.symm⟩

end Go.Proofs.YtmaieenphcnefaaDoor
