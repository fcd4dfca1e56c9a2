/- An isolating run sequence's seven fields. No program in sight. -/
import Derived.Test.YtmaieenphcnefaaDoorBase
namespace Go.Proofs.YtmaieenphcnefaaDoor
open Go.RowKit

/-- Seven fields. -/
def sf (f0 f1 f2 f3 f4 f5 f6 : Value) : Nat → Value
  | 0 => f0 | 1 => f1 | 2 => f2 | 3 => f3 | 4 => f4 | 5 => f5 | 6 => f6 | _ => f6

theorem sf_set3 {w : World} {p : Nat} {t : TypeId} {f0 f1 f2 f3 f4 f5 f6 : Value} (h : w.rowIs p t 7 (sf f0 f1 f2 f3 f4 f5 f6)) (v : Value) : (w.setCell ⟨p, 3, none⟩ v).rowIs p t 7 (sf f0 f1 f2 v f4 f5 f6) :=
  (h.set 3 v).congr fun i hi => match i, hi with | 0, _ => rfl | 1, _ => rfl | 2, _ => rfl | 3, _ => rfl | 4, _ => rfl | 5, _ => rfl | 6, _ => rfl

end Go.Proofs.YtmaieenphcnefaaDoor
