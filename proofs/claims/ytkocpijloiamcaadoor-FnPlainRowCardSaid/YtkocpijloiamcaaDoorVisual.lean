/- spec.Visual: the reference's order of a line, by the places as they stand. -/
import Derived.Test.YtkocpijloiamcaaDoorOrders
namespace Go.Proofs.YtkocpijloiamcaaDoor
open Go.RowKit

structure High (lv : Nat → Int) (k : Nat) (H : Int) : Prop where
  h0 : 0 ≤ H
  h1 : H ≤ 126
  hle : ∀ i, i < k → lv i ≤ H

theorem High.step {lv : Nat → Int} {k : Nat} {H : Int} (h : High lv k H) (h0 : 0 ≤ lv k) (hl : lv k ≤ 126) : High lv (k + 1) (max H (lv k)) :=
  ⟨by have := h.h0; omega, by have := h.h1; omega, fun i hi => by
    by_cases e : i = k
    · subst e; omega
    · have := h.hle i (by omega); omega⟩

end Go.Proofs.YtkocpijloiamcaaDoor
