/- bidi.Embedding, impl.Embedding, over the parts of r5. -/
import Derived.Test.YtkocpijloiamcaaGreatDoorGE
import Derived.Test.YtkocpijloiamcaaGreatDoorGC
import Derived.Test.YtkocpijloiamcaaGreatDoorCase
namespace Go.Proofs.YtkocpijloiamcaaGreatDoor
open Go.RowKit
set_option linter.unusedVariables false

theorem sameB_of {n : Nat} {f g : Nat → Int} (h : ∀ i, i < n → f i = g i) : sameB n n f g = true := decide_eq_true ⟨rfl, h⟩
end Go.Proofs.YtkocpijloiamcaaGreatDoor
