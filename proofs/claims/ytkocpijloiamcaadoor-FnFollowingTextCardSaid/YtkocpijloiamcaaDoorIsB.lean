/- spec.IsBase. -/
import Derived.Test.YtkocpijloiamcaaDoorGA
namespace Go.Proofs.YtkocpijloiamcaaDoor
open Lib
set_option linter.unusedVariables false

def baseQ (n : Int) : Bool := (n == 0 || n == 1)
theorem baseQ_iff {n : Int} : baseQ n = true ↔ n = 0 ∨ n = 1 := by unfold baseQ; simp
theorem isBase_q (n : Int) (w : World) : Calls Tryd.prog 10 #[.int .i64 n] w fun e w' => e = .returned (.bool (baseQ n)) ∧ w = w' := by
  by_cases h0 : n = 0
  · subst h0
    go_enter Tryd.func10, Tryd.ntmps10
    go_wp2
    go_ret
    exact ⟨rfl, rfl⟩
  · by_cases h1 : n = 1
    · subst h1
      go_enter Tryd.func10, Tryd.ntmps10
      go_wp2
      go_ret
      exact ⟨rfl, rfl⟩
    · go_enter Tryd.func10, Tryd.ntmps10
      go_wp2
      go_ret
      exact ⟨rfl, rfl⟩

end Go.Proofs.YtkocpijloiamcaaDoor
