/- Small laws for the statements on bracket pairs. -/
import Derived.Test.YtmaieenphcnefaaDoorSpQ
import Derived.Test.YtmaieenphcnefaaDoorPrI
import Derived.Test.YtmaieenphcnefaaDoorAreC
namespace Go.Proofs.YtmaieenphcnefaaDoor
set_option linter.unusedVariables false
set_option linter.unusedSimpArgs false
open Go.RowKit

theorem brOk_kd {k v : Int} (h : brOk k v) : k = 0 ∨ k = 1 ∨ k = 2 := by unfold brOk at h; omega
theorem brOk_vl {k v : Int} (h : brOk k v) : 0 ≤ v ∧ v ≤ 1114111 := by
  obtain ⟨h1, h2, h3, h4⟩ := h
  by_cases e : k = 0
  · have := h3 e; omega
  · have := h4 (by omega); omega
theorem brOk_vk {k v : Int} (h : brOk k v) : v ≤ 1114111 ∧ (k ≠ 0 → 1 ≤ v) := by
  obtain ⟨h1, h2, h3, h4⟩ := h
  refine ⟨?_, fun e => (h4 (by omega)).1⟩
  by_cases e : k = 0
  · have := h3 e; omega
  · have := h4 (by omega); omega

theorem cls_ten {n : Int} (h : 0 ≤ n ∧ n < 23) : decide (cls n = 10) = decide (n = 10) := by
  obtain ⟨k, rfl⟩ := Int.eq_ofNat_of_zero_le h.1
  have hk : k < 23 := by omega
  have : ∀ j : Fin 23, decide (cls (j.val : Int) = 10) = decide ((j.val : Int) = 10) := by decide
  exact this ⟨k, hk⟩
end Go.Proofs.YtmaieenphcnefaaDoor
