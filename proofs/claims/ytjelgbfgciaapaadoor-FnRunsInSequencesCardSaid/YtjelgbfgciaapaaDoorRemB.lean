/- spec.IsRemoved, bidi.isRemovedByX9. -/
import Derived.Test.YtjelgbfgciaapaaDoorRet
import Derived.Test.YtjelgbfgciaapaaDoorInfo
import Derived.Test.YtjelgbfgciaapaaDoorCls
import Derived.Test.YtjelgbfgciaapaaDoorExp
import Derived.Lib.Hide
namespace Go.Proofs.YtjelgbfgciaapaaDoor
open Go.RowKit

theorem isRemoved_any (n : Int) (w : World) : Calls Tryd.prog 16 #[.int .i64 n] w fun e w' => e = .returned (.bool (remN n)) ∧ w = w' := by
  by_cases h0 : n = 14
  · subst h0
    go_enter Tryd.func16, Tryd.ntmps16
    go_wp2
    go_ret
    exact ⟨rfl, rfl⟩
  have b0 : (n == 14) = false := beq_eq_false_iff_ne.2 h0
  by_cases h1 : n = 15
  · subst h1
    go_enter Tryd.func16, Tryd.ntmps16
    go_wp2
    go_ret
    exact ⟨rfl, rfl⟩
  have b1 : (n == 15) = false := beq_eq_false_iff_ne.2 h1
  by_cases h2 : n = 16
  · subst h2
    go_enter Tryd.func16, Tryd.ntmps16
    go_wp2
    go_ret
    exact ⟨rfl, rfl⟩
  have b2 : (n == 16) = false := beq_eq_false_iff_ne.2 h2
  by_cases h3 : n = 17
  · subst h3
    go_enter Tryd.func16, Tryd.ntmps16
    go_wp2
    go_ret
    exact ⟨rfl, rfl⟩
  have b3 : (n == 17) = false := beq_eq_false_iff_ne.2 h3
  by_cases h4 : n = 18
  · subst h4
    go_enter Tryd.func16, Tryd.ntmps16
    go_wp2
    go_ret
    exact ⟨rfl, rfl⟩
  have b4 : (n == 18) = false := beq_eq_false_iff_ne.2 h4
  by_cases h5 : n = 11
  · subst h5
    go_enter Tryd.func16, Tryd.ntmps16
    go_wp2
    go_ret
    exact ⟨rfl, rfl⟩
  have b5 : (n == 11) = false := beq_eq_false_iff_ne.2 h5
  have HN := Lib.hid (show remN n = false by unfold remN; rw [decide_eq_false_iff_not]; omega)
  clear h0 h1 h2 h3 h4 h5
  go_enter Tryd.func16, Tryd.ntmps16
  go_wp2
  go_ret
  exact ⟨ret_bool HN.out.symm, rfl⟩

/-- Of a class's value. -/
def remC (c : Int) : Bool := decide (c = 16 ∨ c = 17 ∨ c = 18 ∨ c = 19 ∨ c = 20 ∨ c = 11)
theorem remC_cls {t : Int} (h : clsOk t) : remC (cls t) = remN t := by
  unfold clsOk at h
  have : cls t = if t ≤ 13 then t else t + 2 := by unfold cls; rw [if_neg (by omega)]
  rw [this]
  unfold remC remN
  rw [Bool.eq_iff_iff, decide_eq_true_eq, decide_eq_true_eq]
  split <;> omega

theorem isRemovedC_any (n : Int) (w : World) : Calls Tryd.prog 54 #[.int .u64 n] w fun e w' => e = .returned (.bool (remC n)) ∧ w = w' := by
  by_cases h0 : n = 18
  · subst h0
    go_enter Tryd.func54, Tryd.ntmps54
    go_wp2
    go_ret
    exact ⟨rfl, rfl⟩
  have b0 : (n == 18) = false := beq_eq_false_iff_ne.2 h0
  by_cases h1 : n = 19
  · subst h1
    go_enter Tryd.func54, Tryd.ntmps54
    go_wp2
    go_ret
    exact ⟨rfl, rfl⟩
  have b1 : (n == 19) = false := beq_eq_false_iff_ne.2 h1
  by_cases h2 : n = 16
  · subst h2
    go_enter Tryd.func54, Tryd.ntmps54
    go_wp2
    go_ret
    exact ⟨rfl, rfl⟩
  have b2 : (n == 16) = false := beq_eq_false_iff_ne.2 h2
  by_cases h3 : n = 17
  · subst h3
    go_enter Tryd.func54, Tryd.ntmps54
    go_wp2
    go_ret
    exact ⟨rfl, rfl⟩
  have b3 : (n == 17) = false := beq_eq_false_iff_ne.2 h3
  by_cases h4 : n = 20
  · subst h4
    go_enter Tryd.func54, Tryd.ntmps54
    go_wp2
    go_ret
    exact ⟨rfl, rfl⟩
  have b4 : (n == 20) = false := beq_eq_false_iff_ne.2 h4
  by_cases h5 : n = 11
  · subst h5
    go_enter Tryd.func54, Tryd.ntmps54
    go_wp2
    go_ret
    exact ⟨rfl, rfl⟩
  have b5 : (n == 11) = false := beq_eq_false_iff_ne.2 h5
  have HN := Lib.hid (show remC n = false by unfold remC; rw [decide_eq_false_iff_not]; omega)
  clear h0 h1 h2 h3 h4 h5
  go_enter Tryd.func54, Tryd.ntmps54
  go_wp2
  go_ret
  exact ⟨ret_bool HN.out.symm, rfl⟩

end Go.Proofs.YtjelgbfgciaapaaDoor
