/- spec.AreClasses. -/
import Derived.Test.YtmaieenphcnefaaDoorRet
import Derived.Test.YtmaieenphcnefaaDoorInfo
import Derived.Deep.LoopGhost
import Derived.Lib.Hide
namespace Go.Proofs.YtmaieenphcnefaaDoor
open Go.RowKit

def clsB (n : Nat) (x : Nat → Int) : Bool := decide (∀ i, i < n → 0 ≤ x i ∧ x i < 23)

set_option maxHeartbeats 400000 in
theorem areClasses_any {ao : Option Addr} {b o n c : Nat} {x : Nat → Int} (w : World) (hn : n ≤ 17179869184) (hx : Sees w ao b o n c (fun i => .int .i64 (x i))) :
    Calls Tryd.prog 8 #[.slice ao n c] w fun e w' => e = .returned (.bool (clsB n x)) ∧ w = w' := by
  go_enter Tryd.func8, Tryd.ntmps8
  go_wp2
  go_loop [7] (fun i => ∃ k : Nat, k ≤ n ∧ i = .int .i64 k ∧ Hid (∀ j, j < k → 0 ≤ x j ∧ x j < 23)) (fun i => n - (intOf i).toNat)
  case atStart => exact ⟨0, by omega, rfl, fun j hj => absurd hj (Nat.not_lt_zero _)⟩
  case round =>
    obtain ⟨k, hk, rfl, HA⟩ := hrel
    by_cases hlt : k < n
    · obtain ⟨rfl, hc⟩ := hx.get hlt
      have hlz : (k : Int) < (n : Int) := by omega
      have hno : (0 ≤ x k ∧ x k < 23 → False) → (false = clsB n x) := fun h => by
        unfold clsB; symm; rw [decide_eq_false_iff_not]; exact fun h2 => h (h2 k hlt)
      have HNO := Lib.hid hno
      clear hno
      by_cases h1 : x k < 0
      · go_wp2
        go_ret
        exact ⟨ret_bool (HNO.out (by omega)), rfl⟩
      · by_cases h2 : 23 ≤ x k
        · go_wp2
          go_ret
          exact ⟨ret_bool (HNO.out (by omega)), rfl⟩
        · go_wp2
          go_round
          case rel => exact ⟨k + 1, by omega, by go_num, fun j hj => by rcases Nat.lt_succ_iff_lt_or_eq.1 hj with h | h; exact HA.out j h; subst h; exact ⟨by omega, by omega⟩⟩
          case measure => simp [intOf]; omega
    · obtain rfl : k = n := by omega
      go_wp2
      go_ret
      exact ⟨ret_bool (by unfold clsB; symm; rw [decide_eq_true_eq]; exact HA.out), rfl⟩

end Go.Proofs.YtmaieenphcnefaaDoor
