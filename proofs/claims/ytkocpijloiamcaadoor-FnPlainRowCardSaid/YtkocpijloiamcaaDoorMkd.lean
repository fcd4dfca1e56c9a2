/- laws.marked: is a bracket a mark? -/
import Derived.Test.YtkocpijloiamcaaDoorGA
import Derived.Test.YtkocpijloiamcaaDoorGB
import Derived.Deep.LoopGhost
import Derived.Lib.Hide
namespace Go.Proofs.YtkocpijloiamcaaDoor
open Go.RowKit Go.Lib
set_option linter.unusedVariables false
set_option linter.unusedSimpArgs false

def markB (n : Nat) (z kd : Nat → Int) : Bool := decide (∃ i, i < n ∧ 0 < kd i ∧ z i = 12)

set_option maxHeartbeats 1000000 in
theorem marked_any {az ak : Option Addr} {bz oz cz bk' ok ck n : Nat} {z kd : Nat → Int} (w : World) (hn : n ≤ 8589934592) (hz : Sees w az bz oz n cz (fun i => .int .i64 (z i))) (hk : Sees w ak bk' ok n ck (fun i => .int .i64 (kd i))) :
    Calls Tryd.prog 33 #[.slice az n cz, .slice ak n ck] w fun e w' => e = .returned (.bool (markB n z kd)) ∧ w = w' := by
  go_enter Tryd.func33, Tryd.ntmps33
  go_wp2_with fail
  go_loopg [5, 6, 9] n (fun gg _ _ i wr => ∃ k : Nat, k ≤ n ∧ gg = n - k ∧ i = .int .i64 k ∧ wr = w ∧ Hid (∀ j, j < k → ¬ (0 < kd j ∧ z j = 12)))
  case atStart => exact ⟨0, Nat.zero_le _, rfl, rfl, rfl, fun j hj => absurd hj (Nat.not_lt_zero _)⟩
  case round =>
    obtain ⟨k, hk', rfl, rfl, rfl, HA⟩ := hrel
    by_cases hkn : k < n
    · have hkz : (k : Int) < (n : Int) := by omega
      obtain ⟨rfl, x1⟩ := hz.get hkn
      obtain ⟨rfl, x2⟩ := hk.get hkn
      have HY := hid (show 0 < kd k ∧ z k = 12 → true = markB n z kd from fun h => (decide_eq_true ⟨k, hkn, h⟩).symm)
      have HNN := hid (show ¬ (0 < kd k ∧ z k = 12) → ∀ j, j < k + 1 → ¬ (0 < kd j ∧ z j = 12) from fun h j hj => by
        by_cases e : j = k
        · subst e; exact h
        · exact HA.out j (by omega))
      obtain ⟨K, hK⟩ : ∃ K, K = kd k := ⟨_, rfl⟩
      obtain ⟨Z, hZ⟩ : ∃ Z, Z = z k := ⟨_, rfl⟩
      rw [← hK] at x2 HY HNN
      rw [← hZ] at x1 HY HNN
      clear hK hZ
      by_cases q1 : 0 < K
      · by_cases q2 : Z = 12
        · have HF := hid (HY.out ⟨q1, q2⟩)
          subst q2
          go_wp2_with fail
          go_ret
          exact ⟨ret_bool HF.out, rfl⟩
        · have HF := hid (HNN.out (fun h => q2 h.2))
          have q2b : (Z == 12) = false := beq_eq_false_iff_ne.2 q2
          go_wp2_with fail
          go_roundg (n - (k + 1))
          case rel => exact ⟨k + 1, by omega, rfl, by go_num, rfl, HF.out⟩
          case measure => omega
      · have HF := hid (HNN.out (fun h => q1 h.1))
        go_wp2_with fail
        go_roundg (n - (k + 1))
        case rel => exact ⟨k + 1, by omega, rfl, by go_num, rfl, HF.out⟩
        case measure => omega
    · obtain rfl : k = n := by omega
      have HF := hid (show false = markB k z kd from (decide_eq_false (fun ⟨i, h1, h2⟩ => HA.out i h1 h2)).symm)
      go_wp2_with fail
      go_ret
      exact ⟨ret_bool HF.out, rfl⟩
end Go.Proofs.YtkocpijloiamcaaDoor
