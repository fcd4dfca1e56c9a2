/- spec.Same: whether two lists have the same numbers. -/
import Derived.Test.YtmaieenphcnefaaDoorRet
import Derived.Test.YtmaieenphcnefaaDoorInfo
import Derived.Deep.LoopGhost
import Derived.Deep.QuietTactic
import Derived.BigQuiet
import Derived.Lib.Hide
namespace Go.Proofs.YtmaieenphcnefaaDoor
open Go.RowKit

def sameB (n m : Nat) (x y : Nat → Int) : Bool := decide (n = m ∧ ∀ i, i < n → x i = y i)

set_option maxHeartbeats 400000 in
theorem same_any {ao : Option Addr} {b o n c : Nat} {x : Nat → Int} {ao' : Option Addr} {b' o' n' c' : Nat} {y : Nat → Int} (w : World) (hn : n ≤ 17179869184) (hn' : n' ≤ 17179869184)
    (hx : Sees w ao b o n c (fun i => .int .i64 (x i))) (hy : Sees w ao' b' o' n' c' (fun i => .int .i64 (y i))) :
    Calls Tryd.prog 21 #[.slice ao n c, .slice ao' n' c'] w fun e w' => e = .returned (.bool (sameB n n' x y)) ∧ w.Since w.heap.size w' := by
  by_cases hne : n = n'
  · subst hne
    go_enter Tryd.func21, Tryd.ntmps21
    go_wp2
    go_loopg [5, 13] n (fun g _ i wr => ∃ k : Nat, k ≤ n ∧ g = n - k ∧ i = .int .i64 k ∧ (∀ j, j < k → x j = y j) ∧ w.Since w.heap.size wr)
    case atStart => exact ⟨0, by omega, rfl, rfl, fun j hj => absurd hj (Nat.not_lt_zero _), World.Since.refl _ _⟩
    case round =>
      obtain ⟨k, hk, rfl, rfl, hall, hs⟩ := hrel
      have HA := Lib.hid hall
      clear hall
      by_cases hlt : k < n
      · obtain ⟨rfl, hc⟩ := hx.get hlt
        obtain ⟨rfl, hd⟩ := hy.get hlt
        have hc' : wr.cell? ⟨b, o + k, none⟩ = some (.int .i64 (x k)) := by rw [hs.cell (World.block_lt_of_cell? _ _ hc)]; exact hc
        have hd' : wr.cell? ⟨b', o' + k, none⟩ = some (.int .i64 (y k)) := by rw [hs.cell (World.block_lt_of_cell? _ _ hd)]; exact hd
        have hlz : (k : Int) < (n : Int) := by omega
        clear hc hd
        by_cases hxy : x k = y k
        · have hb1 : (x k != y k) = false := by simp [hxy]
          have HX := Lib.hid hxy
          clear hxy
          go_wp2
          go_quiet (fail)
          go_wp2
          go_roundg (n - (k + 1))
          case rel => exact ⟨k + 1, by omega, rfl, by go_num, fun j hj => by rcases Nat.lt_succ_iff_lt_or_eq.1 hj with h | h; exact HA.out j h; subst h; exact HX.out, since_drewN hs _⟩
          case measure => omega
        · have hb1 : (x k != y k) = true := by simp [hxy]
          go_wp2
          go_quiet (fail)
          go_wp2
          go_ret
          exact ⟨ret_bool (by unfold sameB; symm; rw [decide_eq_false_iff_not]; exact fun h => hxy (h.2 k hlt)), since_drewN hs _⟩
      · obtain rfl : k = n := by omega
        go_wp2
        go_ret
        exact ⟨ret_bool (by unfold sameB; symm; rw [decide_eq_true_eq]; exact ⟨rfl, HA.out⟩), hs⟩
  · have hb0 : ((n : Int) != (n' : Int)) = true := by simp; omega
    go_enter Tryd.func21, Tryd.ntmps21
    go_wp2
    go_ret
    exact ⟨ret_bool (by unfold sameB; symm; rw [decide_eq_false_iff_not]; exact fun h => hne h.1), World.Since.refl _ _⟩

end Go.Proofs.YtmaieenphcnefaaDoor
