/- bidi.setLevels. -/
import Derived.Test.YtjelgbfgciaapaaDoorRet
import Derived.Test.YtjelgbfgciaapaaDoorInfo
import Derived.Deep.LoopGhost
import Derived.Lib.Hide
namespace Go.Proofs.YtjelgbfgciaapaaDoor
open Go.RowKit

set_option maxHeartbeats 400000 in
theorem setLevels_any {r n : Nat} {f : Nat → Value} {v : Int} (w : World) (hn : n ≤ 4294967296) (hr : w.rowIs r 76 n f) :
    Calls Tryd.prog 52 #[.slice (some ⟨r, 0, none⟩) n n, .int .i8 v] w fun e w' => e = .returned (.tuple #[]) ∧ w'.rowIs r 76 n (fun _ => .int .i8 v) ∧ Kp (fun k => k = r) w w' := by
  go_enter Tryd.func52, Tryd.ntmps52
  go_wp2
  go_loopg [4, 7] n (fun g _ i wr => ∃ k : Nat, k ≤ n ∧ g = n - k ∧ i = .int .i64 k ∧ wr.rowIs r 76 n (fun j => if j < k then .int .i8 v else f j) ∧ Kp (fun k => k = r) w wr)
  case atStart => exact ⟨0, by omega, rfl, rfl, hr.congr (fun j _ => by simp), Kp.refl _ _⟩
  case round =>
    clear hr
    obtain ⟨k, hk, rfl, rfl, hr, hs⟩ := hrel
    by_cases hkn : k < n
    · have hkz : (k : Int) < (n : Int) := by omega
      have g1 := hr.cell hkn
      rw [if_neg (by omega)] at g1
      have g2 := hr.frozen k
      have R := (hr.set k (.int .i8 v)).congr (g := fun j => if j < k + 1 then .int .i8 v else f j) (fun j _ => by
        by_cases e : j = k
        · subst e; rw [if_pos rfl, if_pos (by omega)]
        · rw [if_neg e]
          by_cases h : j < k
          · rw [if_pos h, if_pos (by omega)]
          · rw [if_neg h, if_neg (by omega)])
      have S := hs.setCell (a := ⟨r, k, none⟩) (.inl rfl) (.int .i8 v)
      clear hr hs
      go_wp2
      go_roundg (n - (k + 1))
      case rel => exact ⟨k + 1, by omega, rfl, by go_num, R, S⟩
      case measure => omega
    · obtain rfl : k = n := by omega
      go_wp2
      go_end0
      exact ⟨rfl, hr.congr (fun j hj => by rw [if_pos hj]), hs⟩

end Go.Proofs.YtjelgbfgciaapaaDoor
