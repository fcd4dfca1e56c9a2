/- impl.smallOf: numbers as int8. -/
import Derived.Test.YtkocpijloiamcaaGreatDoorGA
import Derived.Deep.LoopGhost
import Derived.Deep.QuietTactic
import Derived.BigQuiet
import Derived.Lib.Hide
namespace Go.Proofs.YtkocpijloiamcaaGreatDoor
open Go.RowKit

set_option maxHeartbeats 400000 in
/-- The numbers as int8. -/
theorem smallOf_any {ao : Option Addr} {b o n c : Nat} {x : Nat → Int} (w : World) (hn : n ≤ 4294967296) (hx : Sees w ao b o n c (fun i => .int .i64 (x i))) :
    Calls Tryz.prog 25 #[.slice ao n c] w (RetSees w n (fun i => .int .i8 (IntKind.i8.wrap (x i)))) := by
  go_enter Tryz.func25, Tryz.ntmps25
  go_wp2_with (at_make; refine wpList_make0 _ rfl _ _ 38 rfl w.heap.size 49 (.int .i8 0) 1 Tryz.underlying38 Tryz.infoInt8 (fun i => .int .i8 (IntKind.i8.wrap (x i))) n rfl rfl (by omega) (by omega) (Nat.le_refl _) ?_)
  intro w1 hg1 hgr1
  have hs1 : w.Since w.heap.size w1 := (World.Since.refl _ _).grown hgr1 (Nat.le_refl _) (by simp)
  clear hgr1
  go_wp2
  go_loopg [3, 5, 11] n (fun g v _ i wr => ∃ k : Nat, k ≤ n ∧ g = n - k ∧ i = .int .i64 k ∧ Gr wr w.heap.size 49 v k (fun i => .int .i8 (IntKind.i8.wrap (x i))) ∧ w.Since w.heap.size wr)
  case atStart => exact ⟨0, by omega, rfl, rfl, hg1, hs1⟩
  case round =>
    obtain ⟨k, hk, rfl, rfl, hg, hs⟩ := hrel
    clear hg1 hs1
    by_cases hlt : k < n
    · obtain ⟨rfl, hc⟩ := hx.get hlt
      have hc' : wr.cell? ⟨b, o + k, none⟩ = some (.int .i64 (x k)) := by rw [hs.cell (World.block_lt_of_cell? _ _ hc)]; exact hc
      have hsz : w.heap.size ≤ wr.heap.size := hs.size
      clear hc
      go_wp2_with (at_builtin; go_must (refine wpList_push wr rfl _ _ 38 rfl w.heap.size 49 (.int .i8 0) 1 Tryz.underlying38 Tryz.infoInt8 rfl _ _ _ _ (by rfl) hg (by rfl) rfl (by omega) (by omega) hsz ?_))
      intro v' w2 hg2 hgr2 hat
      have hs2 : w.Since w.heap.size w2 := (hs.alloc hsz _).grown hgr2 (by simp; omega) (fun k hk => (hg.ge k hk).1)
      have hg3 := hg2.congr (g := fun i => .int .i8 (IntKind.i8.wrap (x i))) (fun i _ => by split <;> simp_all)
      clear hg hs hc' hg2 hgr2 hat hx
      go_wp2
      go_roundg (n - (k + 1))
      case rel => exact ⟨k + 1, by omega, rfl, by go_num, hg3, hs2⟩
      case measure => omega
    · obtain rfl : k = n := by omega
      go_wp2
      go_ret
      exact hg.ret hs (Nat.le_refl _)

end Go.Proofs.YtkocpijloiamcaaGreatDoor
