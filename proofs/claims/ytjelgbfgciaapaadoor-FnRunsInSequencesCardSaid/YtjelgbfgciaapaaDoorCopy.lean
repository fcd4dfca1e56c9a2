/- impl.copyOf: a copy of a list. -/
import Derived.Test.YtjelgbfgciaapaaDoorRet
import Derived.Test.YtjelgbfgciaapaaDoorInfo
import Derived.Deep.LoopGhost
import Derived.Deep.QuietTactic
import Derived.BigQuiet
import Derived.Lib.Hide
namespace Go.Proofs.YtjelgbfgciaapaaDoor
open Go.RowKit

set_option maxHeartbeats 400000 in
/-- A copy of a list. -/
theorem copyOf_gr {ao : Option Addr} {b o n c : Nat} {x : Nat → Int} (w : World) (hn : n ≤ 4294967296) (hx : Sees w ao b o n c (fun i => .int .i64 (x i))) :
    Calls Tryd.prog 37 #[.slice ao n c] w (RetGr 3 w n (fun i => .int .i64 (x i))) := by
  go_enter Tryd.func37, Tryd.ntmps37
  have h1 := Gr.empty w w.heap.size 3 (fun _ => .int .i64 0) (Nat.le_refl _)
  have hx1 : Sees (w.alloc (.cells #[] 3)) ao b o n c (fun i => .int .i64 (x i)) := hx.since ((World.Since.refl _ _).alloc (Nat.le_refl _) _)
  have hs1 : w.Since w.heap.size (w.alloc (.cells #[] 3)) := (World.Since.refl _ _).alloc (Nat.le_refl _) _
  go_wp2_with (at_builtin; refine wpList_cat _ rfl _ _ 22 rfl w.heap.size 3 (.int .i64 0) 8 Tryd.underlying22 Tryd.infoInt rfl _ _ _ rfl h1 rfl hx1 (fun _ _ => rfl) (by omega) (by omega) (by simp) ?_)
  intro v' w1 hg hgr hat
  have hs : w.Since w.heap.size w1 := hs1.grown hgr (by simp) (by simp [Value.ownBlock])
  have hg' : Gr w1 w.heap.size 3 v' n (fun i => .int .i64 (x i)) := by
    first | exact hg | (rw [Nat.zero_add] at hg; exact hg.congr fun i _ => by simp)
  clear hg hgr hat h1 hx1 hs1
  go_wp2
  go_ret
  exact hg'.ret' hs

theorem copyOf_any {ao : Option Addr} {b o n c : Nat} {x : Nat → Int} (w : World) (hn : n ≤ 4294967296) (hx : Sees w ao b o n c (fun i => .int .i64 (x i))) :
    Calls Tryd.prog 37 #[.slice ao n c] w (RetSees w n (fun i => .int .i64 (x i))) := (copyOf_gr w hn hx).mono fun _ _ h => h.sees

end Go.Proofs.YtjelgbfgciaapaaDoor
