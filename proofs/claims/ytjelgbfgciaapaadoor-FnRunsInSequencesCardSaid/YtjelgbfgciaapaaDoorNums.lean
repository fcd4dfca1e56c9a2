/- bidi.numbers, impl.largeOf. -/
import Derived.Test.YtjelgbfgciaapaaDoorRet
import Derived.Test.YtjelgbfgciaapaaDoorInfo
import Derived.Deep.LoopGhost
import Derived.Lib.Hide
namespace Go.Proofs.YtjelgbfgciaapaaDoor
open Go.RowKit

set_option maxHeartbeats 400000 in
/-- Levels as int8. -/
theorem numbers_any {ao : Option Addr} {b o n cc : Nat} {x : Nat → Int} (w : World) (hn : n ≤ 4294967296) (hx : Sees w ao b o n cc (fun i => .int .i8 (x i))) :
    Calls Tryd.prog 45 #[.slice ao n cc] w (RetSees w n (fun i => .int .i8 (x i))) := by
  have hmk := run_make_row' (P := Tryd.prog) 54 58 (.int .i8 0) 1 Tryd.underlying54 Tryd.infoInt8 rfl .i64 .i64 n (by omega) (by omega)
  go_enter Tryd.func45, Tryd.ntmps45
  go_wp2
  clear hmk
  go_loopg [4, 5, 11] n (fun g _ _ i wr => ∃ k : Nat, k ≤ n ∧ g = n - k ∧ i = .int .i64 k ∧ wr.rowIs w.heap.size 58 n (fun j => .int .i8 (if j < k then x j else 0)) ∧ w.Since w.heap.size wr)
  case atStart => exact ⟨0, by omega, rfl, rfl, (World.rowIs_made w _ n 58).congr (fun j _ => by simp), (World.Since.refl _ _).alloc (Nat.le_refl _) _⟩
  case round =>
    obtain ⟨k, hk, rfl, rfl, hr, hs⟩ := hrel
    by_cases hkn : k < n
    · have hkz : (k : Int) < (n : Int) := by omega
      obtain ⟨rfl, hc0⟩ := hx.get hkn
      have hc : wr.cell? ⟨b, o + k, none⟩ = some (.int .i8 (x k)) := by rw [hs.cell (World.block_lt_of_cell? _ _ hc0)]; exact hc0
      have g1 := hr.cell hkn
      have g2 := hr.frozen k
      have R := (hr.set k (.int .i8 (x k))).congr (g := fun j => .int .i8 (if j < k + 1 then x j else 0)) (fun j _ => by
        by_cases e : j = k
        · subst e; rw [if_pos rfl, if_pos (by omega)]
        · rw [if_neg e]
          by_cases h : j < k
          · rw [if_pos h, if_pos (by omega)]
          · rw [if_neg h, if_neg (by omega)])
      have S := hs.setCell (a := ⟨w.heap.size, k, none⟩) (Nat.le_refl _) (.int .i8 (x k))
      clear hr hs hc0
      go_wp2
      go_roundg (n - (k + 1))
      case rel => exact ⟨k + 1, by omega, rfl, by go_num, R, S⟩
      case measure => omega
    · obtain rfl : k = n := by omega
      go_wp2
      go_ret
      exact ⟨_, _, _, _, rfl, (Sees.ofRow hr).congr (fun j hj => by rw [if_pos hj]), Nat.le_refl _, hs⟩

set_option maxHeartbeats 400000 in
/-- int8 as int. -/
theorem largeOf_any {ao : Option Addr} {b o n c : Nat} {x : Nat → Int} (w : World) (hn : n ≤ 4294967296) (hx : Sees w ao b o n c (fun i => .int .i8 (x i))) (hr : ∀ i, i < n → -128 ≤ x i ∧ x i ≤ 127) :
    Calls Tryd.prog 35 #[.slice ao n c] w (RetSees w n (fun i => .int .i64 (x i))) := by
  have HR := Lib.hid hr
  clear hr
  go_enter Tryd.func35, Tryd.ntmps35
  go_wp2_with (at_make; refine wpList_make0 _ rfl _ _ 22 rfl w.heap.size 3 (.int .i64 0) 8 Tryd.underlying22 Tryd.infoInt (fun i => .int .i64 (x i)) n rfl rfl (by omega) hn (Nat.le_refl _) ?_)
  intro w1 hg1 hgr1
  have hs1 : w.Since w.heap.size w1 := (World.Since.refl _ _).grown hgr1 (Nat.le_refl _) (by simp)
  clear hgr1
  go_wp2
  go_loopg [3, 5, 11] n (fun g v _ i wr => ∃ k : Nat, k ≤ n ∧ g = n - k ∧ i = .int .i64 k ∧ Gr wr w.heap.size 3 v k (fun i => .int .i64 (x i)) ∧ w.Since w.heap.size wr)
  case atStart => exact ⟨0, by omega, rfl, rfl, hg1, hs1⟩
  case round =>
    obtain ⟨k, hk, rfl, rfl, hg, hs⟩ := hrel
    clear hg1 hs1
    by_cases hlt : k < n
    · obtain ⟨rfl, hc⟩ := hx.get hlt
      have hc' : wr.cell? ⟨b, o + k, none⟩ = some (.int .i8 (x k)) := by rw [hs.cell (World.block_lt_of_cell? _ _ hc)]; exact hc
      have hsz : w.heap.size ≤ wr.heap.size := hs.size
      obtain ⟨r0, r1⟩ := HR.out k hlt
      clear hc
      go_wp2_with (at_builtin; go_must (refine wpList_push wr rfl _ _ 22 rfl w.heap.size 3 (.int .i64 0) 8 Tryd.underlying22 Tryd.infoInt rfl _ _ _ _ (by rfl) hg (by rfl) rfl (by omega) (by omega) hsz ?_))
      intro v' w2 hg2 hgr2 hat
      have hs2 : w.Since w.heap.size w2 := (hs.alloc hsz _).grown hgr2 (by simp; omega) (fun k hk => (hg.ge k hk).1)
      have hg3 := hg2.congr (g := fun i => .int .i64 (x i)) (fun i _ => by split <;> simp_all)
      clear hg hs hc' hg2 hgr2 hat hx
      go_wp2
      go_roundg (n - (k + 1))
      case rel => exact ⟨k + 1, by omega, rfl, by go_num, hg3, hs2⟩
      case measure => omega
    · obtain rfl : k = n := by omega
      go_wp2
      go_ret
      exact hg.ret hs (Nat.le_refl _)

set_option maxHeartbeats 400000 in
/-- Whatever the levels are. -/
theorem largeOfW_any {ao : Option Addr} {b o n c : Nat} {x : Nat → Int} (w : World) (hn : n ≤ 4294967296) (hx : Sees w ao b o n c (fun i => .int .i8 (x i))) :
    Calls Tryd.prog 35 #[.slice ao n c] w (RetSees w n (fun i => .int .i64 (wrap64 (x i)))) := by
  go_enter Tryd.func35, Tryd.ntmps35
  go_wp2_with (at_make; refine wpList_make0 _ rfl _ _ 22 rfl w.heap.size 3 (.int .i64 0) 8 Tryd.underlying22 Tryd.infoInt (fun i => .int .i64 (wrap64 (x i))) n rfl rfl (by omega) hn (Nat.le_refl _) ?_)
  intro w1 hg1 hgr1
  have hs1 : w.Since w.heap.size w1 := (World.Since.refl _ _).grown hgr1 (Nat.le_refl _) (by simp)
  clear hgr1
  go_wp2
  go_loopg [3, 5, 11] n (fun g v _ i wr => ∃ k : Nat, k ≤ n ∧ g = n - k ∧ i = .int .i64 k ∧ Gr wr w.heap.size 3 v k (fun i => .int .i64 (wrap64 (x i))) ∧ w.Since w.heap.size wr)
  case atStart => exact ⟨0, by omega, rfl, rfl, hg1, hs1⟩
  case round =>
    obtain ⟨k, hk, rfl, rfl, hg, hs⟩ := hrel
    clear hg1 hs1
    by_cases hlt : k < n
    · obtain ⟨rfl, hc⟩ := hx.get hlt
      have hc' : wr.cell? ⟨b, o + k, none⟩ = some (.int .i8 (x k)) := by rw [hs.cell (World.block_lt_of_cell? _ _ hc)]; exact hc
      have hsz : w.heap.size ≤ wr.heap.size := hs.size
      clear hc
      go_wp2_with (at_builtin; go_must (refine wpList_push wr rfl _ _ 22 rfl w.heap.size 3 (.int .i64 0) 8 Tryd.underlying22 Tryd.infoInt rfl _ _ _ _ (by rfl) hg (by rfl) rfl (by omega) (by omega) hsz ?_))
      intro v' w2 hg2 hgr2 hat
      have hs2 : w.Since w.heap.size w2 := (hs.alloc hsz _).grown hgr2 (by simp; omega) (fun k hk => (hg.ge k hk).1)
      have hg3 := hg2.congr (g := fun i => .int .i64 (wrap64 (x i))) (fun i _ => by
        by_cases e : i = k
        · rw [if_pos e, e]
        · rw [if_neg e])
      clear hg hs hc' hg2 hgr2 hat hx
      go_wp2
      go_roundg (n - (k + 1))
      case rel => exact ⟨k + 1, by omega, rfl, by go_num, hg3, hs2⟩
      case measure => omega
    · obtain rfl : k = n := by omega
      go_wp2
      go_ret
      exact hg.ret hs (Nat.le_refl _)


end Go.Proofs.YtjelgbfgciaapaaDoor
