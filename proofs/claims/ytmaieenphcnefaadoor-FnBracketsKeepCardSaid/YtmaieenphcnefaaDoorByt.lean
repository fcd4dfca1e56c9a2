/- impl.bytesOf, impl.runesOf, bidi.brackets: kinds and values of brackets. -/
import Derived.Test.YtmaieenphcnefaaDoorRet
import Derived.Test.YtmaieenphcnefaaDoorInfo
import Derived.Deep.LoopGhost
import Derived.Deep.QuietTactic
import Derived.BigQuiet
import Derived.Lib.Hide
namespace Go.Proofs.YtmaieenphcnefaaDoor
set_option linter.unusedVariables false
set_option linter.unusedSimpArgs false
open Go.RowKit

set_option maxHeartbeats 400000 in
/-- The numbers as bytes. -/
theorem bytesOf_any {ao : Option Addr} {b o n c : Nat} {x : Nat → Int} (w : World) (hn : n ≤ 4294967296) (hx : Sees w ao b o n c (fun i => .int .i64 (x i))) :
    Calls Tryd.prog 25 #[.slice ao n c] w (RetSees w n (fun i => .int .u8 (IntKind.u8.wrap (x i)))) := by
  go_enter Tryd.func25, Tryd.ntmps25
  go_wp2_with (at_make; refine wpList_make0 _ rfl _ _ 43 rfl w.heap.size 5 (.int .u8 0) 1 Tryd.underlying43 Tryd.infoByte (fun i => .int .u8 (IntKind.u8.wrap (x i))) n rfl rfl (by omega) hn (Nat.le_refl _) ?_)
  intro w1 hg1 hgr1
  have hs1 : w.Since w.heap.size w1 := (World.Since.refl _ _).grown hgr1 (Nat.le_refl _) (by simp)
  clear hgr1
  go_wp2
  go_loopg [3, 5, 11] n (fun g v _ i wr => ∃ k : Nat, k ≤ n ∧ g = n - k ∧ i = .int .i64 k ∧ Gr wr w.heap.size 5 v k (fun i => .int .u8 (IntKind.u8.wrap (x i))) ∧ w.Since w.heap.size wr)
  case atStart => exact ⟨0, by omega, rfl, rfl, hg1, hs1⟩
  case round =>
    obtain ⟨k, hk, rfl, rfl, hg, hs⟩ := hrel
    clear hg1 hs1
    by_cases hlt : k < n
    · obtain ⟨rfl, hc⟩ := hx.get hlt
      have hc' : wr.cell? ⟨b, o + k, none⟩ = some (.int .i64 (x k)) := by rw [hs.cell (World.block_lt_of_cell? _ _ hc)]; exact hc
      have hsz : w.heap.size ≤ wr.heap.size := hs.size
      clear hc
      go_wp2_with (at_builtin; go_must (refine wpList_push wr rfl _ _ 43 rfl w.heap.size 5 (.int .u8 0) 1 Tryd.underlying43 Tryd.infoByte rfl _ _ _ _ (by rfl) hg (by rfl) rfl (by omega) (by omega) hsz ?_))
      intro v' w2 hg2 hgr2 hat
      have hs2 : w.Since w.heap.size w2 := (hs.alloc hsz _).grown hgr2 (by simp; omega) (fun k hk => (hg.ge k hk).1)
      have hg3 := hg2.congr (g := fun i => .int .u8 (IntKind.u8.wrap (x i))) (fun i _ => by split <;> simp_all <;> first | rfl | (simp [IntKind.wrap, IntKind.bits, IntKind.signed]; done) | (unfold wrap32; simp [IntKind.wrap, IntKind.bits, IntKind.signed]; split <;> omega))
      clear hg hs hc' hg2 hgr2 hat hx
      go_wp2
      go_roundg (n - (k + 1))
      case rel => exact ⟨k + 1, by omega, rfl, by go_num, hg3, hs2⟩
      case measure => omega
    · obtain rfl : k = n := by omega
      go_wp2
      go_ret
      exact hg.ret hs (Nat.le_refl _)

set_option maxHeartbeats 400000 in
/-- The numbers as int32. -/
theorem runesOf_any {ao : Option Addr} {b o n c : Nat} {x : Nat → Int} (w : World) (hn : n ≤ 4294967296) (hx : Sees w ao b o n c (fun i => .int .i64 (x i))) :
    Calls Tryd.prog 26 #[.slice ao n c] w (RetSees w n (fun i => .int .i32 (IntKind.i32.wrap (x i)))) := by
  go_enter Tryd.func26, Tryd.ntmps26
  go_wp2_with (at_make; refine wpList_make0 _ rfl _ _ 45 rfl w.heap.size 21 (.int .i32 0) 4 Tryd.underlying45 Tryd.infoRune (fun i => .int .i32 (IntKind.i32.wrap (x i))) n rfl rfl (by omega) hn (Nat.le_refl _) ?_)
  intro w1 hg1 hgr1
  have hs1 : w.Since w.heap.size w1 := (World.Since.refl _ _).grown hgr1 (Nat.le_refl _) (by simp)
  clear hgr1
  go_wp2
  go_loopg [3, 5, 11] n (fun g v _ i wr => ∃ k : Nat, k ≤ n ∧ g = n - k ∧ i = .int .i64 k ∧ Gr wr w.heap.size 21 v k (fun i => .int .i32 (IntKind.i32.wrap (x i))) ∧ w.Since w.heap.size wr)
  case atStart => exact ⟨0, by omega, rfl, rfl, hg1, hs1⟩
  case round =>
    obtain ⟨k, hk, rfl, rfl, hg, hs⟩ := hrel
    clear hg1 hs1
    by_cases hlt : k < n
    · obtain ⟨rfl, hc⟩ := hx.get hlt
      have hc' : wr.cell? ⟨b, o + k, none⟩ = some (.int .i64 (x k)) := by rw [hs.cell (World.block_lt_of_cell? _ _ hc)]; exact hc
      have hsz : w.heap.size ≤ wr.heap.size := hs.size
      clear hc
      go_wp2_with (at_builtin; go_must (refine wpList_push wr rfl _ _ 45 rfl w.heap.size 21 (.int .i32 0) 4 Tryd.underlying45 Tryd.infoRune rfl _ _ _ _ (by rfl) hg (by rfl) rfl (by omega) (by omega) hsz ?_))
      intro v' w2 hg2 hgr2 hat
      have hs2 : w.Since w.heap.size w2 := (hs.alloc hsz _).grown hgr2 (by simp; omega) (fun k hk => (hg.ge k hk).1)
      have hg3 := hg2.congr (g := fun i => .int .i32 (IntKind.i32.wrap (x i))) (fun i _ => by split <;> simp_all <;> first | rfl | (simp [IntKind.wrap, IntKind.bits, IntKind.signed]; done) | (unfold wrap32; simp [IntKind.wrap, IntKind.bits, IntKind.signed]; split <;> omega))
      clear hg hs hc' hg2 hgr2 hat hx
      go_wp2
      go_roundg (n - (k + 1))
      case rel => exact ⟨k + 1, by omega, rfl, by go_num, hg3, hs2⟩
      case measure => omega
    · obtain rfl : k = n := by omega
      go_wp2
      go_ret
      exact hg.ret hs (Nat.le_refl _)


set_option maxHeartbeats 1000000 in
/-- 'brackets': a copy of the kinds. -/
theorem brackets_any {ao : Option Addr} {b o n c : Nat} {x : Nat → Int} (w : World) (hn : n ≤ 4294967296) (hx : Sees w ao b o n c (fun i => .int .u8 (x i))) :
    Calls Tryd.prog 38 #[.slice ao n c] w fun e w' => e = .returned (.slice (some ⟨w.heap.size, 0, none⟩) n n) ∧ w'.rowIs w.heap.size 88 n (fun i => .int .u8 (x i)) ∧ w.Since w.heap.size w' := by
  have hmk := run_make_row' (P := Tryd.prog) 66 88 (.int .u8 0) 1 Tryd.underlying66 Tryd.infoBrk rfl .i64 .i64 n (by omega) (by omega)
  go_enter Tryd.func38, Tryd.ntmps38
  go_wp2
  clear hmk
  go_loopg [4, 5, 11] n (fun g _ _ i wr => ∃ k : Nat, k ≤ n ∧ g = n - k ∧ i = .int .i64 k ∧ wr.rowIs w.heap.size 88 n (fun j => .int .u8 (if j < k then x j else 0)) ∧ w.Since w.heap.size wr)
  case atStart => exact ⟨0, by omega, rfl, rfl, (World.rowIs_made w _ n 88).congr (fun j _ => by simp), (World.Since.refl _ _).alloc (Nat.le_refl _) _⟩
  case round =>
    obtain ⟨k, hk, rfl, rfl, hr, hs⟩ := hrel
    by_cases hkn : k < n
    · have hkz : (k : Int) < (n : Int) := by omega
      obtain ⟨rfl, hc⟩ := hx.get hkn
      have hc' : wr.cell? ⟨b, o + k, none⟩ = some (.int .u8 (x k)) := by rw [hs.cell (World.block_lt_of_cell? _ _ hc)]; exact hc
      have g1 := hr.cell hkn
      have g2 := hr.frozen k
      have R := (hr.set k (.int .u8 (x k))).congr (g := fun j => .int .u8 (if j < k + 1 then x j else 0)) (fun j _ => by
        by_cases e : j = k
        · subst e; rw [if_pos rfl, if_pos (by omega)]
        · rw [if_neg e]
          by_cases h : j < k
          · rw [if_pos h, if_pos (by omega)]
          · rw [if_neg h, if_neg (by omega)])
      have S := hs.setCell (a := ⟨w.heap.size, k, none⟩) (Nat.le_refl _) (.int .u8 (x k))
      clear hr hs hc hx
      go_wp2
      go_roundg (n - (k + 1))
      case rel => exact ⟨k + 1, by omega, rfl, by go_num, R, S⟩
      case measure => omega
    · obtain rfl : k = n := by omega
      go_wp2
      go_ret
      exact ⟨rfl, hr.congr (fun j hj => by rw [if_pos hj]), hs⟩

end Go.Proofs.YtmaieenphcnefaaDoor
