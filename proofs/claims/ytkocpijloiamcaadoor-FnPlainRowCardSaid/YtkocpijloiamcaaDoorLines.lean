/- bidi.computeMultilineReordering, bidi.ReorderLines, impl.ReorderLines, spec.AreBreaks, spec.LineOrders: the order of several lines. -/
import Derived.Test.YtkocpijloiamcaaDoorVisual
import Derived.Test.YtkocpijloiamcaaDoorMo
namespace Go.Proofs.YtkocpijloiamcaaDoor
open Go.RowKit

set_option maxHeartbeats 2000000 in
theorem computeMultiline_any {ao : Option Addr} {b o n c : Nat} {lv : Nat → Int} {ao' : Option Addr} {b' o' nb c' : Nat} {br : Nat → Nat} (w : World) (hn : n ≤ 4294967296) (hnb : nb ≤ 4294967296)
    (hx : Sees w ao b o n c (fun i => .int .i8 (lv i))) (hlv : ∀ i, i < n → 0 ≤ lv i ∧ lv i ≤ 126) (hy : Sees w ao' b' o' nb c' (fun i => .int .i64 (br i : Int))) (hbr : Brk br nb n) :
    Calls Tryd.prog 57 #[.slice ao n c, .slice ao' nb c'] w (RetSees w n (ordVal (mo lv br nb))) := by
  have hmk := run_make_row' (P := Tryd.prog) 22 3 (.int .i64 0) 8 Tryd.underlying22 Tryd.infoInt rfl .i64 .i64 n (by omega) (by omega)
  have HL := Lib.hid hlv
  clear hlv
  go_enter Tryd.func57, Tryd.ntmps57
  go_wp2
  clear hmk
  go_loopg [6, 8, 17] nb (fun g s _ i wr => ∃ k : Nat, k ≤ nb ∧ g = nb - k ∧ i = .int .i64 k ∧ s = .int .i64 (st br k : Int) ∧ wr.rowIs w.heap.size 3 n (ordVal (mo lv br k)) ∧ w.Since w.heap.size wr ∧ w.heap.size < wr.heap.size)
  case atStart => exact ⟨0, by omega, rfl, rfl, rfl, (World.rowIs_made w _ n 3).congr (fun j _ => rfl), (World.Since.refl _ _).alloc (Nat.le_refl _) _, by simp⟩
  case round =>
    obtain ⟨k, hk, rfl, rfl, rfl, hrow, hs, hzr⟩ := hrel
    by_cases hlt : k < nb
    · obtain ⟨rfl, hc⟩ := hy.get hlt
      have hc' : wr.cell? ⟨b', o' + k, none⟩ = some (.int .i64 (br k : Int)) := by rw [hs.cell (World.block_lt_of_cell? _ _ hc)]; exact hc
      have hst := hbr.asc k hlt
      have hle := hbr.le k hlt
      have hnext : st br (k + 1) = br k := st_succ br k
      have hmo : ∀ p, mo lv br (k + 1) p = mo2 (mo lv br k) lv (st br k) (br k - st br k) (br k - st br k) p := fun p => rfl
      obtain ⟨s, hse⟩ : ∃ s, s = st br k := ⟨_, rfl⟩
      obtain ⟨t, hte⟩ : ∃ t, t = br k := ⟨_, rfl⟩
      obtain ⟨m, hme⟩ : ∃ m, m = t - s := ⟨_, rfl⟩
      rw [← hse, ← hte] at hst hmo
      rw [← hme] at hmo
      rw [← hte] at hnext hle hc'
      rw [← hse]
      have hlz : (k : Int) < (nb : Int) := by omega
      have hsub : (t : Int) - (s : Int) = (m : Int) := by omega
      have htm : t ≤ s + m := by omega
      have htm2 : s + m ≤ t := by omega
      have HM := Lib.hid hmo
      have HN := Lib.hid hnext
      clear hse hte hme hmo hnext hc
      have hmk := run_make_row' (P := Tryd.prog) 64 62 (.int .i8 0) 1 Tryd.underlying64 Tryd.infoLevel rfl .i64 .i64 m (by omega) (by omega)
      have hsA : wr.Since wr.heap.size (wr.alloc (.cells (madeCells #[.int .i8 0] m) 62)) := (World.Since.refl _ _).alloc (Nat.le_refl _) _
      have hrA := World.rowIs_made wr (.int .i8 0) m 62
      have hxA := (hx.since hs).since hsA
      have hrB := hrow.alloc (.cells (madeCells #[.int .i8 0] m) 62)
      obtain ⟨aoS, hsl, hseeS⟩ := cut_l 64 62 Tryd.underlying64 Tryd.sizeLevel hxA s (by omega)
      clear hrow
      go_wp2_with (refine wpList_copyRow _ rfl (.tmp 25) (.tmp 28) 64 64 rfl 62 Tryd.underlying64 Tryd.sizeLevel wr.heap.size m _ hrA (by rfl) (by rfl) hseeS (by omega) (fun _ _ => rfl) ?_)
      intro w2 hr2 hgr2
      have hrow2 : w2.rowIs w.heap.size 3 n (ordVal (mo lv br k)) := hrB.of_block (hgr2.block _ (by simp; omega) (by simp; omega))
      have hs2 : w.Since w.heap.size w2 := (hs.alloc (by omega) _).grown hgr2 (by simp; omega) (by simp; omega)
      have hz2 : wr.heap.size < w2.heap.size := by have := hgr2.size; simp at this; omega
      clear hsl hseeS hxA hsA hrA hrB hgr2 hmk hs
      go_wp2_with fail
      refine (computeReordering_any _ (by omega) (Sees.ofRow hr2) (fun i hi => HL.out (s + i) (by omega))).mono ?_
      rintro e w3 ⟨ao3, b3, o3, c3, rfl, hs3, hf3, hsi3⟩
      have hrow3 : w3.rowIs w.heap.size 3 n (ordVal (mo lv br k)) := hrow2.of_block (hsi3.block _ (by omega))
      have hsw3 := since2 hs2 hsi3
      have hz3 : w.heap.size < w3.heap.size := by have := hsi3.size; omega
      clear hrow2 hr2 hs2
      go_wp2
      go_loopg [10, 11, 33] m (fun g _ _ i wq => ∃ j : Nat, j ≤ m ∧ g = m - j ∧ i = .int .i64 j ∧ wq.rowIs w.heap.size 3 n (ordVal (mo2 (mo lv br k) lv s m j)) ∧ Sees wq ao3 b3 o3 m c3 (ordVal (Ord.U (fun i => lv (s + i)) m 126)) ∧ w.Since w.heap.size wq ∧ w.heap.size < wq.heap.size)
      case atStart => exact ⟨0, by omega, rfl, rfl, hrow3.congr (fun p _ => by simp only [ordVal]; rw [mo2_zero]), hs3, hsw3, hz3⟩
      case round =>
        obtain ⟨j, hj, rfl, rfl, hrq, hseq, hsq, hzq⟩ := hrel
        clear hrow3 hs3 hsw3 hz3
        by_cases hjm : j < m
        · obtain ⟨rfl, hcj⟩ := hseq.get hjm
          have hjz : (j : Int) < (m : Int) := by omega
          have hul := Ord.U_lt (lv := fun i => lv (s + i)) (n := m) (m := 126) hjm
          obtain ⟨u, hu⟩ : ∃ u, u = Ord.U (fun i => lv (s + i)) m 126 j := ⟨_, rfl⟩
          simp only [ordVal] at hcj
          rw [← hu] at hcj hul
          have g1 := hrq.cell (i := s + j) (by omega)
          obtain ⟨old, hold⟩ : ∃ old : Int, wr.cell? ⟨w.heap.size, s + j, none⟩ = some (.int .i64 old) := ⟨_, g1⟩
          have g2 := hrq.frozen (s + j)
          have R := (hrq.set (s + j) (.int .i64 ((u : Int) + (s : Int)))).congr (g := ordVal (mo2 (mo lv br k) lv s m (j + 1))) (fun p _ => by
            simp only [ordVal]
            rw [mo2_succ]
            by_cases e : p = s + j
            · rw [if_pos e, if_pos e, hu]; congr 1; omega
            · rw [if_neg e, if_neg e])
          have S := hsq.setCell (a := ⟨w.heap.size, s + j, none⟩) (Nat.le_refl _) (.int .i64 ((u : Int) + (s : Int)))
          have E := hseq.kept (w' := wr.setCell ⟨w.heap.size, s + j, none⟩ (.int .i64 ((u : Int) + (s : Int)))) (fun _ => Go.Deep.blk_setCell_other _ _ _ _ (by show b3 ≠ w.heap.size; omega))
          clear hu g1 hrq hseq hsq
          go_wp2
          go_roundg (m - (j + 1))
          case rel => exact ⟨j + 1, by omega, rfl, by go_num, R, E, S, by simpa using hzq⟩
          case measure => omega
        · obtain rfl : j = m := by omega
          have R := hrq.congr (g := ordVal (mo lv br (k + 1))) (fun p _ => by simp only [ordVal]; rw [HM.out])
          clear hrq hseq
          go_wp2
          go_roundg (nb - (k + 1))
          case rel => exact ⟨k + 1, by omega, rfl, by go_num, by rw [HN.out], R, hsq, hzq⟩
          case measure => omega
    · obtain rfl : k = nb := by omega
      go_wp2
      go_ret
      exact ⟨_, _, _, _, rfl, Sees.ofRow hrow, Nat.le_refl _, hs⟩

end Go.Proofs.YtkocpijloiamcaaDoor
