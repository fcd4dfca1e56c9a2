/- bidi.computeMultilineReordering, bidi.ReorderLines, impl.ReorderLines, spec.AreBreaks, spec.LineOrders: the order of several lines. -/
import Derived.Test.YtkocpijloiamcaaGreatDoorVisual
import Derived.Test.YtkocpijloiamcaaGreatDoorMo
namespace Go.Proofs.YtkocpijloiamcaaGreatDoor
open Go.RowKit

set_option maxHeartbeats 400000 in
theorem areBreaks_any {ao : Option Addr} {b o n c : Nat} {y : Nat → Int} (N : Int) (w : World) (hn : n ≤ 17179869184) (hx : Sees w ao b o n c (fun i => .int .i64 (y i))) :
    Calls Tryz.prog 6 #[.slice ao n c, .int .i64 N] w fun e w' => e = .returned (.bool (breaksB n y N)) ∧ w = w' := by
  go_enter Tryz.func6, Tryz.ntmps6
  go_wp2
  go_loop [5, 7, 10] (fun l _ i => ∃ k : Nat, k ≤ n ∧ i = .int .i64 k ∧ l = .int .i64 (lastY y k) ∧ (∀ j, j < k → lastY y j < y j ∧ y j ≤ N)) (fun _ _ i => n - (intOf i).toNat)
  case atStart => exact ⟨0, by omega, rfl, rfl, fun j hj => absurd hj (Nat.not_lt_zero _)⟩
  case round =>
    obtain ⟨k, hk, rfl, rfl, hall⟩ := hrel
    have HA := Lib.hid hall
    clear hall
    obtain ⟨l, hl⟩ : ∃ l, l = lastY y k := ⟨_, rfl⟩
    rw [← hl]
    have HLl := Lib.hid hl
    clear hl
    by_cases hlt : k < n
    · obtain ⟨rfl, hc⟩ := hx.get hlt
      have hlz : (k : Int) < (n : Int) := by omega
      by_cases h1 : y k ≤ l
      · go_wp2
        go_ret
        exact ⟨ret_bool (by unfold breaksB; symm; rw [decide_eq_false_iff_not]; exact fun h => by have := (h.2.1 k hlt).1; have := HLl.out; omega), rfl⟩
      · by_cases h2 : N < y k
        · go_wp2
          go_ret
          exact ⟨ret_bool (by unfold breaksB; symm; rw [decide_eq_false_iff_not]; exact fun h => by have := h.2.1 k hlt; omega), rfl⟩
        · go_wp2
          go_round
          case rel => exact ⟨k + 1, by omega, by go_num, rfl, fun j hj => by rcases Nat.lt_succ_iff_lt_or_eq.1 hj with h | h; exact HA.out j h; subst h; have := HLl.out; omega⟩
          case measure => simp [intOf]; omega
    · obtain rfl : k = n := by omega
      by_cases h0 : 0 < k
      · by_cases hN : l = N
        · have hb : (l == N) = true := by simp [hN]
          have HN := Lib.hid hN
          clear hN
          go_wp2
          go_ret
          exact ⟨ret_bool (by unfold breaksB; symm; rw [decide_eq_true_eq]; exact ⟨h0, HA.out, by rw [← HLl.out]; exact HN.out⟩), rfl⟩
        · have hb : (l == N) = false := by simp [hN]
          go_wp2
          go_ret
          exact ⟨ret_bool (by unfold breaksB; symm; rw [decide_eq_false_iff_not]; exact fun h => hN (by rw [HLl.out]; exact h.2.2)), rfl⟩
      · obtain rfl : k = 0 := by omega
        go_wp2
        go_ret
        exact ⟨ret_bool (by unfold breaksB; symm; rw [decide_eq_false_iff_not]; exact fun h => absurd h.1 (Nat.not_lt_zero _)), rfl⟩

set_option maxHeartbeats 2000000 in
theorem computeMultiline_any {ao : Option Addr} {b o n c : Nat} {lv : Nat → Int} {ao' : Option Addr} {b' o' nb c' : Nat} {br : Nat → Nat} (w : World) (hn : n ≤ 4294967296) (hnb : nb ≤ 4294967296)
    (hx : Sees w ao b o n c (fun i => .int .i8 (lv i))) (hlv : ∀ i, i < n → 0 ≤ lv i ∧ lv i ≤ 126) (hy : Sees w ao' b' o' nb c' (fun i => .int .i64 (br i : Int))) (hbr : Brk br nb n) :
    Calls Tryz.prog 35 #[.slice ao n c, .slice ao' nb c'] w (RetSees w n (ordVal (mo lv br nb))) := by
  have hmk := run_make_row' (P := Tryz.prog) 22 3 (.int .i64 0) 8 Tryz.underlying22 Tryz.infoInt rfl .i64 .i64 n (by omega) (by omega)
  have HL := Lib.hid hlv
  clear hlv
  go_enter Tryz.func35, Tryz.ntmps35
  go_wp2
  clear hmk
  go_loopg [6, 8, 17] nb (fun g s _ i wr => ∃ k : Nat, k ≤ nb ∧ g = nb - k ∧ i = .int .i64 k ∧ s = .int .i64 (st br k : Int) ∧ wr.rowIs w.heap.size 3 n (ordVal (mo lv br k)) ∧ w.Since w.heap.size wr ∧ w.heap.size < wr.heap.size)
  case atStart => exact ⟨0, by omega, rfl, rfl, rfl, (World.rowIs_made w _ n 3).congr (fun j _ => rfl), (World.Since.refl _ _).alloc (Nat.le_refl _) _, by simp⟩
  case round =>
    obtain ⟨k, hk, rfl, rfl, rfl, hrow, hs, hzr⟩ := hrel
    by_cases hlt : k < nb
    · obtain ⟨rfl, hc⟩ := hy.get hlt
      have hc' : wr.cell? ⟨b', o' + k, none⟩ = some (.int .i64 (br k : Int)) := by rw [hs.cell (World.block_lt_of_cell? _ _ hc)]; exact hc
      have hst := hbr.asc k hlt
      have hle := hbr.le k hlt
      have hnext : st br (k + 1) = br k := st_succ br k
      have hmo : ∀ p, mo lv br (k + 1) p = mo2 (mo lv br k) lv (st br k) (br k - st br k) (br k - st br k) p := fun p => rfl
      obtain ⟨s, hse⟩ : ∃ s, s = st br k := ⟨_, rfl⟩
      obtain ⟨t, hte⟩ : ∃ t, t = br k := ⟨_, rfl⟩
      obtain ⟨m, hme⟩ : ∃ m, m = t - s := ⟨_, rfl⟩
      rw [← hse, ← hte] at hst hmo
      rw [← hme] at hmo
      rw [← hte] at hnext hle hc'
      rw [← hse]
      have hlz : (k : Int) < (nb : Int) := by omega
      have hsub : (t : Int) - (s : Int) = (m : Int) := by omega
      have htm : t ≤ s + m := by omega
      have htm2 : s + m ≤ t := by omega
      have HM := Lib.hid hmo
      have HN := Lib.hid hnext
      clear hse hte hme hmo hnext hc
      have hmk := run_make_row' (P := Tryz.prog) 65 63 (.int .i8 0) 1 Tryz.underlying65 Tryz.infoLevel rfl .i64 .i64 m (by omega) (by omega)
      have hsA : wr.Since wr.heap.size (wr.alloc (.cells (madeCells #[.int .i8 0] m) 63)) := (World.Since.refl _ _).alloc (Nat.le_refl _) _
      have hrA := World.rowIs_made wr (.int .i8 0) m 63
      have hxA := (hx.since hs).since hsA
      have hrB := hrow.alloc (.cells (madeCells #[.int .i8 0] m) 63)
      obtain ⟨aoS, hsl, hseeS⟩ := cut_l 65 63 Tryz.underlying65 Tryz.sizeLevel hxA s (by omega)
      clear hrow
      go_wp2_with (refine wpList_copyRow _ rfl (.tmp 25) (.tmp 28) 65 65 rfl 63 Tryz.underlying65 Tryz.sizeLevel wr.heap.size m _ hrA (by rfl) (by rfl) hseeS (by omega) (fun _ _ => rfl) ?_)
      intro w2 hr2 hgr2
      have hrow2 : w2.rowIs w.heap.size 3 n (ordVal (mo lv br k)) := hrB.of_block (hgr2.block _ (by simp; omega) (by simp; omega))
      have hs2 : w.Since w.heap.size w2 := (hs.alloc (by omega) _).grown hgr2 (by simp; omega) (by simp; omega)
      have hz2 : wr.heap.size < w2.heap.size := by have := hgr2.size; simp at this; omega
      clear hsl hseeS hxA hsA hrA hrB hgr2 hmk hs
      go_wp2_with fail
      refine (computeReordering_any _ (by omega) (Sees.ofRow hr2) (fun i hi => HL.out (s + i) (by omega))).mono ?_
      rintro e w3 ⟨ao3, b3, o3, c3, rfl, hs3, hf3, hsi3⟩
      have hrow3 : w3.rowIs w.heap.size 3 n (ordVal (mo lv br k)) := hrow2.of_block (hsi3.block _ (by omega))
      have hsw3 := since2 hs2 hsi3
      have hz3 : w.heap.size < w3.heap.size := by have := hsi3.size; omega
      clear hrow2 hr2 hs2
      go_wp2
      go_loopg [10, 11, 33] m (fun g _ _ i wq => ∃ j : Nat, j ≤ m ∧ g = m - j ∧ i = .int .i64 j ∧ wq.rowIs w.heap.size 3 n (ordVal (mo2 (mo lv br k) lv s m j)) ∧ Sees wq ao3 b3 o3 m c3 (ordVal (Ord.U (fun i => lv (s + i)) m 126)) ∧ w.Since w.heap.size wq ∧ w.heap.size < wq.heap.size)
      case atStart => exact ⟨0, by omega, rfl, rfl, hrow3.congr (fun p _ => by simp only [ordVal]; rw [mo2_zero]), hs3, hsw3, hz3⟩
      case round =>
        obtain ⟨j, hj, rfl, rfl, hrq, hseq, hsq, hzq⟩ := hrel
        clear hrow3 hs3 hsw3 hz3
        by_cases hjm : j < m
        · obtain ⟨rfl, hcj⟩ := hseq.get hjm
          have hjz : (j : Int) < (m : Int) := by omega
          have hul := Ord.U_lt (lv := fun i => lv (s + i)) (n := m) (m := 126) hjm
          obtain ⟨u, hu⟩ : ∃ u, u = Ord.U (fun i => lv (s + i)) m 126 j := ⟨_, rfl⟩
          simp only [ordVal] at hcj
          rw [← hu] at hcj hul
          have g1 := hrq.cell (i := s + j) (by omega)
          obtain ⟨old, hold⟩ : ∃ old : Int, wr.cell? ⟨w.heap.size, s + j, none⟩ = some (.int .i64 old) := ⟨_, g1⟩
          have g2 := hrq.frozen (s + j)
          have R := (hrq.set (s + j) (.int .i64 ((u : Int) + (s : Int)))).congr (g := ordVal (mo2 (mo lv br k) lv s m (j + 1))) (fun p _ => by
            simp only [ordVal]
            rw [mo2_succ]
            by_cases e : p = s + j
            · rw [if_pos e, if_pos e, hu]; congr 1; omega
            · rw [if_neg e, if_neg e])
          have S := hsq.setCell (a := ⟨w.heap.size, s + j, none⟩) (Nat.le_refl _) (.int .i64 ((u : Int) + (s : Int)))
          have E := hseq.kept (w' := wr.setCell ⟨w.heap.size, s + j, none⟩ (.int .i64 ((u : Int) + (s : Int)))) (fun _ => Go.Deep.blk_setCell_other _ _ _ _ (by show b3 ≠ w.heap.size; omega))
          clear hu g1 hrq hseq hsq
          go_wp2
          go_roundg (m - (j + 1))
          case rel => exact ⟨j + 1, by omega, rfl, by go_num, R, E, S, by simpa using hzq⟩
          case measure => omega
        · obtain rfl : j = m := by omega
          have R := hrq.congr (g := ordVal (mo lv br (k + 1))) (fun p _ => by simp only [ordVal]; rw [HM.out])
          clear hrq hseq
          go_wp2
          go_roundg (nb - (k + 1))
          case rel => exact ⟨k + 1, by omega, rfl, by go_num, by rw [HN.out], R, hsq, hzq⟩
          case measure => omega
    · obtain rfl : k = nb := by omega
      go_wp2
      go_ret
      exact ⟨_, _, _, _, rfl, Sees.ofRow hrow, Nat.le_refl _, hs⟩

set_option maxHeartbeats 400000 in
theorem bidiReorderLines_any {ao : Option Addr} {b o n c : Nat} {lv : Nat → Int} {ao' : Option Addr} {b' o' nb c' : Nat} {br : Nat → Nat} (w : World) (hn : n ≤ 4294967296) (hnb : nb ≤ 4294967296)
    (hx : Sees w ao b o n c (fun i => .int .i8 (lv i))) (hlv : ∀ i, i < n → 0 ≤ lv i ∧ lv i ≤ 126) (hy : Sees w ao' b' o' nb c' (fun i => .int .i64 (br i : Int))) (hbr : Brk br nb n) :
    Calls Tryz.prog 24 #[.slice ao n c, .slice ao' nb c'] w (RetSees w n (ordVal (mo lv br nb))) := by
  have HL := Lib.hid hlv
  clear hlv
  go_enter Tryz.func24, Tryz.ntmps24
  go_wp2_with fail
  refine (signs_any _ hn hx).mono ?_
  rintro e w1 ⟨ao1, b1, o1, c1, rfl, hs1, hf1, hsi1⟩
  go_wp2_with fail
  refine (computeMultiline_any _ hn hnb hs1 HL.out (hy.since hsi1) hbr).mono ?_
  rintro e w2 ⟨ao2, b2, o2, c2, rfl, hs2, hf2, hsi2⟩
  go_wp2
  go_ret
  exact ⟨_, _, _, _, rfl, hs2, Nat.le_trans hsi1.size hf2, since2 hsi1 hsi2⟩

set_option maxHeartbeats 400000 in
theorem implReorderLines_any {ao : Option Addr} {b o n c : Nat} {lv : Nat → Int} {ao' : Option Addr} {b' o' nb c' : Nat} {br : Nat → Nat} (w : World) (hn : n ≤ 4294967296) (hnb : nb ≤ 4294967296)
    (hx : Sees w ao b o n c (fun i => .int .i64 (lv i))) (hlv : ∀ i, i < n → 0 ≤ lv i ∧ lv i ≤ 126) (hy : Sees w ao' b' o' nb c' (fun i => .int .i64 (br i : Int))) (hbr : Brk br nb n) :
    Calls Tryz.prog 9 #[.slice ao n c, .slice ao' nb c'] w (RetSees w n (ordVal (mo lv br nb))) := by
  have HL := Lib.hid hlv
  clear hlv
  go_enter Tryz.func9, Tryz.ntmps9
  go_wp2_with fail
  refine (smallOf_any _ hn hx).mono ?_
  rintro e w1 ⟨ao1, b1, o1, c1, rfl, hs1, hf1, hsi1⟩
  have hs1' := hs1.congr (g := fun i => .int .i8 (lv i)) (fun i hi => by rw [wrap8_small (HL.out i hi).1 (HL.out i hi).2])
  clear hs1
  go_wp2_with fail
  refine (copyOf_any _ (by omega) (hy.since hsi1)).mono ?_
  rintro e w2 ⟨ao2, b2, o2, c2, rfl, hs2, hf2, hsi2⟩
  have hs1f := hs1'.since hsi2
  clear hs1'
  go_wp2_with fail
  refine (bidiReorderLines_any _ hn hnb hs1f HL.out hs2 hbr).mono ?_
  rintro e w3 ⟨ao3, b3, o3, c3, rfl, hs3, hf3, hsi3⟩
  have hsA := since2 hsi1 (since2 hsi2 hsi3)
  clear hsi1 hsi2 hsi3 hs1f hs2
  go_wp2_with fail
  refine (copyOf_any _ (by omega) hs3).mono ?_
  rintro e w4 ⟨ao4, b4, o4, c4, rfl, hs4, hf4, hsi4⟩
  go_wp2
  go_ret
  exact ⟨_, _, _, _, rfl, hs4, Nat.le_trans hsA.size hf4, since2 hsA hsi4⟩

end Go.Proofs.YtkocpijloiamcaaGreatDoor
