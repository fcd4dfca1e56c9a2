/- spec.Begins. -/
import Derived.Test.YtckffgcmeajbdaaDoorIsoSpec
namespace Go.Proofs.YtckffgcmeajbdaaDoor
open Go.RowKit

theorem bg_step {ini pdi : Nat → Bool} {n k : Nat} (hk : k < n) (v : Int) (hv : mt ini pdi n k = v) : (0 ≤ v ∧ v < n → ∃ q : Nat, v = q ∧ q < n ∧ ∀ j, bg ini pdi n (k + 1) j = if j = q then (k : Int) else bg ini pdi n k j) ∧ (¬ (0 ≤ v ∧ v < n) → ∀ j, bg ini pdi n (k + 1) j = bg ini pdi n k j) := by
  by_cases h : ini k = true
  · rw [mt_ini h] at hv
    refine ⟨fun h2 => ⟨mat ini pdi n k, hv.symm, by omega, fun j => bg_hit h rfl (by omega) j⟩, fun h2 j => bg_none ?_ j⟩
    have := mat_le (ini := ini) (pdi := pdi) hk
    omega
  · have h' : ini k = false := by simpa using h
    rw [mt_not h'] at hv
    exact ⟨fun h2 => by omega, fun _ j => bg_not h' j⟩

set_option maxHeartbeats 2000000 in
theorem begins_any {ao : Option Addr} {b o n c : Nat} {x : Nat → Int} (w : World) (hn : n ≤ 4294967296) (hx : Sees w ao b o n c (fun i => .int .i64 (x i))) :
    Calls Tryd.prog 13 #[.slice ao n c] w (RetSees w n (fun i => .int .i64 (bg (iniN x) (pdiN x) n n i))) := by
  have hmk := run_make_row' (P := Tryd.prog) 22 3 (.int .i64 0) 8 Tryd.underlying22 Tryd.infoInt rfl .i64 .i64 n (by omega) (by omega)
  go_enter Tryd.func13, Tryd.ntmps13
  go_wp2
  clear hmk
  go_loopg [4, 12] n (fun g _ i wr => ∃ m : Nat, m ≤ n ∧ g = n - m ∧ i = .int .i64 m ∧ wr.rowIs w.heap.size 3 n (fun j => .int .i64 (if j < m then -1 else 0)) ∧ w.Since w.heap.size wr ∧ w.heap.size < wr.heap.size)
  case atStart => exact ⟨0, by omega, rfl, rfl, (World.rowIs_made w _ n 3).congr (fun j _ => by simp), (World.Since.refl _ _).alloc (Nat.le_refl _) _, by simp⟩
  case round =>
    obtain ⟨m, hm, rfl, rfl, hr, hs, hzr⟩ := hrel
    by_cases hlt : m < n
    · have g1 := hr.cell hlt
      have g2 := hr.frozen m
      have R := (hr.set m (.int .i64 (-1))).congr (g := fun j => .int .i64 (if j < m + 1 then -1 else 0)) (fun j _ => by
        by_cases e : j = m
        · subst e; simp
        · by_cases h1 : j < m
          · rw [if_neg e, if_pos h1, if_pos (by omega)]
          · rw [if_neg e, if_neg h1, if_neg (by omega)])
      have S := hs.setCell (a := ⟨w.heap.size, m, none⟩) (Nat.le_refl _) (.int .i64 (-1))
      rw [if_neg (by omega)] at g1
      clear hr hs
      go_wp2
      go_roundg (n - (m + 1))
      case rel => exact ⟨m + 1, by omega, rfl, by go_num, R, S, by simpa using hzr⟩
      case measure => omega
    · obtain rfl : m = n := by omega
      have hr' : wr.rowIs w.heap.size 3 m (fun j => .int .i64 (bg (iniN x) (pdiN x) m 0 j)) := hr.congr (fun j hj => by rw [if_pos hj]; rfl)
      clear hr
      go_wp2_with fail
      refine (matching_any _ hn (hx.since hs)).mono ?_
      rintro e w1 ⟨ao1, b1, o1, c1, rfl, hs1, hf1, hsi1⟩
      have hr1 := hr'.of_block (w' := w1) (hsi1.block _ hzr)
      have hsw := since2 hs hsi1
      have hb1 : w.heap.size < b1 := by omega
      clear hr' hs hsi1
      go_wp2
      go_loopg [5, 6, 22] m (fun g _ _ i wr => ∃ k : Nat, k ≤ m ∧ g = m - k ∧ i = .int .i64 k ∧ wr.rowIs w.heap.size 3 m (fun j => .int .i64 (bg (iniN x) (pdiN x) m k j)) ∧ Sees wr ao1 b1 o1 m c1 (fun i => .int .i64 (mt (iniN x) (pdiN x) m i)) ∧ w.Since w.heap.size wr)
      case atStart => exact ⟨0, by omega, rfl, rfl, hr1, hs1, hsw⟩
      case round =>
        obtain ⟨k, hk, rfl, rfl, hr, hse, hs⟩ := hrel
        clear hr1 hs1 hsw
        by_cases hkm : k < m
        · obtain ⟨rfl, hc⟩ := hse.get hkm
          have hkz : (k : Int) < (m : Int) := by omega
          obtain ⟨v, hv⟩ : ∃ v, v = mt (iniN x) (pdiN x) m k := ⟨_, rfl⟩
          obtain ⟨hA, hB⟩ := bg_step hkm v hv.symm
          rw [← hv] at hc
          have HA := Lib.hid hA
          have HB := Lib.hid hB
          clear hv hA hB
          by_cases hin : 0 ≤ v ∧ v < m
          · obtain ⟨q, hvq, hqm, hbg⟩ := HA.out hin
            subst hvq
            have HBG := Lib.hid hbg
            have g1 := hr.cell hqm
            have g2 := hr.frozen q
            have R := (hr.set q (.int .i64 (k : Int))).congr (g := fun j => .int .i64 (bg (iniN x) (pdiN x) m (k + 1) j)) (fun j _ => by rw [HBG.out]; split <;> rfl)
            have S := hs.setCell (a := ⟨w.heap.size, q, none⟩) (Nat.le_refl _) (.int .i64 (k : Int))
            have E := hse.kept (w' := wr.setCell ⟨w.heap.size, q, none⟩ (.int .i64 (k : Int))) (fun _ => Go.Deep.blk_setCell_other _ _ _ _ (by show b1 ≠ w.heap.size; omega))
            obtain ⟨old, hold⟩ : ∃ old : Int, wr.cell? ⟨w.heap.size, q, none⟩ = some (.int .i64 old) := ⟨_, g1⟩
            clear g1 hbg hr hse hs hin
            have hz1 : (0 : Int) ≤ (q : Int) := by omega
            have hz2 : (q : Int) < (m : Int) := by omega
            go_wp2
            go_roundg (m - (k + 1))
            case rel => exact ⟨k + 1, by omega, rfl, by go_num, R, E, S⟩
            case measure => omega
          · have R := hr.congr (g := fun j => .int .i64 (bg (iniN x) (pdiN x) m (k + 1) j)) (fun j _ => by rw [HB.out hin])
            clear hr
            by_cases h0 : 0 ≤ v
            · have h1 : ¬ v < m := by omega
              clear hin
              go_wp2
              go_roundg (m - (k + 1))
              case rel => exact ⟨k + 1, by omega, rfl, by go_num, R, hse, hs⟩
              case measure => omega
            · clear hin
              go_wp2
              go_roundg (m - (k + 1))
              case rel => exact ⟨k + 1, by omega, rfl, by go_num, R, hse, hs⟩
              case measure => omega
        · obtain rfl : k = m := by omega
          go_wp2
          go_ret
          exact ⟨_, _, _, _, rfl, Sees.ofRow hr, Nat.le_refl _, hs⟩

end Go.Proofs.YtckffgcmeajbdaaDoor
