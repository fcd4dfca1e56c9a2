/- spec.IsInitiator, spec.IsParagraph, spec.Matching. -/
import Derived.Test.YtjelgbfgciaapaaDoorRet
import Derived.Test.YtjelgbfgciaapaaDoorInfo
import Derived.Test.YtjelgbfgciaapaaDoorCls
import Derived.Test.YtjelgbfgciaapaaDoorIniN
import Derived.Test.YtjelgbfgciaapaaDoorIso
import Derived.Deep.LoopGhost
import Derived.Lib.Hide
namespace Go.Proofs.YtjelgbfgciaapaaDoor
open Go.RowKit

theorem isInitiator_any (n : Int) (w : World) : Calls Tryd.prog 15 #[.int .i64 n] w fun e w' => e = .returned (.bool (iniB n)) ∧ w = w' := by
  by_cases h1 : n = 19
  · subst h1
    go_enter Tryd.func15, Tryd.ntmps15
    go_wp2
    go_ret
    exact ⟨rfl, rfl⟩
  · have b1 : (n == 19) = false := beq_eq_false_iff_ne.2 h1
    by_cases h2 : n = 20
    · subst h2
      go_enter Tryd.func15, Tryd.ntmps15
      go_wp2
      go_ret
      exact ⟨rfl, rfl⟩
    · have b2 : (n == 20) = false := beq_eq_false_iff_ne.2 h2
      by_cases h3 : n = 21
      · subst h3
        go_enter Tryd.func15, Tryd.ntmps15
        go_wp2
        go_ret
        exact ⟨rfl, rfl⟩
      · have b3 : (n == 21) = false := beq_eq_false_iff_ne.2 h3
        go_enter Tryd.func15, Tryd.ntmps15
        go_wp2
        go_ret
        exact ⟨ret_bool (by unfold iniB; symm; rw [decide_eq_false_iff_not]; omega), rfl⟩

set_option maxHeartbeats 1000000 in
theorem isParagraph_any {ao : Option Addr} {b o n c : Nat} {x : Nat → Int} (w : World) (hn : n ≤ 17179869184) (hx : Sees w ao b o n c (fun i => .int .i64 (x i))) :
    Calls Tryd.prog 10 #[.slice ao n c] w fun e w' => e = .returned (.bool (paraB n x)) ∧ w = w' := by
  go_enter Tryd.func10, Tryd.ntmps10
  go_wp2
  go_loop [3, 4, 7] (fun _ _ i => ∃ k : Nat, k ≤ n ∧ i = .int .i64 k ∧ (∀ j, j < k → 0 ≤ x j ∧ x j < 23 ∧ (x j = 7 → n ≤ j + 1))) (fun _ _ i => n - (intOf i).toNat)
  case atStart => exact ⟨0, by omega, rfl, fun j hj => absurd hj (Nat.not_lt_zero _)⟩
  case round =>
    obtain ⟨k, hk, rfl, hall⟩ := hrel
    have HA := Lib.hid hall
    clear hall
    by_cases hlt : k < n
    · obtain ⟨rfl, hc⟩ := hx.get hlt
      have hlz : (k : Int) < (n : Int) := by omega
      have hno : ∀ P : Prop, (0 ≤ x k ∧ x k < 23 ∧ (x k = 7 → n ≤ k + 1) → False) → (false = paraB n x) := fun _ h => by
        unfold paraB; symm; rw [decide_eq_false_iff_not]; exact fun h2 => h (h2.2 k hlt)
      have HNO := Lib.hid hno
      clear hno
      by_cases h1 : x k < 0
      · go_wp2
        go_ret
        exact ⟨ret_bool (HNO.out True (by omega)), rfl⟩
      · by_cases h2 : 23 ≤ x k
        · go_wp2
          go_ret
          exact ⟨ret_bool (HNO.out True (by omega)), rfl⟩
        · by_cases h3 : x k = 7
          · have b3 : (x k == 7) = true := by simp [h3]
            have H3 := Lib.hid h3
            clear h3
            by_cases h4 : k + 1 < n
            · go_wp2
              go_ret
              exact ⟨ret_bool (HNO.out True (fun h => by have := h.2.2 H3.out; omega)), rfl⟩
            · go_wp2
              go_round
              case rel => exact ⟨k + 1, by omega, by go_num, fun j hj => by rcases Nat.lt_succ_iff_lt_or_eq.1 hj with h | h; exact HA.out j h; subst h; exact ⟨by omega, by omega, fun _ => by omega⟩⟩
              case measure => simp [intOf]; omega
          · have b3 : (x k == 7) = false := by simp [h3]
            have H3 := Lib.hid h3
            clear h3
            go_wp2
            go_round
            case rel => exact ⟨k + 1, by omega, by go_num, fun j hj => by rcases Nat.lt_succ_iff_lt_or_eq.1 hj with h | h; exact HA.out j h; subst h; exact ⟨by omega, by omega, fun e => absurd e H3.out⟩⟩
            case measure => simp [intOf]; omega
    · obtain rfl : k = n := by omega
      by_cases h0 : 0 < k
      · go_wp2
        go_ret
        exact ⟨ret_bool (by unfold paraB; symm; rw [decide_eq_true_eq]; exact ⟨h0, HA.out⟩), rfl⟩
      · obtain rfl : k = 0 := by omega
        go_wp2
        go_ret
        exact ⟨ret_bool (by unfold paraB; symm; rw [decide_eq_false_iff_not]; exact fun h => absurd h.1 (Nat.not_lt_zero _)), rfl⟩


def endsToN (x : Nat → Int) (n k i : Nat) : Int := if i < k then mt (iniN x) (pdiN x) n i else 0

theorem endsToN_step (x : Nat → Int) (n k : Nat) (v : Int) (hv : mt (iniN x) (pdiN x) n k = v) (j : Nat) : endsToN x n (k + 1) j = if j = k then v else endsToN x n k j := by
  unfold endsToN
  by_cases e : j = k
  · subst e; rw [if_pos (by omega), if_pos rfl, hv]
  · rw [if_neg e]
    by_cases h : j < k
    · rw [if_pos h, if_pos (by omega)]
    · rw [if_neg h, if_neg (by omega)]

set_option maxHeartbeats 2000000 in
theorem matching_any {ao : Option Addr} {b o n c : Nat} {x : Nat → Int} (w : World) (hn : n ≤ 4294967296) (hx : Sees w ao b o n c (fun i => .int .i64 (x i))) :
    Calls Tryd.prog 25 #[.slice ao n c] w (RetSees w n (fun i => .int .i64 (mt (iniN x) (pdiN x) n i))) := by
  have hmk := run_make_row' (P := Tryd.prog) 22 3 (.int .i64 0) 8 Tryd.underlying22 Tryd.infoInt rfl .i64 .i64 n (by omega) (by omega)
  go_enter Tryd.func25, Tryd.ntmps25
  go_wp2
  clear hmk
  go_loopg [4, 5, 6, 12] n (fun g _ _ _ i wr => ∃ m : Nat, m ≤ n ∧ g = n - m ∧ i = .int .i64 m ∧ wr.rowIs w.heap.size 3 n (fun j => .int .i64 (endsToN x n m j)) ∧ w.Since w.heap.size wr)
  case atStart => exact ⟨0, by omega, rfl, rfl, (World.rowIs_made w _ n 3).congr (fun j _ => by simp [endsToN]), (World.Since.refl _ _).alloc (Nat.le_refl _) _⟩
  case round =>
    obtain ⟨m, hm, rfl, rfl, hr, hs⟩ := hrel
    by_cases hmn : m < n
    · have hmz : (m : Int) < (n : Int) := by omega
      obtain ⟨rfl, hc0⟩ := hx.get hmn
      have hbw : b < w.heap.size := World.block_lt_of_cell? _ _ hc0
      have g1 := hr.cell hmn
      have g2 := hr.frozen m
      have R1 := hr.set m (.int .i64 (-1))
      have S1 := hs.setCell (a := ⟨w.heap.size, m, none⟩) (Nat.le_refl _) (.int .i64 (-1))
      have hc : (wr.setCell ⟨w.heap.size, m, none⟩ (.int .i64 (-1))).cell? ⟨b, o + m, none⟩ = some (.int .i64 (x m)) := by rw [S1.cell hbw]; exact hc0
      clear hc0
      go_wp2_with fail
      refine (isInitiator_any _ _).mono ?_
      rintro e w2 ⟨rfl, rfl⟩
      clear hr hs hc
      by_cases hini : iniB (x m) = true
      · have HI := Lib.hid hini
        have G1 := R1.cell hmn
        have G2 := R1.frozen m
        rw [if_pos rfl] at G1
        have R2 := (R1.set m (.int .i64 (n : Int))).congr (g := fun j => .int .i64 (if j = m then (n : Int) else endsToN x n m j)) (fun j _ => by
          by_cases e : j = m
          · rw [if_pos e, if_pos e]
          · rw [if_neg e, if_neg e, if_neg e])
        have S2 := S1.setCell (a := ⟨w.heap.size, m, none⟩) (Nat.le_refl _) (.int .i64 (n : Int))
        clear R1 S1
        go_wp2_with fail
        clear G1 G2 hini
        go_loopg [5, 6] (n - (m + 1)) (fun g d k wr => ∃ (q e : Nat) (v : Int), m + 1 ≤ q ∧ q ≤ n ∧ g = n - q ∧ e ≤ q ∧ d = .int .i64 e ∧ k = .int .i64 q ∧
          Hid ((1 ≤ e ∧ v = n ∧ mat (iniN x) (pdiN x) n m = scan (iniN x) (pdiN x) n (n - q) q e) ∨ (e = 0 ∧ v = (mat (iniN x) (pdiN x) n m : Int))) ∧ wr.rowIs w.heap.size 3 n (fun j => .int .i64 (if j = m then v else endsToN x n m j)) ∧ w.Since w.heap.size wr)
        case atStart => exact ⟨m + 1, 1, (n : Int), by omega, by omega, rfl, by omega, rfl, by go_num, .inl ⟨by omega, rfl, rfl⟩, R2, S2⟩
        case round =>
          obtain ⟨q, e, v, hq1, hq2, rfl, he2, rfl, rfl, hinv, hr, hs⟩ := hrel
          clear R2 S2
          by_cases hstop : q = n ∨ e = 0
          · have hv : v = mt (iniN x) (pdiN x) n m := by
              rw [mt_ini HI.out]
              rcases hinv.out with ⟨h1, h2, h3⟩ | ⟨h1, h2⟩
              · rw [h2, h3, show n - q = 0 by omega]; rfl
              · exact h2
            have R := hr.congr (g := fun j => .int .i64 (endsToN x n (m + 1) j)) (fun j _ => by rw [endsToN_step x n m v hv.symm])
            clear hr hv
            have Hst := Lib.hid hstop
            by_cases hqn : q < n
            · have he0 : e = 0 := by omega
              subst he0
              clear hstop
              go_wp2_with fail
              go_roundg (n - (m + 1))
              case rel => exact ⟨m + 1, by omega, rfl, by go_num, R, hs⟩
              case measure => omega
            · have hqz : ¬ (q : Int) < (n : Int) := by omega
              clear hstop
              go_wp2_with fail
              go_roundg (n - (m + 1))
              case rel => exact ⟨m + 1, by omega, rfl, by go_num, R, hs⟩
              case measure => omega
          · have hqn : q < n := by omega
            have he1 : 1 ≤ e := by omega
            have hqz : (q : Int) < (n : Int) := by omega
            have hez : (0 : Int) < (e : Int) := by omega
            obtain ⟨hvn, hm2⟩ : v = n ∧ mat (iniN x) (pdiN x) n m = scan (iniN x) (pdiN x) n (n - (q + 1) + 1) q e := by
              rcases hinv.out with ⟨h1, h2, h3⟩ | ⟨h1, h2⟩
              · exact ⟨h2, by rw [← show n - q = n - (q + 1) + 1 by omega]; exact h3⟩
              · omega
            have HV := Lib.hid hvn
            clear hvn hstop hinv
            have hcq : wr.cell? ⟨b, o + q, none⟩ = some (.int .i64 (x q)) := by rw [hs.cell (a := ⟨b, o + q, none⟩) hbw]; exact (hx.get hqn).2
            have hr' := hr.congr (g := fun j => .int .i64 (if j = m then (n : Int) else endsToN x n m j)) (fun j _ => by rw [HV.out])
            go_wp2_with fail
            refine (isInitiator_any _ _).mono ?_
            rintro ee w2 ⟨rfl, rfl⟩
            by_cases hi : iniB (x q) = true
            · have hp2 : (x q == 22) = false := by unfold iniB at hi; rw [decide_eq_true_eq] at hi; exact beq_eq_false_iff_ne.2 (by omega)
              have hm3 := hm2.trans (scan_ini (ini := iniN x) hi)
              have HM3 := Lib.hid hm3
              clear hm2 hm3
              go_wp2_with fail
              go_roundg (n - (q + 1))
              case rel => exact ⟨q + 1, e + 1, (n : Int), by omega, by omega, rfl, by omega, by go_num, by go_num, .inl ⟨by omega, rfl, HM3.out⟩, hr', hs⟩
              case measure => omega
            · have hi' : iniB (x q) = false := by simpa using hi
              clear hi
              by_cases hpd : (x q == 22) = true
              · by_cases he : e = 1
                · subst he
                  have hm3 : mat (iniN x) (pdiN x) n m = q := hm2.trans (scan_hit (ini := iniN x) hi' hpd)
                  have HM3 := Lib.hid hm3
                  clear hm2 hm3
                  have G1 := hr.cell hmn
                  have G2 := hr.frozen m
                  have R := (hr.set m (.int .i64 (q : Int))).congr (g := fun j => .int .i64 (if j = m then (q : Int) else endsToN x n m j)) (fun j _ => by
                    by_cases e : j = m
                    · rw [if_pos e, if_pos e]
                    · rw [if_neg e, if_neg e, if_neg e])
                  have S := hs.setCell (a := ⟨w.heap.size, m, none⟩) (Nat.le_refl _) (.int .i64 (q : Int))
                  rw [if_pos rfl] at G1
                  clear hr hr' hs
                  go_wp2_with fail
                  go_roundg (n - (q + 1))
                  case rel => exact ⟨q + 1, 0, (q : Int), by omega, by omega, rfl, by omega, by go_num, by go_num, .inr ⟨rfl, by rw [HM3.out]⟩, R, S⟩
                  case measure => omega
                · have hm3 := hm2.trans (scan_pdi (ini := iniN x) hi' hpd he)
                  have HM3 := Lib.hid hm3
                  have hz : ((e : Int) - 1 == 0) = false := beq_eq_false_iff_ne.2 (by omega)
                  clear hm2 hm3
                  go_wp2_with fail
                  go_roundg (n - (q + 1))
                  case rel => exact ⟨q + 1, e - 1, (n : Int), by omega, by omega, rfl, by omega, by go_num, by go_num, .inl ⟨by omega, rfl, HM3.out⟩, hr', hs⟩
                  case measure => omega
              · have hpd' : (x q == 22) = false := by simpa using hpd
                have hm3 := hm2.trans (scan_other (ini := iniN x) hi' hpd')
                have HM3 := Lib.hid hm3
                clear hm2 hm3 hpd
                go_wp2_with fail
                go_roundg (n - (q + 1))
                case rel => exact ⟨q + 1, e, (n : Int), by omega, by omega, rfl, by omega, rfl, by go_num, .inl ⟨by omega, rfl, HM3.out⟩, hr', hs⟩
                case measure => omega
      · have hini' : iniB (x m) = false := by simpa using hini
        clear hini
        have R := R1.congr (g := fun j => .int .i64 (endsToN x n (m + 1) j)) (fun j _ => by rw [endsToN_step x n m (-1) (mt_not hini')]; split <;> rfl)
        clear R1
        go_wp2_with fail
        go_roundg (n - (m + 1))
        case rel => exact ⟨m + 1, by omega, rfl, by go_num, R, S1⟩
        case measure => omega
    · obtain rfl : m = n := by omega
      go_wp2
      go_ret
      exact ⟨_, _, _, _, rfl, (Sees.ofRow hr).congr (fun j hj => by unfold endsToN; rw [if_pos hj]), Nat.le_refl _, hs⟩

end Go.Proofs.YtjelgbfgciaapaaDoor
