/- spec.IsOfImplicit, spec.AreClasses, spec.Implicit. -/
import Derived.Test.YtckffgcmeajbdaaDoorImplI
namespace Go.Proofs.YtckffgcmeajbdaaDoor
open Go.RowKit

theorem isOfImplicit_any (n : Int) (w : World) : Calls Tryd.prog 17 #[.int .i64 n] w fun e w' => e = .returned (.bool (memB [0, 1, 2, 5] n)) ∧ w = w' := by
  by_cases h0 : n = 0
  · subst h0
    go_enter Tryd.func17, Tryd.ntmps17
    go_wp2
    go_ret
    exact ⟨rfl, rfl⟩
  have b0 : (n == 0) = false := beq_eq_false_iff_ne.2 h0
  by_cases h1 : n = 1
  · subst h1
    go_enter Tryd.func17, Tryd.ntmps17
    go_wp2
    go_ret
    exact ⟨rfl, rfl⟩
  have b1 : (n == 1) = false := beq_eq_false_iff_ne.2 h1
  by_cases h2 : n = 2
  · subst h2
    go_enter Tryd.func17, Tryd.ntmps17
    go_wp2
    go_ret
    exact ⟨rfl, rfl⟩
  have b2 : (n == 2) = false := beq_eq_false_iff_ne.2 h2
  by_cases h5 : n = 5
  · subst h5
    go_enter Tryd.func17, Tryd.ntmps17
    go_wp2
    go_ret
    exact ⟨rfl, rfl⟩
  have b5 : (n == 5) = false := beq_eq_false_iff_ne.2 h5
  have HN : memB [0, 1, 2, 5] n = false := memB_not.2 (by simp only [List.mem_cons, List.not_mem_nil, or_false]; omega)
  have HH := Lib.hid HN
  clear HN
  go_enter Tryd.func17, Tryd.ntmps17
  go_wp2
  go_ret
  exact ⟨ret_bool HH.out.symm, rfl⟩

/-- Numbers of classes. -/
def clsB (n : Nat) (x : Nat → Int) : Bool := decide (∀ i, i < n → 0 ≤ x i ∧ x i < 23)

set_option maxHeartbeats 400000 in
theorem areClasses_any {ao : Option Addr} {b o n c : Nat} {x : Nat → Int} (w : World) (hn : n ≤ 17179869184) (hx : Sees w ao b o n c (fun i => .int .i64 (x i))) :
    Calls Tryd.prog 20 #[.slice ao n c] w fun e w' => e = .returned (.bool (clsB n x)) ∧ w = w' := by
  go_enter Tryd.func20, Tryd.ntmps20
  go_wp2
  go_loop [7] (fun i => ∃ k : Nat, k ≤ n ∧ i = .int .i64 k ∧ Hid (∀ j, j < k → 0 ≤ x j ∧ x j < 23)) (fun i => n - (intOf i).toNat)
  case atStart => exact ⟨0, by omega, rfl, fun j hj => absurd hj (Nat.not_lt_zero _)⟩
  case round =>
    obtain ⟨k, hk, rfl, HA⟩ := hrel
    by_cases hlt : k < n
    · obtain ⟨rfl, hc⟩ := hx.get hlt
      have hlz : (k : Int) < (n : Int) := by omega
      have hno : (0 ≤ x k ∧ x k < 23 → False) → (false = clsB n x) := fun h => by
        unfold clsB; symm; rw [decide_eq_false_iff_not]; exact fun h2 => h (h2 k hlt)
      have HNO := Lib.hid hno
      clear hno
      by_cases h1 : x k < 0
      · go_wp2
        go_ret
        exact ⟨ret_bool (HNO.out (by omega)), rfl⟩
      · by_cases h2 : 23 ≤ x k
        · go_wp2
          go_ret
          exact ⟨ret_bool (HNO.out (by omega)), rfl⟩
        · go_wp2
          go_round
          case rel => exact ⟨k + 1, by omega, by go_num, fun j hj => by rcases Nat.lt_succ_iff_lt_or_eq.1 hj with h | h; exact HA.out j h; subst h; exact ⟨by omega, by omega⟩⟩
          case measure => simp [intOf]; omega
    · obtain rfl : k = n := by omega
      go_wp2
      go_ret
      exact ⟨ret_bool (by unfold clsB; symm; rw [decide_eq_true_eq]; exact HA.out), rfl⟩

/-- I1 and I2 as spec has them. -/
def impS (lv t : Int) : Int := if (lv % 2 = 0 ∧ t = 1) ∨ (lv % 2 = 1 ∧ t ≠ 1) then lv + 1 else if lv % 2 = 0 ∧ (t = 5 ∨ t = 2) then lv + 2 else lv

theorem impS_eq {lv t : Int} (h : memB [0, 1, 2, 5] t = true) : impS lv t = imp lv (cls t) := by
  have hm := memB_iff.1 h
  simp only [List.mem_cons, List.not_mem_nil, or_false] at hm
  have hc : cls t = t := by unfold cls; rw [if_neg (by omega), if_pos (by omega)]
  rw [hc]
  unfold impS imp
  rcases hm with rfl | rfl | rfl | rfl
  all_goals (rcases (show lv % 2 = 0 ∨ lv % 2 = 1 by omega) with h | h <;> simp [h])

theorem memB_cls (t : Int) : memB [0, 1, 2, 5] (cls t) = memB [0, 1, 2, 5] t := by
  rw [Bool.eq_iff_iff, memB_iff, memB_iff]
  simp only [List.mem_cons, List.not_mem_nil, or_false]
  unfold cls
  split
  · omega
  · split <;> omega

set_option maxHeartbeats 2000000 in
theorem specImplicit_any {ao : Option Addr} {b o n c : Nat} {x : Nat → Int} {lv : Int} (w : World) (hn : n ≤ 4294967296) (hlv0 : 0 ≤ lv) (hlv1 : lv ≤ 125) (hx : Sees w ao b o n c (fun i => .int .i64 (x i))) :
    Calls Tryd.prog 19 #[.slice ao n c, .int .i64 lv] w (RetSees w n (fun i => .int .i64 (impS lv (x i)))) := by
  have g0 := Gr.empty w w.heap.size 3 (fun i => .int .i64 (impS lv (x i))) (Nat.le_refl _)
  have s0 : w.Since w.heap.size (w.alloc (.cells #[] 3)) := (World.Since.refl _ _).alloc (Nat.le_refl _) _
  go_enter Tryd.func19, Tryd.ntmps19
  go_wp2
  go_loopg [5, 7, 11, 19, 39] n (fun g v _ i _ _ wr => ∃ k : Nat, k ≤ n ∧ g = n - k ∧ i = .int .i64 k ∧ Gr wr w.heap.size 3 v k (fun i => .int .i64 (impS lv (x i))) ∧ w.Since w.heap.size wr)
  case atStart => exact ⟨0, by omega, rfl, rfl, g0, s0⟩
  case round =>
    obtain ⟨k, hk, rfl, rfl, hg, hs⟩ := hrel
    clear g0 s0
    by_cases hlt : k < n
    · obtain ⟨rfl, hc⟩ := hx.get hlt
      have hc' : wr.cell? ⟨b, o + k, none⟩ = some (.int .i64 (x k)) := by rw [hs.cell (World.block_lt_of_cell? _ _ hc)]; exact hc
      have hsz : w.heap.size ≤ wr.heap.size := hs.size
      clear hc hx
      rcases (show lv % 2 = 0 ∨ lv % 2 = 1 by omega) with hp | hp
      · have ht : lv.tmod 2 = 0 := by rw [Int.tmod_eq_emod_of_nonneg hlv0]; exact hp
        by_cases h1 : x k = 1
        · have b1 : (x k == 1) = true := by simp [h1]
          have HV := Lib.hid (show impS lv (x k) = lv + 1 from by unfold impS; rw [if_pos (.inl ⟨hp, h1⟩)])
          go_wp2_with (at_builtin; go_must (refine wpList_push wr rfl _ _ 22 rfl w.heap.size 3 (.int .i64 0) 8 Tryd.underlying22 Tryd.infoInt rfl _ _ _ _ (by rfl) hg (by rfl) rfl (by omega) (by omega) hsz ?_))
          intro v' w2 hg2 hgr2 hat
          have hs2 : w.Since w.heap.size w2 := (hs.alloc hsz _).grown hgr2 (by simp; omega) (fun k hk => (hg.ge k hk).1)
          have hg3 := hg2.congr (g := fun i => .int .i64 (impS lv (x i))) (fun i _ => by
            by_cases e : i = k
            · rw [if_pos e, e, HV.out]
            · rw [if_neg e])
          clear hg hs hc' hg2 hgr2 hat
          go_wp2
          go_roundg (n - (k + 1))
          case rel => exact ⟨k + 1, by omega, rfl, by go_num, hg3, hs2⟩
          case measure => omega
        · have b1 : (x k == 1) = false := by simp [h1]
          by_cases h5 : x k = 5
          · have b5 : (x k == 5) = true := by simp [h5]
            have HV := Lib.hid (show impS lv (x k) = lv + 2 from by unfold impS; rw [if_neg (by omega), if_pos ⟨hp, .inl h5⟩])
            go_wp2_with (at_builtin; go_must (refine wpList_push wr rfl _ _ 22 rfl w.heap.size 3 (.int .i64 0) 8 Tryd.underlying22 Tryd.infoInt rfl _ _ _ _ (by rfl) hg (by rfl) rfl (by omega) (by omega) hsz ?_))
            intro v' w2 hg2 hgr2 hat
            have hs2 : w.Since w.heap.size w2 := (hs.alloc hsz _).grown hgr2 (by simp; omega) (fun k hk => (hg.ge k hk).1)
            have hg3 := hg2.congr (g := fun i => .int .i64 (impS lv (x i))) (fun i _ => by
              by_cases e : i = k
              · rw [if_pos e, e, HV.out]
              · rw [if_neg e])
            clear hg hs hc' hg2 hgr2 hat
            go_wp2
            go_roundg (n - (k + 1))
            case rel => exact ⟨k + 1, by omega, rfl, by go_num, hg3, hs2⟩
            case measure => omega
          · have b5 : (x k == 5) = false := by simp [h5]
            by_cases h2 : x k = 2
            · have b2 : (x k == 2) = true := by simp [h2]
              have HV := Lib.hid (show impS lv (x k) = lv + 2 from by unfold impS; rw [if_neg (by omega), if_pos ⟨hp, .inr h2⟩])
              go_wp2_with (at_builtin; go_must (refine wpList_push wr rfl _ _ 22 rfl w.heap.size 3 (.int .i64 0) 8 Tryd.underlying22 Tryd.infoInt rfl _ _ _ _ (by rfl) hg (by rfl) rfl (by omega) (by omega) hsz ?_))
              intro v' w2 hg2 hgr2 hat
              have hs2 : w.Since w.heap.size w2 := (hs.alloc hsz _).grown hgr2 (by simp; omega) (fun k hk => (hg.ge k hk).1)
              have hg3 := hg2.congr (g := fun i => .int .i64 (impS lv (x i))) (fun i _ => by
                by_cases e : i = k
                · rw [if_pos e, e, HV.out]
                · rw [if_neg e])
              clear hg hs hc' hg2 hgr2 hat
              go_wp2
              go_roundg (n - (k + 1))
              case rel => exact ⟨k + 1, by omega, rfl, by go_num, hg3, hs2⟩
              case measure => omega
            · have b2 : (x k == 2) = false := by simp [h2]
              have HV := Lib.hid (show impS lv (x k) = lv from by unfold impS; rw [if_neg (by omega), if_neg (by omega)])
              go_wp2_with (at_builtin; go_must (refine wpList_push wr rfl _ _ 22 rfl w.heap.size 3 (.int .i64 0) 8 Tryd.underlying22 Tryd.infoInt rfl _ _ _ _ (by rfl) hg (by rfl) rfl (by omega) (by omega) hsz ?_))
              intro v' w2 hg2 hgr2 hat
              have hs2 : w.Since w.heap.size w2 := (hs.alloc hsz _).grown hgr2 (by simp; omega) (fun k hk => (hg.ge k hk).1)
              have hg3 := hg2.congr (g := fun i => .int .i64 (impS lv (x i))) (fun i _ => by
                by_cases e : i = k
                · rw [if_pos e, e, HV.out]
                · rw [if_neg e])
              clear hg hs hc' hg2 hgr2 hat
              go_wp2
              go_roundg (n - (k + 1))
              case rel => exact ⟨k + 1, by omega, rfl, by go_num, hg3, hs2⟩
              case measure => omega
      · have ht : lv.tmod 2 = 1 := by rw [Int.tmod_eq_emod_of_nonneg hlv0]; exact hp
        by_cases h1 : x k = 1
        · have b1 : (x k == 1) = true := by simp [h1]
          have b2 : (x k != 1) = false := by simp [h1]
          have HV := Lib.hid (show impS lv (x k) = lv from by unfold impS; rw [if_neg (by omega), if_neg (by omega)])
          go_wp2_with (at_builtin; go_must (refine wpList_push wr rfl _ _ 22 rfl w.heap.size 3 (.int .i64 0) 8 Tryd.underlying22 Tryd.infoInt rfl _ _ _ _ (by rfl) hg (by rfl) rfl (by omega) (by omega) hsz ?_))
          intro v' w2 hg2 hgr2 hat
          have hs2 : w.Since w.heap.size w2 := (hs.alloc hsz _).grown hgr2 (by simp; omega) (fun k hk => (hg.ge k hk).1)
          have hg3 := hg2.congr (g := fun i => .int .i64 (impS lv (x i))) (fun i _ => by
            by_cases e : i = k
            · rw [if_pos e, e, HV.out]
            · rw [if_neg e])
          clear hg hs hc' hg2 hgr2 hat
          go_wp2
          go_roundg (n - (k + 1))
          case rel => exact ⟨k + 1, by omega, rfl, by go_num, hg3, hs2⟩
          case measure => omega
        · have b1 : (x k == 1) = false := by simp [h1]
          have b2 : (x k != 1) = true := by simp [h1]
          have HV := Lib.hid (show impS lv (x k) = lv + 1 from by unfold impS; rw [if_pos (.inr ⟨hp, h1⟩)])
          go_wp2_with (at_builtin; go_must (refine wpList_push wr rfl _ _ 22 rfl w.heap.size 3 (.int .i64 0) 8 Tryd.underlying22 Tryd.infoInt rfl _ _ _ _ (by rfl) hg (by rfl) rfl (by omega) (by omega) hsz ?_))
          intro v' w2 hg2 hgr2 hat
          have hs2 : w.Since w.heap.size w2 := (hs.alloc hsz _).grown hgr2 (by simp; omega) (fun k hk => (hg.ge k hk).1)
          have hg3 := hg2.congr (g := fun i => .int .i64 (impS lv (x i))) (fun i _ => by
            by_cases e : i = k
            · rw [if_pos e, e, HV.out]
            · rw [if_neg e])
          clear hg hs hc' hg2 hgr2 hat
          go_wp2
          go_roundg (n - (k + 1))
          case rel => exact ⟨k + 1, by omega, rfl, by go_num, hg3, hs2⟩
          case measure => omega
    · obtain rfl : k = n := by omega
      go_wp2
      go_ret
      exact hg.ret hs (Nat.le_refl _)

end Go.Proofs.YtckffgcmeajbdaaDoor
