/- spec.IsInitiator, spec.IsNeutral, spec.IsOfNeutral, spec.IsSide, spec.Direction, spec.strong, spec.AreClasses, laws.areNeutral, spec.Neutral. -/
import Derived.Test.YtnbhkjalpcoccaaDoorNeuB
namespace Go.Proofs.YtnbhkjalpcoccaaDoor
open Go.RowKit

def sideB (n : Int) : Bool := decide (n = 0 ∨ n = 1)
theorem sideB_iff {n : Int} : sideB n = true ↔ (n = 0 ∨ n = 1) := by unfold sideB; exact decide_eq_true_iff

theorem isInitiator_any (n : Int) (w : World) : Calls Tryd.prog 29 #[.int .i64 n] w fun e w' => e = .returned (.bool (iniB n)) ∧ w = w' := by
  by_cases h19 : n = 19
  · subst h19
    go_enter Tryd.func29, Tryd.ntmps29
    go_wp2_with fail
    go_ret
    exact ⟨rfl, rfl⟩
  have b19 : (n == 19) = false := beq_eq_false_iff_ne.2 h19
  by_cases h20 : n = 20
  · subst h20
    go_enter Tryd.func29, Tryd.ntmps29
    go_wp2_with fail
    go_ret
    exact ⟨rfl, rfl⟩
  have b20 : (n == 20) = false := beq_eq_false_iff_ne.2 h20
  by_cases h21 : n = 21
  · subst h21
    go_enter Tryd.func29, Tryd.ntmps29
    go_wp2_with fail
    go_ret
    exact ⟨rfl, rfl⟩
  have b21 : (n == 21) = false := beq_eq_false_iff_ne.2 h21
  have HN : (iniB n) = false := by
    rw [Bool.eq_false_iff]
    intro q
    revert q
    unfold iniB
    simp only [ne_eq, memB_iff, List.mem_cons, List.not_mem_nil, or_false, decide_eq_true_eq]
    omega
  have HH := Lib.hid HN
  clear HN
  go_enter Tryd.func29, Tryd.ntmps29
  go_wp2_with fail
  go_ret
  exact ⟨ret_bool HH.out.symm, rfl⟩

theorem isSide_any (n : Int) (w : World) : Calls Tryd.prog 11 #[.int .i64 n] w fun e w' => e = .returned (.bool (sideB n)) ∧ w = w' := by
  by_cases h0 : n = 0
  · subst h0
    go_enter Tryd.func11, Tryd.ntmps11
    go_wp2_with fail
    go_ret
    exact ⟨rfl, rfl⟩
  have b0 : (n == 0) = false := beq_eq_false_iff_ne.2 h0
  by_cases h1 : n = 1
  · subst h1
    go_enter Tryd.func11, Tryd.ntmps11
    go_wp2_with fail
    go_ret
    exact ⟨rfl, rfl⟩
  have b1 : (n == 1) = false := beq_eq_false_iff_ne.2 h1
  have HN : (sideB n) = false := by
    rw [Bool.eq_false_iff]
    intro q
    revert q
    unfold sideB
    simp only [ne_eq, memB_iff, List.mem_cons, List.not_mem_nil, or_false, decide_eq_true_eq]
    omega
  have HH := Lib.hid HN
  clear HN
  go_enter Tryd.func11, Tryd.ntmps11
  go_wp2_with fail
  go_ret
  exact ⟨ret_bool HH.out.symm, rfl⟩

theorem isNeutral_any (n : Int) (w : World) : Calls Tryd.prog 15 #[.int .i64 n] w fun e w' => e = .returned (.bool (NN n)) ∧ w = w' := by
  by_cases h7 : n = 7
  · subst h7
    go_enter Tryd.func15, Tryd.ntmps15
    go_wp2_with fail
    go_ret
    exact ⟨rfl, rfl⟩
  have b7 : (n == 7) = false := beq_eq_false_iff_ne.2 h7
  by_cases h8 : n = 8
  · subst h8
    go_enter Tryd.func15, Tryd.ntmps15
    go_wp2_with fail
    go_ret
    exact ⟨rfl, rfl⟩
  have b8 : (n == 8) = false := beq_eq_false_iff_ne.2 h8
  by_cases h9 : n = 9
  · subst h9
    go_enter Tryd.func15, Tryd.ntmps15
    go_wp2_with fail
    go_ret
    exact ⟨rfl, rfl⟩
  have b9 : (n == 9) = false := beq_eq_false_iff_ne.2 h9
  by_cases h10 : n = 10
  · subst h10
    go_enter Tryd.func15, Tryd.ntmps15
    go_wp2_with fail
    go_ret
    exact ⟨rfl, rfl⟩
  have b10 : (n == 10) = false := beq_eq_false_iff_ne.2 h10
  have HN : (NN n) = (iniB n || n == 22) := by
    rw [Bool.eq_iff_iff]
    unfold NN iniB
    simp only [memB_iff, List.mem_cons, List.not_mem_nil, or_false, Bool.or_eq_true, beq_iff_eq, decide_eq_true_eq, Bool.false_eq_true]
    omega
  have HH := Lib.hid HN
  clear HN
  go_enter Tryd.func15, Tryd.ntmps15
  go_wp2_with fail
  refine (isInitiator_any _ _).mono ?_
  rintro e w1 ⟨rfl, rfl⟩
  by_cases hq : (iniB n) = true
  · rw [hq]
    have HQ := Lib.hid hq
    clear hq
    go_wp2_with fail
    go_ret
    exact ⟨ret_bool (by rw [HH.out, HQ.out]; rfl), rfl⟩
  · have hq' : (iniB n) = false := by simpa using hq
    rw [hq']
    have HQ := Lib.hid hq'
    clear hq hq'
    go_wp2_with fail
    go_ret
    exact ⟨ret_bool (by rw [HH.out, HQ.out]; rfl), rfl⟩

theorem isOfNeutral_any (n : Int) (w : World) : Calls Tryd.prog 21 #[.int .i64 n] w fun e w' => e = .returned (.bool (memB ofNeu n)) ∧ w = w' := by
  by_cases h0 : n = 0
  · subst h0
    go_enter Tryd.func21, Tryd.ntmps21
    go_wp2_with fail
    go_ret
    exact ⟨rfl, rfl⟩
  have b0 : (n == 0) = false := beq_eq_false_iff_ne.2 h0
  by_cases h1 : n = 1
  · subst h1
    go_enter Tryd.func21, Tryd.ntmps21
    go_wp2_with fail
    go_ret
    exact ⟨rfl, rfl⟩
  have b1 : (n == 1) = false := beq_eq_false_iff_ne.2 h1
  by_cases h2 : n = 2
  · subst h2
    go_enter Tryd.func21, Tryd.ntmps21
    go_wp2_with fail
    go_ret
    exact ⟨rfl, rfl⟩
  have b2 : (n == 2) = false := beq_eq_false_iff_ne.2 h2
  by_cases h5 : n = 5
  · subst h5
    go_enter Tryd.func21, Tryd.ntmps21
    go_wp2_with fail
    go_ret
    exact ⟨rfl, rfl⟩
  have b5 : (n == 5) = false := beq_eq_false_iff_ne.2 h5
  have HN : (memB ofNeu n) = (NN n || false) := by
    rw [Bool.eq_iff_iff]
    unfold NN ofNeu
    simp only [memB_iff, List.mem_cons, List.not_mem_nil, or_false, Bool.or_eq_true, beq_iff_eq, decide_eq_true_eq, Bool.false_eq_true]
    omega
  have HH := Lib.hid HN
  clear HN
  go_enter Tryd.func21, Tryd.ntmps21
  go_wp2_with fail
  refine (isNeutral_any _ _).mono ?_
  rintro e w1 ⟨rfl, rfl⟩
  by_cases hq : (NN n) = true
  · rw [hq]
    have HQ := Lib.hid hq
    clear hq
    go_wp2_with fail
    go_ret
    exact ⟨ret_bool (by rw [HH.out, HQ.out]; rfl), rfl⟩
  · have hq' : (NN n) = false := by simpa using hq
    rw [hq']
    have HQ := Lib.hid hq'
    clear hq hq'
    go_wp2_with fail
    go_ret
    exact ⟨ret_bool (by rw [HH.out, HQ.out]; rfl), rfl⟩


theorem strong_any (n : Int) (w : World) (hm : memB ofNeu n = true) (hN : NN n = false) : Calls Tryd.prog 27 #[.int .i64 n] w fun e w' => e = .returned (.int .i64 (sd n)) ∧ w = w' := by
  have h1 := memB_iff.1 hm
  have h2 := memB_not.1 hN
  unfold ofNeu at h1
  simp only [List.mem_cons, List.not_mem_nil, or_false] at h1 h2
  have h3 : n = 0 ∨ n = 1 ∨ n = 2 ∨ n = 5 := by omega
  clear h1 h2 hm hN
  rcases h3 with rfl | rfl | rfl | rfl
  all_goals
    go_enter Tryd.func27, Tryd.ntmps27
    go_wp2_with fail
    go_ret
    exact ⟨rfl, rfl⟩

theorem direction_any {lv : Int} (w : World) (h0 : 0 ≤ lv) (h1 : lv ≤ 127) : Calls Tryd.prog 28 #[.int .i64 lv] w fun e w' => e = .returned (.int .i64 (lv % 2)) ∧ w = w' := by
  rcases (show lv % 2 = 0 ∨ lv % 2 = 1 by omega) with hp | hp
  · have ht : lv.tmod 2 = 0 := by rw [Int.tmod_eq_emod_of_nonneg h0]; exact hp
    rw [hp]
    go_enter Tryd.func28, Tryd.ntmps28
    go_wp2_with fail
    go_ret
    exact ⟨rfl, rfl⟩
  · have ht : lv.tmod 2 = 1 := by rw [Int.tmod_eq_emod_of_nonneg h0]; exact hp
    rw [hp]
    go_enter Tryd.func28, Tryd.ntmps28
    go_wp2_with fail
    go_ret
    exact ⟨rfl, rfl⟩

/-- Numbers of classes. -/
def clsB (n : Nat) (x : Nat → Int) : Bool := decide (∀ i, i < n → 0 ≤ x i ∧ x i < 23)

set_option maxHeartbeats 400000 in
theorem areClasses_any {ao : Option Addr} {b o n c : Nat} {x : Nat → Int} (w : World) (hn : n ≤ 17179869184) (hx : Sees w ao b o n c (fun i => .int .i64 (x i))) :
    Calls Tryd.prog 16 #[.slice ao n c] w fun e w' => e = .returned (.bool (clsB n x)) ∧ w = w' := by
  go_enter Tryd.func16, Tryd.ntmps16
  go_wp2
  go_loop [7] (fun i => ∃ k : Nat, k ≤ n ∧ i = .int .i64 k ∧ Hid (∀ j, j < k → 0 ≤ x j ∧ x j < 23)) (fun i => n - (intOf i).toNat)
  case atStart => exact ⟨0, by omega, rfl, fun j hj => absurd hj (Nat.not_lt_zero _)⟩
  case round =>
    obtain ⟨k, hk, rfl, HA⟩ := hrel
    by_cases hlt : k < n
    · obtain ⟨rfl, hc⟩ := hx.get hlt
      have hlz : (k : Int) < (n : Int) := by omega
      have hno : (0 ≤ x k ∧ x k < 23 → False) → (false = clsB n x) := fun h => by
        unfold clsB; symm; rw [decide_eq_false_iff_not]; exact fun h2 => h (h2 k hlt)
      have HNO := Lib.hid hno
      clear hno
      by_cases h1 : x k < 0
      · go_wp2
        go_ret
        exact ⟨ret_bool (HNO.out (by omega)), rfl⟩
      · by_cases h2 : 23 ≤ x k
        · go_wp2
          go_ret
          exact ⟨ret_bool (HNO.out (by omega)), rfl⟩
        · go_wp2
          go_round
          case rel => exact ⟨k + 1, by omega, by go_num, fun j hj => by rcases Nat.lt_succ_iff_lt_or_eq.1 hj with h | h; exact HA.out j h; subst h; exact ⟨by omega, by omega⟩⟩
          case measure => simp [intOf]; omega
    · obtain rfl : k = n := by omega
      go_wp2
      go_ret
      exact ⟨ret_bool (by unfold clsB; symm; rw [decide_eq_true_eq]; exact HA.out), rfl⟩

theorem clsB_ok {n : Nat} {x : Nat → Int} (h : clsB n x = true) : ∀ i, i < n → clsOk (x i) := by simp only [clsB, decide_eq_true_eq] at h; exact h

set_option maxHeartbeats 400000 in
theorem areNeutral_any {ao : Option Addr} {b o n c : Nat} {x : Nat → Int} (w : World) (hn : n ≤ 17179869184) (hx : Sees w ao b o n c (fun i => .int .i64 (x i))) :
    Calls Tryd.prog 10 #[.slice ao n c] w fun e w' => e = .returned (.bool (allB ofNeu x n)) ∧ w = w' := by
  go_enter Tryd.func10, Tryd.ntmps10
  go_wp2_with fail
  go_loopg [7] n (fun g i wr => ∃ k : Nat, k ≤ n ∧ g = n - k ∧ i = .int .i64 k ∧ Hid (∀ j, j < k → memB ofNeu (x j) = true) ∧ w = wr)
  case atStart => exact ⟨0, by omega, rfl, rfl, fun j hj => absurd hj (Nat.not_lt_zero _), rfl⟩
  case round =>
    obtain ⟨k, hk, rfl, rfl, HA, rfl⟩ := hrel
    by_cases hlt : k < n
    · obtain ⟨rfl, hc⟩ := hx.get hlt
      have hlz : (k : Int) < (n : Int) := by omega
      go_wp2_with fail
      refine (isOfNeutral_any _ _).mono ?_
      rintro e w1 ⟨rfl, rfl⟩
      by_cases hm : memB ofNeu (x k) = true
      · rw [hm]
        have HM := Lib.hid hm
        clear hm
        go_wp2_with fail
        go_roundg (n - (k + 1))
        case rel => exact ⟨k + 1, by omega, rfl, by go_num, fun j hj => by rcases Nat.lt_succ_iff_lt_or_eq.1 hj with h | h; exact HA.out j h; subst h; exact HM.out, rfl⟩
        case measure => omega
      · have hm' : memB ofNeu (x k) = false := by simpa using hm
        rw [hm']
        have HM := Lib.hid hm
        clear hm hm'
        go_wp2_with fail
        go_ret
        exact ⟨ret_bool (by unfold allB; symm; rw [decide_eq_false_iff_not]; exact fun q => HM.out (q k hlt)), rfl⟩
    · obtain rfl : k = n := by omega
      go_wp2_with fail
      go_ret
      exact ⟨ret_bool (by unfold allB; symm; rw [decide_eq_true_eq]; exact HA.out), rfl⟩

theorem ofNeu_ok {n : Nat} {x : Nat → Int} (h : allB ofNeu x n = true) : ∀ i, i < n → clsOk (x i) := fun i hi => by
  have := memB_iff.1 (allB_get h hi)
  unfold ofNeu at this
  simp only [List.mem_cons, List.not_mem_nil, or_false] at this
  unfold clsOk; omega

set_option maxHeartbeats 4000000 in
set_option maxRecDepth 100000 in
theorem specNeutral_any {ao : Option Addr} {b o n c : Nat} {x : Nat → Int} {lv s0 e0 : Int} (w : World) (hn : n ≤ 4294967296) (h0 : 0 < n) (hlv0 : 0 ≤ lv) (hlv1 : lv ≤ 125) (hall : allB ofNeu x n = true) (hx : Sees w ao b o n c (fun i => .int .i64 (x i))) :
    Calls Tryd.prog 14 #[.slice ao n c, .int .i64 lv, .int .i64 s0, .int .i64 e0] w (RetSees w n (fun i => .int .i64 (neuN s0 e0 (lv % 2) n x i))) := by
  have HALL := Lib.hid hall
  clear hall
  have hsA : w.Since w.heap.size (w.alloc (.cells #[] 3)) := (World.Since.refl _ _).alloc (Nat.le_refl _) _
  have g1 := Gr.empty w w.heap.size 3 (fun _ => .int .i64 0) (Nat.le_refl _)
  have hx2 := hx.since hsA
  obtain ⟨rfl, _⟩ := hx.get h0
  have hblt := hx.lt h0
  go_enter Tryd.func14, Tryd.ntmps14
  go_wp2_with (refine wpList_cat _ rfl (.tmp 16) (.tmp 17) 22 rfl w.heap.size 3 (.int .i64 0) 8 Tryd.underlying22 Tryd.infoInt rfl _ _ _ (by rfl) g1 (by rfl) hx2 (fun _ _ => rfl) (by omega) (by omega) (by simp) ?_)
  intro v2 w2 hg2 hgr2 _
  have hs2 : w.Since w.heap.size w2 := hsA.grown hgr2 (by simp) (by simp [Value.ownBlock])
  have hg2' : Gr w2 w.heap.size 3 v2 n (fun i => .int .i64 (x i)) := by first | exact hg2 | (rw [Nat.zero_add] at hg2; exact hg2.congr fun i _ => by simp)
  obtain ⟨q, cap, rfl, hq⟩ := hg2'.form h0
  clear g1 hsA hx2 hg2 hgr2
  go_wp2_with fail
  go_loopg [21] n (fun g i wr => ∃ k : Nat, k ≤ n ∧ g = n - k ∧ i = .int .i64 k ∧ w.Since w.heap.size wr ∧ Gr wr w.heap.size 3 (.slice (some ⟨q, 0, none⟩) n cap) n (fun i => .int .i64 (if i < k then neuN s0 e0 (lv % 2) n x i else x i)))
  case atStart => exact ⟨0, by omega, rfl, rfl, hs2, hg2'.congr (fun j _ => by rw [if_neg (by omega)])⟩
  case round =>
    clear hg2' hs2
    obtain ⟨k, hk, rfl, rfl, hs, hG⟩ := hrel
    by_cases hkn : k < n
    · have hkz : (k : Int) < (n : Int) := by omega
      have hxr := hx.since hs
      have hc := (hxr.get hkn).2
      go_wp2_with fail
      refine (isNeutral_any _ _).mono ?_
      rintro e w1 ⟨rfl, rfl⟩
      by_cases hN : NN (x k) = true
      case neg =>
        have hN' : NN (x k) = false := by simpa using hN
        rw [hN']
        have hG' := hG.congr (g := fun i => .int .i64 (if i < k + 1 then neuN s0 e0 (lv % 2) n x i else x i)) (fun i _ => by
          by_cases e : i = k
          · subst e; rw [if_neg (by omega), if_pos (by omega)]; unfold neuN; rw [nout_not (N := fun j => NN (x j)) hN']
          · by_cases h : i < k
            · rw [if_pos h, if_pos (by omega)]
            · rw [if_neg h, if_neg (by omega)])
        clear hG
        go_wp2_with fail
        go_roundg (n - (k + 1))
        case rel => exact ⟨k + 1, by omega, rfl, by go_num, hs, hG'⟩
        case measure => omega
      rw [hN]
      obtain ⟨bf, hbf⟩ : ∃ bf, bf = bef (fun j => NN (x j)) (fun j => sd (x j)) s0 k := ⟨_, rfl⟩
      have HBF := Lib.hid hbf
      obtain ⟨bh, hbh⟩ : ∃ bh, bh = beh (fun j => NN (x j)) (fun j => sd (x j)) e0 (n - (k + 1)) (k + 1) := ⟨_, rfl⟩
      have HBH := Lib.hid hbh
      have HN := Lib.hid hN
      clear hbf hbh hN
      go_upto_block 2 with fail
      go_cut [12] (fun b wx => b = .int .i64 bf ∧ wx = wr)
      case first =>
        go_wp2_with fail
        go_loopg [12, 14] k (fun g b i wx => ∃ m : Nat, m ≤ k ∧ g = m ∧ i = .int .i64 ((m : Int) - 1) ∧ b = .int .i64 s0 ∧ Hid (bf = bef (fun j => NN (x j)) (fun j => sd (x j)) s0 m) ∧ wx = wr)
        case atStart => exact ⟨k, Nat.le_refl _, rfl, rfl, rfl, HBF.out, rfl⟩
        case round =>
          obtain ⟨m, hm, hgm, rfl, rfl, HA, rfl⟩ := hrel
          cases m with
          | zero =>
            go_wp2_with fail
            go_meet
            exact ⟨by rw [HA.out]; rfl, rfl⟩
          | succ r =>
            rw [show ((r + 1 : Nat) : Int) - 1 = (r : Int) by omega]
            have hcr := (hxr.get (i := r) (by omega)).2
            go_wp2_with fail
            refine (isNeutral_any _ _).mono ?_
            rintro e w1 ⟨rfl, rfl⟩
            by_cases hNr : NN (x r) = true
            · rw [hNr]
              have HB := Lib.hid (HA.out.trans (bef_succ_neu (N := fun j => NN (x j)) hNr))
              clear hNr
              go_wp2_with fail
              go_roundg r
              case rel => exact ⟨r, by omega, rfl, by go_num, rfl, HB.out, rfl⟩
              case measure => omega
            · have hNr' : NN (x r) = false := by simpa using hNr
              rw [hNr']
              have HB := Lib.hid (HA.out.trans (bef_succ_not (N := fun j => NN (x j)) hNr'))
              have HMr := allB_get HALL.out (show r < n by omega)
              clear hNr
              go_wp2_with fail
              refine (strong_any _ _ HMr hNr').mono ?_
              rintro e w1 ⟨rfl, rfl⟩
              go_wp2_with fail
              go_meet
              exact ⟨by rw [HB.out], rfl⟩
      case rest =>
        obtain ⟨rfl, rfl⟩ := hcut
        obtain ⟨wr, rfl⟩ : ∃ wr, wr = wc := ⟨_, rfl⟩
        go_upto_block 4 with fail
        go_cut [13] (fun b wx => b = .int .i64 bh ∧ wx = wr)
        case first =>
          go_wp2_with fail
          go_loopg [13, 15] (n - (k + 1)) (fun g b i wx => ∃ m : Nat, k + 1 ≤ m ∧ m ≤ n ∧ g = n - m ∧ i = .int .i64 m ∧ b = .int .i64 e0 ∧ Hid (bh = beh (fun j => NN (x j)) (fun j => sd (x j)) e0 (n - m) m) ∧ wx = wr)
          case atStart => exact ⟨k + 1, Nat.le_refl _, by omega, rfl, by go_num, rfl, HBH.out, rfl⟩
          case round =>
            obtain ⟨m, hm, hmn, rfl, rfl, rfl, HA, rfl⟩ := hrel
            by_cases hml : m < n
            · have hmz : (m : Int) < (n : Int) := by omega
              have hcr := (hxr.get (i := m) (by omega)).2
              go_wp2_with fail
              refine (isNeutral_any _ _).mono ?_
              rintro e w1 ⟨rfl, rfl⟩
              by_cases hNr : NN (x m) = true
              · rw [hNr]
                have HB := Lib.hid (HA.out.trans (beh_neu (N := fun j => NN (x j)) hml hNr))
                clear hNr
                go_wp2_with fail
                go_roundg (n - (m + 1))
                case rel => exact ⟨m + 1, by omega, by omega, rfl, by go_num, rfl, HB.out, rfl⟩
                case measure => omega
              · have hNr' : NN (x m) = false := by simpa using hNr
                rw [hNr']
                have HB := Lib.hid (HA.out.trans (beh_not (N := fun j => NN (x j)) hml hNr'))
                have HMr := allB_get HALL.out hml
                clear hNr
                go_wp2_with fail
                refine (strong_any _ _ HMr hNr').mono ?_
                rintro e w1 ⟨rfl, rfl⟩
                go_wp2_with fail
                go_meet
                exact ⟨by rw [HB.out], rfl⟩
            · obtain rfl : m = n := by omega
              have HB := Lib.hid (HA.out.trans (beh_end (N := fun j => NN (x j)) (Nat.le_refl _)))
              go_wp2_with fail
              go_meet
              exact ⟨by rw [HB.out], rfl⟩
        case rest =>
          obtain ⟨rfl, rfl⟩ := hcut
          obtain ⟨wr, rfl⟩ : ∃ wr, wr = wc := ⟨_, rfl⟩
          have HV := Lib.hid (show neuN s0 e0 (lv % 2) n x k = if bf = bh then bf else lv % 2 by
            unfold neuN nout; rw [if_pos HN.out, beh_neu (N := fun j => NN (x j)) hkn HN.out, ← HBF.out, ← HBH.out])
          clear hxr hc
          have hgk := hG.cell hkn
          rw [if_neg (by omega)] at hgk
          have hgz := hG.frozen k
          have hG1 := hG.set k (.int .i64 (lv % 2))
          have hs1 := hs.setCell (a := ⟨q, k, none⟩) hq (.int .i64 (lv % 2))
          have hgk1 := hG1.cell hkn
          have hgz1 := hG1.frozen k
          rw [if_pos rfl] at hgk1
          by_cases hbb : bf = bh
          · have hb : (bf == bh) = true := by simp [hbb]
            have hG2 := (hG1.set k (.int .i64 bf)).congr (g := fun i => .int .i64 (if i < k + 1 then neuN s0 e0 (lv % 2) n x i else x i)) (fun i _ => by
              by_cases e : i = k
              · subst e; rw [if_pos rfl, if_pos (by omega), HV.out, if_pos hbb]
              · rw [if_neg e, if_neg e]
                by_cases h : i < k
                · rw [if_pos h, if_pos (by omega)]
                · rw [if_neg h, if_neg (by omega)])
            have hs2 := hs1.setCell (a := ⟨q, k, none⟩) hq (.int .i64 bf)
            clear hG hs hG1 hs1 hbb
            go_wp2_with fail
            refine (direction_any _ hlv0 (by omega)).mono ?_
            rintro e w1 ⟨rfl, rfl⟩
            go_wp2_with fail
            go_roundg (n - (k + 1))
            case rel => exact ⟨k + 1, by omega, rfl, by go_num, hs2, hG2⟩
            case measure => omega
          · have hb : (bf == bh) = false := by simp [hbb]
            have hG2 := hG1.congr (g := fun i => .int .i64 (if i < k + 1 then neuN s0 e0 (lv % 2) n x i else x i)) (fun i _ => by
              by_cases e : i = k
              · subst e; rw [if_pos rfl, if_pos (by omega), HV.out, if_neg hbb]
              · rw [if_neg e]
                by_cases h : i < k
                · rw [if_pos h, if_pos (by omega)]
                · rw [if_neg h, if_neg (by omega)])
            clear hG hs hG1 hbb
            go_wp2_with fail
            refine (direction_any _ hlv0 (by omega)).mono ?_
            rintro e w1 ⟨rfl, rfl⟩
            go_wp2_with fail
            go_roundg (n - (k + 1))
            case rel => exact ⟨k + 1, by omega, rfl, by go_num, hs1, hG2⟩
            case measure => omega
    · obtain rfl : k = n := by omega
      go_wp2_with fail
      go_ret
      exact ⟨_, q, 0, _, rfl, (hG.sees' h0).congr (fun i hi => by rw [if_pos hi]), hq, hs⟩

end Go.Proofs.YtnbhkjalpcoccaaDoor
