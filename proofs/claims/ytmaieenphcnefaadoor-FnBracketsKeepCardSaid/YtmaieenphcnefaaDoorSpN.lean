/- spec.IsInitiator, spec.IsNeutral, spec.IsOfNeutral, spec.IsSide, spec.Direction, spec.IsRemoved, spec.IsOfWeak, laws.areNeutral, laws.areWeak. -/
import Derived.Test.YtmaieenphcnefaaDoorRet
import Derived.Test.YtmaieenphcnefaaDoorInfo
import Derived.Test.YtmaieenphcnefaaDoorCls
import Derived.Test.YtmaieenphcnefaaDoorAreC
import Derived.Deep.LoopGhost
import Derived.WalkMore
import Derived.Lib.Hide
namespace Go.Proofs.YtmaieenphcnefaaDoor
open Go.RowKit
set_option linter.unusedVariables false
set_option linter.unusedSimpArgs false

/-- Are all classes in a list? -/
def allB (l : List Int) (c : Nat → Int) (n : Nat) : Bool := decide (∀ i, i < n → memB l (c i) = true)

/-- Numbers of the neutral classes; of those that N1 and N2 meet. -/
def NN (y : Int) : Bool := memB [7, 8, 9, 10, 19, 20, 21, 22] y
def ofNeu : List Int := [0, 1, 2, 5, 7, 8, 9, 10, 19, 20, 21, 22]

def ofWeak : List Int := [0, 1, 2, 3, 4, 5, 6, 7, 8, 9, 10, 12, 13, 19, 20, 21, 22]

theorem allB_get {l : List Int} {x : Nat → Int} {n : Nat} (h : allB l x n = true) {i : Nat} (hi : i < n) : memB l (x i) = true := by
  unfold allB at h; exact of_decide_eq_true h i hi


def sideB (n : Int) : Bool := decide (n = 0 ∨ n = 1)
theorem sideB_iff {n : Int} : sideB n = true ↔ (n = 0 ∨ n = 1) := by unfold sideB; exact decide_eq_true_iff

theorem isInitiator_any (n : Int) (w : World) : Calls Tryd.prog 53 #[.int .i64 n] w fun e w' => e = .returned (.bool (iniB n)) ∧ w = w' := by
  by_cases h19 : n = 19
  · subst h19
    go_enter Tryd.func53, Tryd.ntmps53
    go_wp2_with fail
    go_ret
    exact ⟨rfl, rfl⟩
  have b19 : (n == 19) = false := beq_eq_false_iff_ne.2 h19
  by_cases h20 : n = 20
  · subst h20
    go_enter Tryd.func53, Tryd.ntmps53
    go_wp2_with fail
    go_ret
    exact ⟨rfl, rfl⟩
  have b20 : (n == 20) = false := beq_eq_false_iff_ne.2 h20
  by_cases h21 : n = 21
  · subst h21
    go_enter Tryd.func53, Tryd.ntmps53
    go_wp2_with fail
    go_ret
    exact ⟨rfl, rfl⟩
  have b21 : (n == 21) = false := beq_eq_false_iff_ne.2 h21
  have HN : (iniB n) = false := by
    rw [Bool.eq_false_iff]
    intro q
    revert q
    unfold iniB
    simp only [ne_eq, memB_iff, List.mem_cons, List.not_mem_nil, or_false, decide_eq_true_eq]
    omega
  have HH := Lib.hid HN
  clear HN
  go_enter Tryd.func53, Tryd.ntmps53
  go_wp2_with fail
  go_ret
  exact ⟨ret_bool HH.out.symm, rfl⟩

theorem isSide_any (n : Int) (w : World) : Calls Tryd.prog 18 #[.int .i64 n] w fun e w' => e = .returned (.bool (sideB n)) ∧ w = w' := by
  by_cases h0 : n = 0
  · subst h0
    go_enter Tryd.func18, Tryd.ntmps18
    go_wp2_with fail
    go_ret
    exact ⟨rfl, rfl⟩
  have b0 : (n == 0) = false := beq_eq_false_iff_ne.2 h0
  by_cases h1 : n = 1
  · subst h1
    go_enter Tryd.func18, Tryd.ntmps18
    go_wp2_with fail
    go_ret
    exact ⟨rfl, rfl⟩
  have b1 : (n == 1) = false := beq_eq_false_iff_ne.2 h1
  have HN : (sideB n) = false := by
    rw [Bool.eq_false_iff]
    intro q
    revert q
    unfold sideB
    simp only [ne_eq, memB_iff, List.mem_cons, List.not_mem_nil, or_false, decide_eq_true_eq]
    omega
  have HH := Lib.hid HN
  clear HN
  go_enter Tryd.func18, Tryd.ntmps18
  go_wp2_with fail
  go_ret
  exact ⟨ret_bool HH.out.symm, rfl⟩

theorem isNeutral_any (n : Int) (w : World) : Calls Tryd.prog 39 #[.int .i64 n] w fun e w' => e = .returned (.bool (NN n)) ∧ w = w' := by
  by_cases h7 : n = 7
  · subst h7
    go_enter Tryd.func39, Tryd.ntmps39
    go_wp2_with fail
    go_ret
    exact ⟨rfl, rfl⟩
  have b7 : (n == 7) = false := beq_eq_false_iff_ne.2 h7
  by_cases h8 : n = 8
  · subst h8
    go_enter Tryd.func39, Tryd.ntmps39
    go_wp2_with fail
    go_ret
    exact ⟨rfl, rfl⟩
  have b8 : (n == 8) = false := beq_eq_false_iff_ne.2 h8
  by_cases h9 : n = 9
  · subst h9
    go_enter Tryd.func39, Tryd.ntmps39
    go_wp2_with fail
    go_ret
    exact ⟨rfl, rfl⟩
  have b9 : (n == 9) = false := beq_eq_false_iff_ne.2 h9
  by_cases h10 : n = 10
  · subst h10
    go_enter Tryd.func39, Tryd.ntmps39
    go_wp2_with fail
    go_ret
    exact ⟨rfl, rfl⟩
  have b10 : (n == 10) = false := beq_eq_false_iff_ne.2 h10
  have HN : (NN n) = (iniB n || n == 22) := by
    rw [Bool.eq_iff_iff]
    unfold NN iniB
    simp only [memB_iff, List.mem_cons, List.not_mem_nil, or_false, Bool.or_eq_true, beq_iff_eq, decide_eq_true_eq, Bool.false_eq_true]
    omega
  have HH := Lib.hid HN
  clear HN
  go_enter Tryd.func39, Tryd.ntmps39
  go_wp2_with fail
  refine (isInitiator_any _ _).mono ?_
  rintro e w1 ⟨rfl, rfl⟩
  by_cases hq : (iniB n) = true
  · rw [hq]
    have HQ := Lib.hid hq
    clear hq
    go_wp2_with fail
    go_ret
    exact ⟨ret_bool (by rw [HH.out, HQ.out]; rfl), rfl⟩
  · have hq' : (iniB n) = false := by simpa using hq
    rw [hq']
    have HQ := Lib.hid hq'
    clear hq hq'
    go_wp2_with fail
    go_ret
    exact ⟨ret_bool (by rw [HH.out, HQ.out]; rfl), rfl⟩

theorem isOfNeutral_any (n : Int) (w : World) : Calls Tryd.prog 27 #[.int .i64 n] w fun e w' => e = .returned (.bool (memB ofNeu n)) ∧ w = w' := by
  by_cases h0 : n = 0
  · subst h0
    go_enter Tryd.func27, Tryd.ntmps27
    go_wp2_with fail
    go_ret
    exact ⟨rfl, rfl⟩
  have b0 : (n == 0) = false := beq_eq_false_iff_ne.2 h0
  by_cases h1 : n = 1
  · subst h1
    go_enter Tryd.func27, Tryd.ntmps27
    go_wp2_with fail
    go_ret
    exact ⟨rfl, rfl⟩
  have b1 : (n == 1) = false := beq_eq_false_iff_ne.2 h1
  by_cases h2 : n = 2
  · subst h2
    go_enter Tryd.func27, Tryd.ntmps27
    go_wp2_with fail
    go_ret
    exact ⟨rfl, rfl⟩
  have b2 : (n == 2) = false := beq_eq_false_iff_ne.2 h2
  by_cases h5 : n = 5
  · subst h5
    go_enter Tryd.func27, Tryd.ntmps27
    go_wp2_with fail
    go_ret
    exact ⟨rfl, rfl⟩
  have b5 : (n == 5) = false := beq_eq_false_iff_ne.2 h5
  have HN : (memB ofNeu n) = (NN n || false) := by
    rw [Bool.eq_iff_iff]
    unfold NN ofNeu
    simp only [memB_iff, List.mem_cons, List.not_mem_nil, or_false, Bool.or_eq_true, beq_iff_eq, decide_eq_true_eq, Bool.false_eq_true]
    omega
  have HH := Lib.hid HN
  clear HN
  go_enter Tryd.func27, Tryd.ntmps27
  go_wp2_with fail
  refine (isNeutral_any _ _).mono ?_
  rintro e w1 ⟨rfl, rfl⟩
  by_cases hq : (NN n) = true
  · rw [hq]
    have HQ := Lib.hid hq
    clear hq
    go_wp2_with fail
    go_ret
    exact ⟨ret_bool (by rw [HH.out, HQ.out]; rfl), rfl⟩
  · have hq' : (NN n) = false := by simpa using hq
    rw [hq']
    have HQ := Lib.hid hq'
    clear hq hq'
    go_wp2_with fail
    go_ret
    exact ⟨ret_bool (by rw [HH.out, HQ.out]; rfl), rfl⟩


theorem direction_any {lv : Int} (w : World) (h0 : 0 ≤ lv) (h1 : lv ≤ 127) : Calls Tryd.prog 29 #[.int .i64 lv] w fun e w' => e = .returned (.int .i64 (lv % 2)) ∧ w = w' := by
  rcases (show lv % 2 = 0 ∨ lv % 2 = 1 by omega) with hp | hp
  · have ht : lv.tmod 2 = 0 := by rw [Int.tmod_eq_emod_of_nonneg h0]; exact hp
    rw [hp]
    go_enter Tryd.func29, Tryd.ntmps29
    go_wp2_with fail
    go_ret
    exact ⟨rfl, rfl⟩
  · have ht : lv.tmod 2 = 1 := by rw [Int.tmod_eq_emod_of_nonneg h0]; exact hp
    rw [hp]
    go_enter Tryd.func29, Tryd.ntmps29
    go_wp2_with fail
    go_ret
    exact ⟨rfl, rfl⟩

set_option maxHeartbeats 400000 in
theorem areNeutral_any {ao : Option Addr} {b o n c : Nat} {x : Nat → Int} (w : World) (hn : n ≤ 17179869184) (hx : Sees w ao b o n c (fun i => .int .i64 (x i))) :
    Calls Tryd.prog 16 #[.slice ao n c] w fun e w' => e = .returned (.bool (allB ofNeu x n)) ∧ w = w' := by
  go_enter Tryd.func16, Tryd.ntmps16
  go_wp2_with fail
  go_loopg [7] n (fun g i wr => ∃ k : Nat, k ≤ n ∧ g = n - k ∧ i = .int .i64 k ∧ Hid (∀ j, j < k → memB ofNeu (x j) = true) ∧ w = wr)
  case atStart => exact ⟨0, by omega, rfl, rfl, fun j hj => absurd hj (Nat.not_lt_zero _), rfl⟩
  case round =>
    obtain ⟨k, hk, rfl, rfl, HA, rfl⟩ := hrel
    by_cases hlt : k < n
    · obtain ⟨rfl, hc⟩ := hx.get hlt
      have hlz : (k : Int) < (n : Int) := by omega
      go_wp2_with fail
      refine (isOfNeutral_any _ _).mono ?_
      rintro e w1 ⟨rfl, rfl⟩
      by_cases hm : memB ofNeu (x k) = true
      · rw [hm]
        have HM := Lib.hid hm
        clear hm
        go_wp2_with fail
        go_roundg (n - (k + 1))
        case rel => exact ⟨k + 1, by omega, rfl, by go_num, fun j hj => by rcases Nat.lt_succ_iff_lt_or_eq.1 hj with h | h; exact HA.out j h; subst h; exact HM.out, rfl⟩
        case measure => omega
      · have hm' : memB ofNeu (x k) = false := by simpa using hm
        rw [hm']
        have HM := Lib.hid hm
        clear hm hm'
        go_wp2_with fail
        go_ret
        exact ⟨ret_bool (by unfold allB; symm; rw [decide_eq_false_iff_not]; exact fun q => HM.out (q k hlt)), rfl⟩
    · obtain rfl : k = n := by omega
      go_wp2_with fail
      go_ret
      exact ⟨ret_bool (by unfold allB; symm; rw [decide_eq_true_eq]; exact HA.out), rfl⟩

theorem ofNeu_ok {n : Nat} {x : Nat → Int} (h : allB ofNeu x n = true) : ∀ i, i < n → clsOk (x i) := fun i hi => by
  have := memB_iff.1 (allB_get h hi)
  unfold ofNeu at this
  simp only [List.mem_cons, List.not_mem_nil, or_false] at this
  unfold clsOk; omega

def remB (n : Int) : Bool := memB [14, 15, 16, 17, 18, 11] n

theorem isRemoved_any (n : Int) (w : World) : Calls Tryd.prog 40 #[.int .i64 n] w fun e w' => e = .returned (.bool (remB n)) ∧ w = w' := by
  by_cases h14 : n = 14
  · subst h14
    go_enter Tryd.func40, Tryd.ntmps40
    go_wp2_with fail
    go_ret
    exact ⟨rfl, rfl⟩
  have b14 : (n == 14) = false := beq_eq_false_iff_ne.2 h14
  by_cases h15 : n = 15
  · subst h15
    go_enter Tryd.func40, Tryd.ntmps40
    go_wp2_with fail
    go_ret
    exact ⟨rfl, rfl⟩
  have b15 : (n == 15) = false := beq_eq_false_iff_ne.2 h15
  by_cases h16 : n = 16
  · subst h16
    go_enter Tryd.func40, Tryd.ntmps40
    go_wp2_with fail
    go_ret
    exact ⟨rfl, rfl⟩
  have b16 : (n == 16) = false := beq_eq_false_iff_ne.2 h16
  by_cases h17 : n = 17
  · subst h17
    go_enter Tryd.func40, Tryd.ntmps40
    go_wp2_with fail
    go_ret
    exact ⟨rfl, rfl⟩
  have b17 : (n == 17) = false := beq_eq_false_iff_ne.2 h17
  by_cases h18 : n = 18
  · subst h18
    go_enter Tryd.func40, Tryd.ntmps40
    go_wp2_with fail
    go_ret
    exact ⟨rfl, rfl⟩
  have b18 : (n == 18) = false := beq_eq_false_iff_ne.2 h18
  by_cases h11 : n = 11
  · subst h11
    go_enter Tryd.func40, Tryd.ntmps40
    go_wp2_with fail
    go_ret
    exact ⟨rfl, rfl⟩
  have b11 : (n == 11) = false := beq_eq_false_iff_ne.2 h11
  have HN : remB n = false := memB_not.2 (by simp only [List.mem_cons, List.not_mem_nil, or_false]; omega)
  have HH := Lib.hid HN
  clear HN
  go_enter Tryd.func40, Tryd.ntmps40
  go_wp2_with fail
  go_ret
  exact ⟨ret_bool HH.out.symm, rfl⟩

theorem isOfWeak_any (n : Int) (w : World) : Calls Tryd.prog 28 #[.int .i64 n] w fun e w' => e = .returned (.bool (memB ofWeak n)) ∧ w = w' := by
  have HN : memB ofWeak n = decide (0 ≤ n ∧ n < 23 ∧ remB n = false) := by
    rw [Bool.eq_iff_iff, memB_iff, decide_eq_true_eq]
    unfold remB
    rw [memB_not]
    unfold ofWeak
    simp only [List.mem_cons, List.not_mem_nil, or_false]
    omega
  have HH := Lib.hid HN
  clear HN
  by_cases h1 : n < 0
  · have HF := Lib.hid (show memB ofWeak n = false by rw [HH.out, decide_eq_false_iff_not]; omega)
    go_enter Tryd.func28, Tryd.ntmps28
    go_wp2_with fail
    go_ret
    exact ⟨ret_bool HF.out.symm, rfl⟩
  · by_cases h2 : 23 ≤ n
    · have HF := Lib.hid (show memB ofWeak n = false by rw [HH.out, decide_eq_false_iff_not]; omega)
      go_enter Tryd.func28, Tryd.ntmps28
      go_wp2_with fail
      go_ret
      exact ⟨ret_bool HF.out.symm, rfl⟩
    · go_enter Tryd.func28, Tryd.ntmps28
      go_wp2_with fail
      refine (isRemoved_any _ _).mono ?_
      rintro e w1 ⟨rfl, rfl⟩
      by_cases hr : remB n = true
      · have HF := Lib.hid (show memB ofWeak n = false by rw [HH.out, decide_eq_false_iff_not, hr]; simp)
        rw [hr]
        clear hr
        go_wp2_with fail
        go_ret
        exact ⟨ret_bool HF.out.symm, rfl⟩
      · have hr' : remB n = false := by simpa using hr
        have HF := Lib.hid (show memB ofWeak n = true by rw [HH.out, decide_eq_true_eq]; exact ⟨by omega, by omega, hr'⟩)
        rw [hr']
        clear hr hr'
        go_wp2_with fail
        go_ret
        exact ⟨ret_bool HF.out.symm, rfl⟩

set_option maxHeartbeats 400000 in
theorem areWeak_any {ao : Option Addr} {b o n c : Nat} {x : Nat → Int} (w : World) (hn : n ≤ 17179869184) (hx : Sees w ao b o n c (fun i => .int .i64 (x i))) :
    Calls Tryd.prog 17 #[.slice ao n c] w fun e w' => e = .returned (.bool (allB ofWeak x n)) ∧ w = w' := by
  go_enter Tryd.func17, Tryd.ntmps17
  go_wp2_with fail
  go_loopg [7] n (fun g i wr => ∃ k : Nat, k ≤ n ∧ g = n - k ∧ i = .int .i64 k ∧ Hid (∀ j, j < k → memB ofWeak (x j) = true) ∧ w = wr)
  case atStart => exact ⟨0, by omega, rfl, rfl, fun j hj => absurd hj (Nat.not_lt_zero _), rfl⟩
  case round =>
    obtain ⟨k, hk, rfl, rfl, HA, rfl⟩ := hrel
    by_cases hlt : k < n
    · obtain ⟨rfl, hc⟩ := hx.get hlt
      have hlz : (k : Int) < (n : Int) := by omega
      go_wp2_with fail
      refine (isOfWeak_any _ _).mono ?_
      rintro e w1 ⟨rfl, rfl⟩
      by_cases hm : memB ofWeak (x k) = true
      · rw [hm]
        have HM := Lib.hid hm
        clear hm
        go_wp2_with fail
        go_roundg (n - (k + 1))
        case rel => exact ⟨k + 1, by omega, rfl, by go_num, fun j hj => by rcases Nat.lt_succ_iff_lt_or_eq.1 hj with h | h; exact HA.out j h; subst h; exact HM.out, rfl⟩
        case measure => omega
      · have hm' : memB ofWeak (x k) = false := by simpa using hm
        rw [hm']
        have HM := Lib.hid hm
        clear hm hm'
        go_wp2_with fail
        go_ret
        exact ⟨ret_bool (by unfold allB; symm; rw [decide_eq_false_iff_not]; exact fun q => HM.out (q k hlt)), rfl⟩
    · obtain rfl : k = n := by omega
      go_wp2_with fail
      go_ret
      exact ⟨ret_bool (by unfold allB; symm; rw [decide_eq_true_eq]; exact HA.out), rfl⟩

end Go.Proofs.YtmaieenphcnefaaDoor
