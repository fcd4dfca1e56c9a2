/- spec.IsRemoved, spec.IsOfWeak, laws.areWeak, laws.isWeak, spec.strongBefore, spec.marks, spec.arabic, spec.separators, spec.terminators, spec.others, spec.Weak. -/
import Derived.Test.YtnbhkjalpcoccaaDoorSpecN
import Derived.Test.YtnbhkjalpcoccaaDoorWk5
namespace Go.Proofs.YtnbhkjalpcoccaaDoor
open Go.RowKit

def remB (n : Int) : Bool := memB [14, 15, 16, 17, 18, 11] n

theorem isRemoved_any (n : Int) (w : World) : Calls Tryd.prog 41 #[.int .i64 n] w fun e w' => e = .returned (.bool (remB n)) ∧ w = w' := by
  by_cases h14 : n = 14
  · subst h14
    go_enter Tryd.func41, Tryd.ntmps41
    go_wp2_with fail
    go_ret
    exact ⟨rfl, rfl⟩
  have b14 : (n == 14) = false := beq_eq_false_iff_ne.2 h14
  by_cases h15 : n = 15
  · subst h15
    go_enter Tryd.func41, Tryd.ntmps41
    go_wp2_with fail
    go_ret
    exact ⟨rfl, rfl⟩
  have b15 : (n == 15) = false := beq_eq_false_iff_ne.2 h15
  by_cases h16 : n = 16
  · subst h16
    go_enter Tryd.func41, Tryd.ntmps41
    go_wp2_with fail
    go_ret
    exact ⟨rfl, rfl⟩
  have b16 : (n == 16) = false := beq_eq_false_iff_ne.2 h16
  by_cases h17 : n = 17
  · subst h17
    go_enter Tryd.func41, Tryd.ntmps41
    go_wp2_with fail
    go_ret
    exact ⟨rfl, rfl⟩
  have b17 : (n == 17) = false := beq_eq_false_iff_ne.2 h17
  by_cases h18 : n = 18
  · subst h18
    go_enter Tryd.func41, Tryd.ntmps41
    go_wp2_with fail
    go_ret
    exact ⟨rfl, rfl⟩
  have b18 : (n == 18) = false := beq_eq_false_iff_ne.2 h18
  by_cases h11 : n = 11
  · subst h11
    go_enter Tryd.func41, Tryd.ntmps41
    go_wp2_with fail
    go_ret
    exact ⟨rfl, rfl⟩
  have b11 : (n == 11) = false := beq_eq_false_iff_ne.2 h11
  have HN : remB n = false := memB_not.2 (by simp only [List.mem_cons, List.not_mem_nil, or_false]; omega)
  have HH := Lib.hid HN
  clear HN
  go_enter Tryd.func41, Tryd.ntmps41
  go_wp2_with fail
  go_ret
  exact ⟨ret_bool HH.out.symm, rfl⟩

theorem isOfWeak_any (n : Int) (w : World) : Calls Tryd.prog 30 #[.int .i64 n] w fun e w' => e = .returned (.bool (memB ofWeak n)) ∧ w = w' := by
  have HN : memB ofWeak n = decide (0 ≤ n ∧ n < 23 ∧ remB n = false) := by
    rw [Bool.eq_iff_iff, memB_iff, decide_eq_true_eq]
    unfold remB
    rw [memB_not]
    unfold ofWeak
    simp only [List.mem_cons, List.not_mem_nil, or_false]
    omega
  have HH := Lib.hid HN
  clear HN
  by_cases h1 : n < 0
  · have HF := Lib.hid (show memB ofWeak n = false by rw [HH.out, decide_eq_false_iff_not]; omega)
    go_enter Tryd.func30, Tryd.ntmps30
    go_wp2_with fail
    go_ret
    exact ⟨ret_bool HF.out.symm, rfl⟩
  · by_cases h2 : 23 ≤ n
    · have HF := Lib.hid (show memB ofWeak n = false by rw [HH.out, decide_eq_false_iff_not]; omega)
      go_enter Tryd.func30, Tryd.ntmps30
      go_wp2_with fail
      go_ret
      exact ⟨ret_bool HF.out.symm, rfl⟩
    · go_enter Tryd.func30, Tryd.ntmps30
      go_wp2_with fail
      refine (isRemoved_any _ _).mono ?_
      rintro e w1 ⟨rfl, rfl⟩
      by_cases hr : remB n = true
      · have HF := Lib.hid (show memB ofWeak n = false by rw [HH.out, decide_eq_false_iff_not, hr]; simp)
        rw [hr]
        clear hr
        go_wp2_with fail
        go_ret
        exact ⟨ret_bool HF.out.symm, rfl⟩
      · have hr' : remB n = false := by simpa using hr
        have HF := Lib.hid (show memB ofWeak n = true by rw [HH.out, decide_eq_true_eq]; exact ⟨by omega, by omega, hr'⟩)
        rw [hr']
        clear hr hr'
        go_wp2_with fail
        go_ret
        exact ⟨ret_bool HF.out.symm, rfl⟩

set_option maxHeartbeats 400000 in
theorem areWeak_any {ao : Option Addr} {b o n c : Nat} {x : Nat → Int} (w : World) (hn : n ≤ 17179869184) (hx : Sees w ao b o n c (fun i => .int .i64 (x i))) :
    Calls Tryd.prog 17 #[.slice ao n c] w fun e w' => e = .returned (.bool (allB ofWeak x n)) ∧ w = w' := by
  go_enter Tryd.func17, Tryd.ntmps17
  go_wp2_with fail
  go_loopg [7] n (fun g i wr => ∃ k : Nat, k ≤ n ∧ g = n - k ∧ i = .int .i64 k ∧ Hid (∀ j, j < k → memB ofWeak (x j) = true) ∧ w = wr)
  case atStart => exact ⟨0, by omega, rfl, rfl, fun j hj => absurd hj (Nat.not_lt_zero _), rfl⟩
  case round =>
    obtain ⟨k, hk, rfl, rfl, HA, rfl⟩ := hrel
    by_cases hlt : k < n
    · obtain ⟨rfl, hc⟩ := hx.get hlt
      have hlz : (k : Int) < (n : Int) := by omega
      go_wp2_with fail
      refine (isOfWeak_any _ _).mono ?_
      rintro e w1 ⟨rfl, rfl⟩
      by_cases hm : memB ofWeak (x k) = true
      · rw [hm]
        have HM := Lib.hid hm
        clear hm
        go_wp2_with fail
        go_roundg (n - (k + 1))
        case rel => exact ⟨k + 1, by omega, rfl, by go_num, fun j hj => by rcases Nat.lt_succ_iff_lt_or_eq.1 hj with h | h; exact HA.out j h; subst h; exact HM.out, rfl⟩
        case measure => omega
      · have hm' : memB ofWeak (x k) = false := by simpa using hm
        rw [hm']
        have HM := Lib.hid hm
        clear hm hm'
        go_wp2_with fail
        go_ret
        exact ⟨ret_bool (by unfold allB; symm; rw [decide_eq_false_iff_not]; exact fun q => HM.out (q k hlt)), rfl⟩
    · obtain rfl : k = n := by omega
      go_wp2_with fail
      go_ret
      exact ⟨ret_bool (by unfold allB; symm; rw [decide_eq_true_eq]; exact HA.out), rfl⟩

theorem ofWeak_in {n : Nat} {x : Nat → Int} (h : allB ofWeak x n = true) : ∀ j, j < n → inS (x j) ∨ x j = 12 := fun i hi => by
  have := memB_iff.1 (allB_get h hi)
  unfold ofWeak at this
  simp only [List.mem_cons, List.not_mem_nil, or_false] at this
  unfold inS; omega
theorem ofWeak_ok {n : Nat} {x : Nat → Int} (h : allB ofWeak x n = true) : ∀ i, i < n → clsOk (x i) := fun i hi => by
  have := ofWeak_in h i hi
  unfold inS at this
  unfold clsOk; omega

/-- Numbers while they are changed in place. -/
structure IS (wA : World) (B q cap n : Nat) (F : Nat → Int) (wx : World) : Prop where
  kept : Kp (fun k => k = q) wA wx
  types : Gr wx B 3 (.slice (some ⟨q, 0, none⟩) n cap) n (fun i => .int .i64 (F i))

section
variable {wA wx wy : World} {B q cap n : Nat} {F G : Nat → Int}
theorem IS.congr (h : IS wA B q cap n F wx) (e : ∀ i, i < n → F i = G i) : IS wA B q cap n G wx := ⟨h.kept, h.types.congr (fun i hi => by rw [e i hi])⟩
theorem IS.since (h : IS wA B q cap n F wx) (s : wx.Since wx.heap.size wy) : IS wA B q cap n F wy := ⟨h.kept.call s, h.types.since s⟩
theorem IS.set (h : IS wA B q cap n F wx) (k : Nat) (v : Int) (e : ∀ i, i < n → (if i = k then v else F i) = G i) : IS wA B q cap n G (wx.setCell ⟨q, k, none⟩ (.int .i64 v)) :=
  ⟨h.kept.setCell (a := ⟨q, k, none⟩) (.inl rfl) _, (h.types.set k (.int .i64 v)).congr (fun i hi => by rw [← e i hi]; split <;> rfl)⟩
theorem IS.drewN (h : IS wA B q cap n F wx) (m : Nat) : IS wA B q cap n F (wx.drewN m) := ⟨h.kept.drewN m, h.types⟩
theorem IS.cell (h : IS wA B q cap n F wx) {k : Nat} (hk : k < n) : wx.cell? ⟨q, k, none⟩ = some (.int .i64 (F k)) := h.types.cell hk
theorem IS.start (h : Gr wx B 3 (.slice (some ⟨q, 0, none⟩) n cap) n (fun i => .int .i64 (F i))) : IS wx B q cap n F wx := ⟨Kp.refl _ _, h⟩
end

/-- What a function that changes numbers in place leaves. -/
def Turns (w : World) (B q cap n : Nat) (G : Nat → Int) (e : Ending) (w' : World) : Prop := e = .returned (.tuple #[]) ∧ IS w B q cap n G w'

set_option maxHeartbeats 1000000 in
theorem marks_any {B q cap n : Nat} {x : Nat → Int} {s : Int} (w : World) (hn : n ≤ 4294967296) (hs : s = 0 ∨ s = 1) (hg : Gr w B 3 (.slice (some ⟨q, 0, none⟩) n cap) n (fun i => .int .i64 (x i))) :
    Calls Tryd.prog 33 #[.slice (some ⟨q, 0, none⟩) n cap, .int .i64 s] w (Turns w B q cap n (w1S x s)) := by
  have hW0 := IS.start hg
  clear hg
  go_enter Tryd.func33, Tryd.ntmps33
  go_wp2_with fail
  go_loopg [8] n (fun g i wr => ∃ k : Nat, k ≤ n ∧ g = n - k ∧ i = .int .i64 k ∧ IS w B q cap n (mix k (w1S x s) x) wr)
  case atStart => exact ⟨0, by omega, rfl, rfl, hW0.congr (fun i _ => (mix_ge (by omega)).symm)⟩
  case round =>
    clear hW0
    obtain ⟨k, hk, rfl, rfl, hW⟩ := hrel
    by_cases hkn : k < n
    · have hkz : (k : Int) < (n : Int) := by omega
      have hc := hW.cell hkn
      rw [mix_ge (Nat.le_refl _)] at hc
      have hz := hW.types.frozen k
      by_cases h12 : x k = 12
      case neg =>
        have hb : (x k != 12) = true := by simp [h12]
        have hW' := hW.congr (G := mix (k + 1) (w1S x s) x) (fun i _ => (mix_same (show w1S x s k = x k by unfold w1S; rw [prS, if_neg h12]) i).symm)
        clear hW h12
        go_wp2_with fail
        go_roundg (n - (k + 1))
        case rel => exact ⟨k + 1, by omega, rfl, by go_num, hW'⟩
        case measure => omega
      have hb : (x k != 12) = false := by simp [h12]
      by_cases hk0 : k = 0
      · have hkb : ((k : Int) == 0) = true := by simp [hk0]
        have hW' := hW.set k s (G := mix (k + 1) (w1S x s) x) (fun i _ => by
          rw [mix_step, show w1S x s k = s by unfold w1S; subst hk0; rw [prS, if_pos h12, prS, if_neg (by omega)]])
        clear hW h12 hk0
        go_wp2_with fail
        go_roundg (n - (k + 1))
        case rel => exact ⟨k + 1, by omega, rfl, by go_num, hW'⟩
        case measure => omega
      have hkb : ((k : Int) == 0) = false := by simp [hk0]
      have hk1 : (1 : Int) ≤ (k : Int) := by omega
      have hcu := hW.cell (k := k - 1) (by omega)
      rw [mix_lt (by omega)] at hcu
      have hst : w1S x s k = if 19 ≤ w1S x s (k - 1) ∧ w1S x s (k - 1) ≤ 22 then 10 else w1S x s (k - 1) := by
        obtain ⟨r, rfl⟩ : ∃ r, k = r + 1 := ⟨k - 1, by omega⟩
        unfold w1S; rw [prS, if_pos h12]; rfl
      obtain ⟨u, hu⟩ : ∃ u, u = w1S x s (k - 1) := ⟨_, rfl⟩
      rw [← hu] at hcu hst
      have HST := Lib.hid hst
      clear hst hu h12
      go_wp2_with fail
      refine (isInitiator_any _ _).mono ?_
      rintro e w1 ⟨rfl, rfl⟩
      by_cases hi : iniB u = true
      · rw [hi]
        have hi2 : u = 19 ∨ u = 20 ∨ u = 21 := by unfold iniB at hi; exact of_decide_eq_true hi
        have hW' := hW.set k 10 (G := mix (k + 1) (w1S x s) x) (fun i _ => by rw [mix_step, show w1S x s k = 10 by rw [HST.out, if_pos (by omega)]])
        clear hW hi hi2
        go_wp2_with fail
        go_roundg (n - (k + 1))
        case rel => exact ⟨k + 1, by omega, rfl, by go_num, hW'⟩
        case measure => omega
      · have hi' : iniB u = false := by simpa using hi
        rw [hi']
        have hi2 : ¬ (u = 19 ∨ u = 20 ∨ u = 21) := by unfold iniB at hi'; exact of_decide_eq_false hi'
        by_cases h22 : u = 22
        · have hb22 : (u == 22) = true := by simp [h22]
          have hW' := hW.set k 10 (G := mix (k + 1) (w1S x s) x) (fun i _ => by rw [mix_step, show w1S x s k = 10 by rw [HST.out, if_pos (by omega)]])
          clear hW hi hi2 hi' h22
          go_wp2_with fail
          go_roundg (n - (k + 1))
          case rel => exact ⟨k + 1, by omega, rfl, by go_num, hW'⟩
          case measure => omega
        · have hb22 : (u == 22) = false := by simp [h22]
          have hW' := hW.set k u (G := mix (k + 1) (w1S x s) x) (fun i _ => by rw [mix_step, show w1S x s k = u by rw [HST.out, if_neg (by omega)]])
          clear hW hi hi2 hi' h22
          go_wp2_with fail
          go_roundg (n - (k + 1))
          case rel => exact ⟨k + 1, by omega, rfl, by go_num, hW'⟩
          case measure => omega
    · obtain rfl : k = n := by omega
      go_wp2_with fail
      go_end0
      exact ⟨rfl, hW.congr (fun i hi => mix_lt hi)⟩

set_option maxHeartbeats 1000000 in
theorem strongBefore_any {ao : Option Addr} {b o n cc k : Nat} {f : Nat → Int} {s : Int} (w : World) (hn : n ≤ 4294967296) (hk : k ≤ n) (hx : Sees w ao b o n cc (fun i => .int .i64 (f i))) :
    Calls Tryd.prog 43 #[.slice ao n cc, .int .i64 k, .int .i64 s] w fun e w' => e = .returned (.int .i64 (sb f s k)) ∧ w = w' := by
  go_enter Tryd.func43, Tryd.ntmps43
  go_wp2_with fail
  go_loopg [7] k (fun g i wx => ∃ m : Nat, m ≤ k ∧ g = m ∧ i = .int .i64 ((m : Int) - 1) ∧ Hid (sb f s k = sb f s m) ∧ w = wx)
  case atStart => exact ⟨k, Nat.le_refl _, rfl, rfl, rfl, rfl⟩
  case round =>
    obtain ⟨m, hm, hgm, rfl, HA, rfl⟩ := hrel
    cases m with
    | zero =>
      go_wp2_with fail
      go_ret
      exact ⟨by rw [HA.out]; rfl, rfl⟩
    | succ r =>
      rw [show ((r + 1 : Nat) : Int) - 1 = (r : Int) by omega]
      obtain ⟨rfl, hcr⟩ := hx.get (i := r) (by omega)
      have hst : sb f s k = if f r = 0 ∨ f r = 1 ∨ f r = 13 then f r else sb f s r := HA.out
      obtain ⟨u, hu⟩ : ∃ u, u = f r := ⟨_, rfl⟩
      rw [← hu] at hcr hst
      have HST := Lib.hid hst
      clear hst hu
      by_cases u0 : u = 0
      · have bu0 : (u == 0) = true := by simp [u0]
        have HB := Lib.hid (show sb f s k = u by rw [HST.out, if_pos (.inl u0)])
        clear u0
        go_wp2_with fail
        go_ret
        exact ⟨by rw [HB.out]; rfl, rfl⟩
      · have bu0 : (u == 0) = false := by simp [u0]
        by_cases u1 : u = 1
        · have bu1 : (u == 1) = true := by simp [u1]
          have HB := Lib.hid (show sb f s k = u by rw [HST.out, if_pos (.inr (.inl u1))])
          clear u0 u1
          go_wp2_with fail
          go_ret
          exact ⟨by rw [HB.out]; rfl, rfl⟩
        · have bu1 : (u == 1) = false := by simp [u1]
          by_cases u13 : u = 13
          · have bu13 : (u == 13) = true := by simp [u13]
            have HB := Lib.hid (show sb f s k = u by rw [HST.out, if_pos (.inr (.inr u13))])
            clear u0 u1 u13
            go_wp2_with fail
            go_ret
            exact ⟨by rw [HB.out]; rfl, rfl⟩
          · have bu13 : (u == 13) = false := by simp [u13]
            have HB := Lib.hid (show sb f s k = sb f s r by rw [HST.out, if_neg (by omega)])
            clear u0 u1 u13
            go_wp2_with fail
            go_roundg r
            case rel => exact ⟨r, by omega, rfl, by go_num, HB.out, rfl⟩
            case measure => omega

set_option maxHeartbeats 2000000 in
theorem arabic_any {B q cap n : Nat} {f : Nat → Int} {s : Int} (w : World) (hn : n ≤ 4294967296) (h0 : 0 < n) (hg : Gr w B 3 (.slice (some ⟨q, 0, none⟩) n cap) n (fun i => .int .i64 (f i))) :
    Calls Tryd.prog 34 #[.slice (some ⟨q, 0, none⟩) n cap, .int .i64 s] w (Turns w B q cap n (w3 (w2 f s))) := by
  have hWn := IS.start hg
  clear hg
  go_enter Tryd.func34, Tryd.ntmps34
  go_upto_block 0 with fail
  go_cut [] (fun wx => IS w B q cap n (w2 f s) wx)
  case first =>
    go_wp2_with fail
    go_loopg [10] n (fun g i wr => ∃ k : Nat, k ≤ n ∧ g = n - k ∧ i = .int .i64 k ∧ IS w B q cap n (mix k (w2 f s) f) wr)
    case atStart => exact ⟨0, by omega, rfl, rfl, hWn.congr (fun i _ => (mix_ge (by omega)).symm)⟩
    case round =>
      clear hWn
      obtain ⟨k, hk, rfl, rfl, hW⟩ := hrel
      by_cases hkn : k < n
      · have hkz : (k : Int) < (n : Int) := by omega
        have hc := hW.cell hkn
        rw [mix_ge (Nat.le_refl _)] at hc
        have hz := hW.types.frozen k
        by_cases h2 : f k = 2
        · have hb : (f k == 2) = true := by simp [h2]
          have hsees := hW.types.sees' h0
          have hsb : sb (mix k (w2 f s) f) s k = sb f s k := by rw [sb_mix k (Nat.le_refl _), sb_w2]
          have HSB := Lib.hid hsb
          clear hsb
          go_wp2_with fail
          refine (strongBefore_any _ hn hk hsees).mono ?_
          rintro e w1 ⟨rfl, rfl⟩
          rw [HSB.out]
          clear hsees HSB
          obtain ⟨u, hu⟩ : ∃ u, u = sb f s k := ⟨_, rfl⟩
          rw [← hu]
          by_cases hq : u = 13
          · have hbq : (u == 13) = true := by simp [hq]
            have hW' := hW.set k 5 (G := mix (k + 1) (w2 f s) f) (fun i _ => by
              rw [mix_step, show w2 f s k = 5 by unfold w2; rw [if_pos ⟨h2, by rw [← hu]; exact hq⟩]])
            clear hW h2 hu hq
            go_wp2_with fail
            go_roundg (n - (k + 1))
            case rel => exact ⟨k + 1, by omega, rfl, by go_num, hW'⟩
            case measure => omega
          · have hbq : (u == 13) = false := by simp [hq]
            have hW' := hW.congr (G := mix (k + 1) (w2 f s) f) (fun i _ => (mix_same (show w2 f s k = f k by
              unfold w2; rw [if_neg (fun z => hq (by rw [hu]; exact z.2))]) i).symm)
            clear hW h2 hu hq
            go_wp2_with fail
            go_roundg (n - (k + 1))
            case rel => exact ⟨k + 1, by omega, rfl, by go_num, hW'⟩
            case measure => omega
        · have hb : (f k == 2) = false := by simp [h2]
          have hW' := hW.congr (G := mix (k + 1) (w2 f s) f) (fun i _ => (mix_same (show w2 f s k = f k by
            unfold w2; rw [if_neg (fun z => h2 z.1)]) i).symm)
          clear hW h2
          go_wp2_with fail
          go_roundg (n - (k + 1))
          case rel => exact ⟨k + 1, by omega, rfl, by go_num, hW'⟩
          case measure => omega
      · obtain rfl : k = n := by omega
        go_wp2_with fail
        go_meet
        exact hW.congr (fun i hi => mix_lt hi)
  clear hWn
  have hWn := hcut
  clear hcut
  obtain ⟨f2, hf2⟩ : ∃ f2, f2 = w2 f s := ⟨_, rfl⟩
  rw [← hf2] at hWn
  have HF2 := Lib.hid hf2
  clear hf2
  go_wp2_with fail
  go_loopg [30] n (fun g i wr => ∃ k : Nat, k ≤ n ∧ g = n - k ∧ i = .int .i64 k ∧ IS w B q cap n (mix k (w3 f2) f2) wr)
  case atStart => exact ⟨0, by omega, rfl, rfl, hWn.congr (fun i _ => (mix_ge (by omega)).symm)⟩
  case round =>
    clear hWn
    obtain ⟨k, hk, rfl, rfl, hW⟩ := hrel
    by_cases hkn : k < n
    · have hkz : (k : Int) < (n : Int) := by omega
      have hc := hW.cell hkn
      rw [mix_ge (Nat.le_refl _)] at hc
      have hz := hW.types.frozen k
      by_cases h2 : f2 k = 13
      · have hb : (f2 k == 13) = true := by simp [h2]
        have hW' := hW.set k 1 (G := mix (k + 1) (w3 f2) f2) (fun i _ => by
          rw [mix_step, show w3 f2 k = 1 by unfold w3; rw [if_pos h2]])
        clear hW h2
        go_wp2_with fail
        go_roundg (n - (k + 1))
        case rel => exact ⟨k + 1, by omega, rfl, by go_num, hW'⟩
        case measure => omega
      · have hb : (f2 k == 13) = false := by simp [h2]
        have hW' := hW.congr (G := mix (k + 1) (w3 f2) f2) (fun i _ => (mix_same (show w3 f2 k = f2 k by unfold w3; rw [if_neg h2]) i).symm)
        clear hW h2
        go_wp2_with fail
        go_roundg (n - (k + 1))
        case rel => exact ⟨k + 1, by omega, rfl, by go_num, hW'⟩
        case measure => omega
    · obtain rfl : k = n := by omega
      go_wp2_with fail
      go_end0
      exact ⟨rfl, hW.congr (fun i hi => by rw [mix_lt hi, HF2.out])⟩

set_option maxHeartbeats 2000000 in
theorem others_any {B q cap n : Nat} {f : Nat → Int} {s : Int} (w : World) (hn : n ≤ 4294967296) (h0 : 0 < n) (hg : Gr w B 3 (.slice (some ⟨q, 0, none⟩) n cap) n (fun i => .int .i64 (f i))) :
    Calls Tryd.prog 37 #[.slice (some ⟨q, 0, none⟩) n cap, .int .i64 s] w (Turns w B q cap n (w7 (w6 f) s)) := by
  have hWn := IS.start hg
  clear hg
  go_enter Tryd.func37, Tryd.ntmps37
  go_upto_block 0 with fail
  go_cut [] (fun wx => IS w B q cap n (w6 f) wx)
  case first =>
    go_wp2_with fail
    go_loopg [10] n (fun g i wr => ∃ k : Nat, k ≤ n ∧ g = n - k ∧ i = .int .i64 k ∧ IS w B q cap n (mix k (w6 f) f) wr)
    case atStart => exact ⟨0, by omega, rfl, rfl, hWn.congr (fun i _ => (mix_ge (by omega)).symm)⟩
    case round =>
      clear hWn
      obtain ⟨k, hk, rfl, rfl, hW⟩ := hrel
      by_cases hkn : k < n
      · have hkz : (k : Int) < (n : Int) := by omega
        have hc := hW.cell hkn
        rw [mix_ge (Nat.le_refl _)] at hc
        have hz := hW.types.frozen k
        by_cases hany : f k = 3 ∨ f k = 4 ∨ f k = 6
        · have hW' := hW.set k 10 (G := mix (k + 1) (w6 f) f) (fun i _ => by
            rw [mix_step, show w6 f k = 10 by unfold w6; rw [if_pos hany]])
          clear hW
          rcases hany with h3 | h4 | h6
          · have hb : (f k == 3) = true := by simp [h3]
            clear h3
            go_wp2_with fail
            go_roundg (n - (k + 1))
            case rel => exact ⟨k + 1, by omega, rfl, by go_num, hW'⟩
            case measure => omega
          · have hb3 : (f k == 3) = false := by simp [h4]
            have hb : (f k == 4) = true := by simp [h4]
            clear h4
            go_wp2_with fail
            go_roundg (n - (k + 1))
            case rel => exact ⟨k + 1, by omega, rfl, by go_num, hW'⟩
            case measure => omega
          · have hb3 : (f k == 3) = false := by simp [h6]
            have hb4 : (f k == 4) = false := by simp [h6]
            have hb : (f k == 6) = true := by simp [h6]
            clear h6
            go_wp2_with fail
            go_roundg (n - (k + 1))
            case rel => exact ⟨k + 1, by omega, rfl, by go_num, hW'⟩
            case measure => omega
        · have hb3 : (f k == 3) = false := by simp; omega
          have hb4 : (f k == 4) = false := by simp; omega
          have hb6 : (f k == 6) = false := by simp; omega
          have hW' := hW.congr (G := mix (k + 1) (w6 f) f) (fun i _ => (mix_same (show w6 f k = f k by unfold w6; rw [if_neg hany]) i).symm)
          clear hW hany
          go_wp2_with fail
          go_roundg (n - (k + 1))
          case rel => exact ⟨k + 1, by omega, rfl, by go_num, hW'⟩
          case measure => omega
      · obtain rfl : k = n := by omega
        go_wp2_with fail
        go_meet
        exact hW.congr (fun i hi => mix_lt hi)
  clear hWn
  have hWn := hcut
  clear hcut
  obtain ⟨f6, hf6⟩ : ∃ f6, f6 = w6 f := ⟨_, rfl⟩
  rw [← hf6] at hWn
  have HF6 := Lib.hid hf6
  clear hf6
  go_wp2_with fail
  go_loopg [31] n (fun g i wr => ∃ k : Nat, k ≤ n ∧ g = n - k ∧ i = .int .i64 k ∧ IS w B q cap n (mix k (w7 f6 s) f6) wr)
  case atStart => exact ⟨0, by omega, rfl, rfl, hWn.congr (fun i _ => (mix_ge (by omega)).symm)⟩
  case round =>
    clear hWn
    obtain ⟨k, hk, rfl, rfl, hW⟩ := hrel
    by_cases hkn : k < n
    · have hkz : (k : Int) < (n : Int) := by omega
      have hc := hW.cell hkn
      rw [mix_ge (Nat.le_refl _)] at hc
      have hz := hW.types.frozen k
      by_cases h2 : f6 k = 2
      · have hb : (f6 k == 2) = true := by simp [h2]
        have hsees := hW.types.sees' h0
        have hsb : sb (mix k (w7 f6 s) f6) s k = sb f6 s k := by rw [sb_mix k (Nat.le_refl _), sb_w7]
        have HSB := Lib.hid hsb
        clear hsb
        go_wp2_with fail
        refine (strongBefore_any _ hn hk hsees).mono ?_
        rintro e w1 ⟨rfl, rfl⟩
        rw [HSB.out]
        clear hsees HSB
        obtain ⟨u, hu⟩ : ∃ u, u = sb f6 s k := ⟨_, rfl⟩
        rw [← hu]
        by_cases hq : u = 0
        · have hbq : (u == 0) = true := by simp [hq]
          have hW' := hW.set k 0 (G := mix (k + 1) (w7 f6 s) f6) (fun i _ => by
            rw [mix_step, show w7 f6 s k = 0 by unfold w7; rw [if_pos ⟨h2, by rw [← hu]; exact hq⟩]])
          clear hW h2 hu hq
          go_wp2_with fail
          go_roundg (n - (k + 1))
          case rel => exact ⟨k + 1, by omega, rfl, by go_num, hW'⟩
          case measure => omega
        · have hbq : (u == 0) = false := by simp [hq]
          have hW' := hW.congr (G := mix (k + 1) (w7 f6 s) f6) (fun i _ => (mix_same (show w7 f6 s k = f6 k by
            unfold w7; rw [if_neg (fun z => hq (by rw [hu]; exact z.2))]) i).symm)
          clear hW h2 hu hq
          go_wp2_with fail
          go_roundg (n - (k + 1))
          case rel => exact ⟨k + 1, by omega, rfl, by go_num, hW'⟩
          case measure => omega
      · have hb : (f6 k == 2) = false := by simp [h2]
        have hW' := hW.congr (G := mix (k + 1) (w7 f6 s) f6) (fun i _ => (mix_same (show w7 f6 s k = f6 k by
          unfold w7; rw [if_neg (fun z => h2 z.1)]) i).symm)
        clear hW h2
        go_wp2_with fail
        go_roundg (n - (k + 1))
        case rel => exact ⟨k + 1, by omega, rfl, by go_num, hW'⟩
        case measure => omega
    · obtain rfl : k = n := by omega
      go_wp2_with fail
      go_end0
      exact ⟨rfl, hW.congr (fun i hi => by rw [mix_lt hi, HF6.out])⟩

set_option maxHeartbeats 2000000 in
theorem separators_any {B q cap n : Nat} {f : Nat → Int} (w : World) (hn : n ≤ 4294967296) (h0 : 0 < n) (hg : Gr w B 3 (.slice (some ⟨q, 0, none⟩) n cap) n (fun i => .int .i64 (f i))) :
    Calls Tryd.prog 35 #[.slice (some ⟨q, 0, none⟩) n cap] w (Turns w B q cap n (w4 n f)) := by
  have hWn := IS.start hg
  clear hg
  go_enter Tryd.func35, Tryd.ntmps35
  go_wp2_with fail
  go_loopg [2] (n - 1) (fun g i wr => ∃ k : Nat, 1 ≤ k ∧ k ≤ n ∧ g = n - k ∧ i = .int .i64 k ∧ IS w B q cap n (mix k (w4 n f) f) wr)
  case atStart => exact ⟨1, by omega, by omega, rfl, rfl, hWn.congr (fun i _ => by rw [show mix 1 (w4 n f) f i = mix 0 (w4 n f) f i from mix_same (k := 0) (g := w4 n f) (f := f) rfl i, mix_ge (by omega)])⟩
  case round =>
    clear hWn
    obtain ⟨k, hk1, hk, rfl, rfl, hW⟩ := hrel
    have hk1z : (1 : Int) ≤ (k : Int) := by omega
    by_cases hkn : k + 1 < n
    · have hkz : (k : Int) + 1 < (n : Int) := by omega
      have hc := hW.cell (k := k) (by omega)
      rw [mix_ge (Nat.le_refl _)] at hc
      have hca := hW.cell (k := k - 1) (by omega)
      rw [mix_lt (by omega)] at hca
      have hcb := hW.cell (k := k + 1) (by omega)
      rw [mix_ge (by omega)] at hcb
      have hst : w4 n f k = st4 (w4 n f (k - 1)) (f k) (f (k + 1)) := by
        obtain ⟨r, rfl⟩ : ∃ r, k = r + 1 := ⟨k - 1, by omega⟩
        rw [w4, if_pos (by omega)]; rfl
      obtain ⟨v, hv⟩ : ∃ v, v = f k := ⟨_, rfl⟩
      obtain ⟨a, ha⟩ : ∃ a, a = w4 n f (k - 1) := ⟨_, rfl⟩
      obtain ⟨b, hb⟩ : ∃ b, b = f (k + 1) := ⟨_, rfl⟩
      rw [← hv, ← ha, ← hb] at hst
      rw [← hv] at hc
      rw [← ha] at hca
      rw [← hb] at hcb
      have HV := Lib.hid hv
      have HST := Lib.hid hst
      clear hv ha hb hst
      have hi1 : (k : Int) - 1 < (n : Int) := by omega
      have hi2 : (0 : Int) ≤ (k : Int) - 1 := by omega
      have hi4 : (k : Int) < (n : Int) := by omega
      go_upto_block 1 with fail
      go_cut [] (fun wx => IS w B q cap n (mix (k + 1) (w4 n f) f) wx)
      case first =>
        go_upto_region 3 with fail
        go_cut [3, 4] (fun x y wx => x = .int .i64 a ∧ y = .int .i64 b ∧ IS w B q cap n (mix k (w4 n f) f) wx)
        case first =>
          go_quiet (fail)
          go_wp2_with fail
          go_meet
          exact ⟨rfl, rfl, hW.drewN _⟩
        clear hW hc hca hcb
        obtain ⟨rfl, rfl, hW⟩ := hcut
        have hc := hW.cell (k := k) (by omega)
        rw [mix_ge (Nat.le_refl _), ← HV.out] at hc
        have hz := hW.types.frozen k
        by_cases hab : a = b
        case neg =>
          have bab : (a != b) = true := by simp [hab]
          have hW' := hW.congr (G := mix (k + 1) (w4 n f) f) (fun i _ => (mix_same (show w4 n f k = f k by rw [HST.out, ← HV.out]; unfold st4; rw [if_neg (by omega), if_neg (by omega)]) i).symm)
          clear hW hab
          go_wp2_with fail
          go_meet
          exact hW'
        subst hab
        have bab : (a != a) = false := by simp
        by_cases h3 : v = 3
        · have b3 : (v == 3) = true := by simp [h3]
          have b6 : (v == 6) = false := by simp [h3]
          by_cases a2 : a = 2
          · have ba : (a == 2) = true := by simp [a2]
            have hW' := hW.set k 2 (G := mix (k + 1) (w4 n f) f) (fun i _ => by rw [mix_step, show w4 n f k = 2 by rw [HST.out]; unfold st4; rw [if_pos (by omega)]])
            clear hW
            go_wp2_with fail
            go_meet
            exact hW'
          · have ba : (a == 2) = false := by simp [a2]
            have hW' := hW.congr (G := mix (k + 1) (w4 n f) f) (fun i _ => (mix_same (show w4 n f k = f k by rw [HST.out, ← HV.out]; unfold st4; rw [if_neg (by omega), if_neg (by omega)]) i).symm)
            clear hW
            go_wp2_with fail
            go_meet
            exact hW'
        · have b3 : (v == 3) = false := by simp [h3]
          by_cases h6 : v = 6
          · have b6 : (v == 6) = true := by simp [h6]
            by_cases a2 : a = 2
            · have ba : (a == 2) = true := by simp [a2]
              have hW' := hW.set k 2 (G := mix (k + 1) (w4 n f) f) (fun i _ => by rw [mix_step, show w4 n f k = 2 by rw [HST.out]; unfold st4; rw [if_pos (by omega)]])
              clear hW
              go_wp2_with fail
              go_meet
              exact hW'
            · have ba : (a == 2) = false := by simp [a2]
              by_cases a5 : a = 5
              · have ba5 : (a == 5) = true := by simp [a5]
                have hW' := hW.set k 5 (G := mix (k + 1) (w4 n f) f) (fun i _ => by rw [mix_step, show w4 n f k = 5 by rw [HST.out]; unfold st4; rw [if_neg (by omega), if_pos (by omega)]])
                clear hW
                go_wp2_with fail
                go_meet
                exact hW'
              · have ba5 : (a == 5) = false := by simp [a5]
                have hW' := hW.congr (G := mix (k + 1) (w4 n f) f) (fun i _ => (mix_same (show w4 n f k = f k by rw [HST.out, ← HV.out]; unfold st4; rw [if_neg (by omega), if_neg (by omega)]) i).symm)
                clear hW
                go_wp2_with fail
                go_meet
                exact hW'
          · have b6 : (v == 6) = false := by simp [h6]
            have hW' := hW.congr (G := mix (k + 1) (w4 n f) f) (fun i _ => (mix_same (show w4 n f k = f k by rw [HST.out, ← HV.out]; unfold st4; rw [if_neg (by omega), if_neg (by omega)]) i).symm)
            clear hW
            go_wp2_with fail
            go_meet
            exact hW'
      clear hW hc hca hcb
      have hW := hcut
      clear hcut
      go_wp2_with fail
      go_roundg (n - (k + 1))
      case rel => exact ⟨k + 1, by omega, by omega, rfl, by go_num, hW⟩
      case measure => omega
    · have hkz : ¬ (k : Int) + 1 < (n : Int) := by omega
      have hkz2 : (n : Int) ≤ (k : Int) + 1 := by omega
      go_wp2_with fail
      go_end0
      exact ⟨rfl, hW.congr (fun i hi => by
        by_cases h : i < k
        · exact mix_lt h
        · rw [mix_ge (by omega), w4_last (by omega)])⟩

theorem termC_zero {n : Nat} {f : Nat → Int} : (0 < 0 → 0 < n → f 0 = 4 → f (0 - 1) ≠ 4) := fun h => absurd h (Nat.lt_irrefl _)

theorem chg_sides {n p : Nat} {f : Nat → Int} (hp : p < n) (h4 : f p = 4) (hC : 0 < p → p < n → f p = 4 → f (p - 1) ≠ 4) {E : Nat} (hE : E = nxt (ET f) (n - p) p) :
    chg n f p ↔ ((if p = 0 then (0 : Int) else f (p - 1)) = 2 ∨ (if E < n then f E else (0 : Int)) = 2) := by
  have hle := nxt_le (N := ET f) (n - p) p
  have hb := run_beh (n := n) (N := ET f) (st := f) (eos := 0) (i := p) (j := E) (by rw [hE]; exact nxt_ge _ _) (by omega) (fun r a b => nxt_in (N := ET f) (n - p) p r a (by rw [← hE]; exact b))
  have e1 : bef (ET f) f 0 p = if p = 0 then (0 : Int) else f (p - 1) := by
    by_cases z : p = 0
    · subst z; rw [if_pos rfl]; rfl
    · rw [if_neg z]
      have := hC (by omega) hp h4
      obtain ⟨r, rfl⟩ : ∃ r, p = r + 1 := ⟨p - 1, by omega⟩
      rw [Nat.add_sub_cancel] at this ⊢
      rw [bef_succ_not (N := ET f) (ET_not.2 this)]
  have e2 : beh (ET f) f 0 (n - p) p = if E < n then f E else (0 : Int) := by
    rw [hb]
    by_cases z : E < n
    · have := nxt_at (N := ET f) (n - p) p (by rw [← hE]; omega)
      rw [← hE] at this
      rw [if_pos z, beh_not (N := ET f) z this]
    · rw [if_neg z, beh_end (by omega)]
  unfold chg
  rw [e1, e2]
  exact ⟨fun h => h.2, fun h => ⟨h4, h⟩⟩

set_option maxHeartbeats 4000000 in
theorem terminators_any {B q cap n : Nat} {f : Nat → Int} (w : World) (hn : n ≤ 4294967296) (hg : Gr w B 3 (.slice (some ⟨q, 0, none⟩) n cap) n (fun i => .int .i64 (f i))) :
    Calls Tryd.prog 36 #[.slice (some ⟨q, 0, none⟩) n cap] w (Turns w B q cap n (w5 n f)) := by
  have hWn := IS.start hg
  clear hg
  go_enter Tryd.func36, Tryd.ntmps36
  go_wp2_with fail
  go_loopg [2] (n + 1) (fun g i wr => ∃ p : Nat, p ≤ n + 1 ∧ g = n + 1 - p ∧ i = .int .i64 p ∧ Hid (0 < p → p < n → f p = 4 → f (p - 1) ≠ 4) ∧ IS w B q cap n (mix p (w5 n f) f) wr)
  case atStart => exact ⟨0, by omega, rfl, rfl, termC_zero, hWn.congr (fun i _ => (mix_ge (by omega)).symm)⟩
  case round =>
    clear hWn
    obtain ⟨p, hp, rfl, rfl, HC, hW⟩ := hrel
    by_cases hpn : p < n
    case neg =>
      have hpz : (n : Int) ≤ (p : Int) := by omega
      go_wp2_with fail
      go_end0
      exact ⟨rfl, hW.congr (fun i hi => mix_lt (by omega))⟩
    have hpz : (p : Int) < (n : Int) := by omega
    obtain ⟨E0, hE⟩ : ∃ E0, E0 = nxt (ET f) (n - p) p := ⟨_, rfl⟩
    have hEp : p ≤ E0 := by rw [hE]; exact nxt_ge _ _
    have hEn : E0 ≤ n := by have := nxt_le (N := ET f) (n - p) p; omega
    have HE := Lib.hid hE
    clear hE
    go_upto_block 1 with fail
    go_cut [2] (fun i wx => ∃ E : Nat, p ≤ E ∧ E ≤ n ∧ i = .int .i64 E ∧ Hid (0 < E + 1 → E + 1 < n → f (E + 1) = 4 → f (E + 1 - 1) ≠ 4) ∧ IS w B q cap n (mix (E + 1) (w5 n f) f) wx)
    case first =>
      go_upto_block 2 with fail
      go_cut [3] (fun m wx => m = .int .i64 E0 ∧ wx = wr)
      case first =>
        go_wp2_with fail
        go_loopg [3] (n - p) (fun g i wx => ∃ m : Nat, p ≤ m ∧ m ≤ n ∧ g = n - m ∧ i = .int .i64 m ∧ Hid (E0 = nxt (ET f) (n - m) m) ∧ wx = wr)
        case atStart => exact ⟨p, by omega, by omega, rfl, rfl, HE.out, rfl⟩
        case round =>
          obtain ⟨m, hm1, hm2, rfl, rfl, HA, rfl⟩ := hrel
          by_cases hmn : m < n
          · have hmz : (m : Int) < (n : Int) := by omega
            have hc := hW.cell hmn
            rw [mix_ge hm1] at hc
            by_cases h4 : f m = 4
            · have b4 : (f m == 4) = true := by simp [h4]
              have HB := Lib.hid (HA.out.trans (nxt_neu (N := ET f) hmn (ET_iff.2 h4)))
              clear h4
              go_wp2_with fail
              go_roundg (n - (m + 1))
              case rel => exact ⟨m + 1, by omega, by omega, rfl, by go_num, HB.out, rfl⟩
              case measure => omega
            · have b4 : (f m == 4) = false := by simp [h4]
              have HB := Lib.hid (HA.out.trans (nxt_not (N := ET f) hmn (ET_not.2 h4)))
              clear h4
              go_wp2_with fail
              go_meet
              exact ⟨by rw [HB.out], rfl⟩
          · obtain rfl : m = n := by omega
            have hmz : (m : Int) ≤ (m : Int) := by omega
            have HB := Lib.hid (HA.out.trans (nxt_end (N := ET f) (Nat.le_refl _)))
            go_wp2_with fail
            go_meet
            exact ⟨by rw [HB.out], rfl⟩
      obtain ⟨rfl, rfl⟩ := hcut
      obtain ⟨wr, rfl⟩ : ∃ wr, wr = wc := ⟨_, rfl⟩
      by_cases hEq : E0 = p
      · have bE : ((E0 : Int) == (p : Int)) = true := by simp [hEq]
        have hf : f p ≠ 4 := by
          have := nxt_at (N := ET f) (n - p) p (by rw [← HE.out]; omega)
          rw [← HE.out, hEq] at this; exact ET_not.1 this
        have hW' := hW.congr (G := mix (p + 1) (w5 n f) f) (fun i _ => (mix_same (w5_not hf) i).symm)
        have HF := Lib.hid hf
        clear hW hf
        go_wp2_with fail
        go_meet
        exact ⟨p, Nat.le_refl _, by omega, rfl, fun _ _ _ => by rw [Nat.add_sub_cancel]; exact HF.out, hW'⟩
      have bE : ((E0 : Int) == (p : Int)) = false := by simp; omega
      have hEz : (p : Int) < (E0 : Int) := by omega
      have h4p : ∀ j, p ≤ j → j < E0 → f j = 4 := fun j a b => ET_iff.1 (nxt_in (N := ET f) (n - p) p j a (by rw [← HE.out]; exact b))
      have HCH := Lib.hid (chg_sides hpn (h4p p (Nat.le_refl _) (by omega)) HC.out HE.out)
      have HP := Lib.hid h4p
      have hpre : 0 < p → w5 n f (p - 1) = f (p - 1) := fun h => w5_not (HC.out h hpn (h4p p (Nat.le_refl _) (by omega)))
      have HPRE := Lib.hid hpre
      clear h4p hpre
      obtain ⟨bs, hbs⟩ : ∃ bs, bs = decide (chg n f p) := ⟨_, rfl⟩
      have HBS := Lib.hid hbs
      clear hbs
      go_upto_region 7 with fail
      go_cut [4] (fun b wx => b = .bool bs ∧ wx = wr)
      case first =>
        have HTR := HCH.out
        by_cases hp0 : p = 0
        · have hpb : ¬ (0 : Int) < (p : Int) := by omega
          have hpc : (p : Int) ≤ 0 := by omega
          rw [if_pos hp0] at HTR
          clear hp0
          by_cases hen : E0 < n
          · have hel : (E0 : Int) < (n : Int) := by omega
            have hce := hW.cell hen
            rw [mix_ge (by omega)] at hce
            by_cases h2 : f E0 = 2
            · have b2 : (f E0 == 2) = true := by simp [h2]
              rw [if_pos hen, h2] at HTR
              have HRR := Lib.hid (show bs = true by rw [HBS.out]; first | (rw [decide_eq_true_eq, HTR]; omega) | (rw [decide_eq_false_iff_not, HTR]; omega))
              go_wp2_with fail
              go_meet
              exact ⟨by rw [HRR.out], rfl⟩
            · have b2 : (f E0 == 2) = false := by simp [h2]
              rw [if_pos hen] at HTR
              have HRR := Lib.hid (show bs = false by rw [HBS.out]; first | (rw [decide_eq_true_eq, HTR]; omega) | (rw [decide_eq_false_iff_not, HTR]; omega))
              go_wp2_with fail
              go_meet
              exact ⟨by rw [HRR.out], rfl⟩
          · have hel : (n : Int) ≤ (E0 : Int) := by omega
            rw [if_neg hen] at HTR
            have HRR := Lib.hid (show bs = false by rw [HBS.out]; first | (rw [decide_eq_true_eq, HTR]; omega) | (rw [decide_eq_false_iff_not, HTR]; omega))
            go_wp2_with fail
            go_meet
            exact ⟨by rw [HRR.out], rfl⟩
        · have hpb : (0 : Int) < (p : Int) := by omega
          have hp1 : (1 : Int) ≤ (p : Int) := by omega
          rw [if_neg hp0] at HTR
          have hcp := hW.cell (k := p - 1) (by omega)
          rw [mix_lt (by omega), HPRE.out (by omega)] at hcp
          clear hp0
          by_cases a2 : f (p - 1) = 2
          · have ba2 : (f (p - 1) == 2) = true := by simp [a2]
            rw [a2] at HTR
            have HRR := Lib.hid (show bs = true by rw [HBS.out]; rw [decide_eq_true_eq, HTR]; exact .inl rfl)
            go_wp2_with fail
            go_meet
            exact ⟨by rw [HRR.out], rfl⟩
          · have ba2 : (f (p - 1) == 2) = false := by simp [a2]
            by_cases hen : E0 < n
            · have hel : (E0 : Int) < (n : Int) := by omega
              have hce := hW.cell hen
              rw [mix_ge (by omega)] at hce
              by_cases h2 : f E0 = 2
              · have b2 : (f E0 == 2) = true := by simp [h2]
                rw [if_pos hen, h2] at HTR
                have HRR := Lib.hid (show bs = true by rw [HBS.out]; first | (rw [decide_eq_true_eq, HTR]; omega) | (rw [decide_eq_false_iff_not, HTR]; omega))
                go_wp2_with fail
                go_meet
                exact ⟨by rw [HRR.out], rfl⟩
              · have b2 : (f E0 == 2) = false := by simp [h2]
                rw [if_pos hen] at HTR
                have HRR := Lib.hid (show bs = false by rw [HBS.out]; first | (rw [decide_eq_true_eq, HTR]; omega) | (rw [decide_eq_false_iff_not, HTR]; omega))
                go_wp2_with fail
                go_meet
                exact ⟨by rw [HRR.out], rfl⟩
            · have hel : (n : Int) ≤ (E0 : Int) := by omega
              rw [if_neg hen] at HTR
              have HRR := Lib.hid (show bs = false by rw [HBS.out]; first | (rw [decide_eq_true_eq, HTR]; omega) | (rw [decide_eq_false_iff_not, HTR]; omega))
              go_wp2_with fail
              go_meet
              exact ⟨by rw [HRR.out], rfl⟩
      obtain ⟨rfl, rfl⟩ := hcut
      obtain ⟨wr, rfl⟩ : ∃ wr, wr = wc := ⟨_, rfl⟩
      go_wp2_with fail
      go_loopg [2] (E0 - p) (fun g i wx => ∃ m : Nat, p ≤ m ∧ m ≤ E0 ∧ g = E0 - m ∧ i = .int .i64 m ∧ IS w B q cap n (mix m (w5 n f) f) wx)
      case atStart => exact ⟨p, by omega, by omega, rfl, rfl, hW⟩
      case round =>
        clear hW
        obtain ⟨m, hm1, hm2, rfl, rfl, hW⟩ := hrel
        by_cases hme : m < E0
        · have hmz : (m : Int) < (E0 : Int) := by omega
          have hmz2 : (m : Int) < (n : Int) := by omega
          have hc := hW.cell (k := m) (by omega)
          rw [mix_ge (Nat.le_refl _)] at hc
          have hz := hW.types.frozen m
          have hrun : chg n f p ↔ chg n f m := chg_run hm1 (by omega) (fun r a b => HP.out r a (by omega))
          by_cases hch : chg n f p
          · obtain rfl : bs = true := by rw [HBS.out]; exact decide_eq_true hch
            have hW' := hW.set m 2 (G := mix (m + 1) (w5 n f) f) (fun i _ => by
              rw [mix_step, show w5 n f m = 2 by unfold w5; rw [if_pos (hrun.1 hch)]])
            clear hW hrun hch
            go_wp2_with fail
            go_roundg (E0 - (m + 1))
            case rel => exact ⟨m + 1, by omega, by omega, rfl, by go_num, hW'⟩
            case measure => omega
          · obtain rfl : bs = false := by rw [HBS.out]; exact decide_eq_false hch
            have hW' := hW.congr (G := mix (m + 1) (w5 n f) f) (fun i _ => (mix_same (show w5 n f m = f m by
              unfold w5; rw [if_neg (fun z => hch (hrun.2 z))]) i).symm)
            clear hW hrun hch
            go_wp2_with fail
            go_roundg (E0 - (m + 1))
            case rel => exact ⟨m + 1, by omega, by omega, rfl, by go_num, hW'⟩
            case measure => omega
        · obtain rfl : m = E0 := by omega
          have hmz : (m : Int) ≤ (m : Int) := by omega
          have hfE : m < n → f m ≠ 4 := fun z => by
            have := nxt_at (N := ET f) (n - p) p (by rw [← HE.out]; omega)
            rw [← HE.out] at this; exact ET_not.1 this
          have hW' := hW.congr (G := mix (m + 1) (w5 n f) f) (fun i hi => by
            by_cases z : m < n
            · exact (mix_same (w5_not (hfE z)) i).symm
            · rw [mix_lt (by omega), mix_lt (by omega)])
          have HFE := Lib.hid hfE
          clear hW hfE
          go_wp2_with fail
          go_meet
          exact ⟨m, hm1, by omega, rfl, fun _ z _ => by rw [Nat.add_sub_cancel]; exact HFE.out (by omega), hW'⟩
    clear hW
    obtain ⟨E, hE1, hE2, rfl, HC', hW'⟩ := hcut
    go_wp2_with fail
    go_roundg (n + 1 - (E + 1))
    case rel => exact ⟨E + 1, by omega, rfl, by go_num, HC', hW'⟩
    case measure => omega

set_option maxHeartbeats 2000000 in
theorem specWeak_any {ao : Option Addr} {b o n c : Nat} {x : Nat → Int} {s : Int} (w : World) (hn : n ≤ 4294967296) (h0 : 0 < n) (hs : s = 0 ∨ s = 1) (hx : Sees w ao b o n c (fun i => .int .i64 (x i))) :
    Calls Tryd.prog 20 #[.slice ao n c, .int .i64 s] w (RetSees w n (fun i => .int .i64 (weakS n s x i))) := by
  have hsA : w.Since w.heap.size (w.alloc (.cells #[] 3)) := (World.Since.refl _ _).alloc (Nat.le_refl _) _
  have g1 := Gr.empty w w.heap.size 3 (fun _ => .int .i64 0) (Nat.le_refl _)
  have hx2 := hx.since hsA
  go_enter Tryd.func20, Tryd.ntmps20
  go_wp2_with (refine wpList_cat _ rfl (.tmp 6) (.tmp 7) 22 rfl w.heap.size 3 (.int .i64 0) 8 Tryd.underlying22 Tryd.infoInt rfl _ _ _ (by rfl) g1 (by rfl) hx2 (fun _ _ => rfl) (by omega) (by omega) (by simp) ?_)
  intro v2 w2 hg2 hgr2 _
  have hs2 : w.Since w.heap.size w2 := hsA.grown hgr2 (by simp) (by simp [Value.ownBlock])
  have hg2' : Gr w2 w.heap.size 3 v2 n (fun i => .int .i64 (x i)) := by first | exact hg2 | (rw [Nat.zero_add] at hg2; exact hg2.congr fun i _ => by simp)
  obtain ⟨q, cap, rfl, hq⟩ := hg2'.form h0
  clear g1 hsA hx2 hg2 hgr2 hx
  have hfin : ∀ w', Kp (fun k => k = q) w2 w' → w.Since w.heap.size w' := fun w' hk => ⟨hk.os.trans hs2.os, hk.tape.trans hs2.tape, hk.output.trans hs2.output, Nat.le_trans hs2.size hk.size, fun k hk' => (hk.block k (Nat.lt_of_lt_of_le hk' hs2.size) (by omega)).trans (hs2.block k hk')⟩
  have HFIN := Lib.hid hfin
  clear hfin
  go_wp2_with fail
  refine (marks_any _ hn hs hg2').mono ?_
  rintro e w3 ⟨rfl, h3⟩
  go_wp2_with fail
  refine (arabic_any _ hn h0 h3.types).mono ?_
  rintro e w4 ⟨rfl, h4⟩
  go_wp2_with fail
  refine (separators_any _ hn h0 h4.types).mono ?_
  rintro e w5' ⟨rfl, h5⟩
  go_wp2_with fail
  refine (terminators_any _ hn h5.types).mono ?_
  rintro e w6' ⟨rfl, h6⟩
  go_wp2_with fail
  refine (others_any _ hn h0 h6.types).mono ?_
  rintro e w7' ⟨rfl, h7⟩
  go_wp2_with fail
  go_ret
  exact ⟨_, q, 0, _, rfl, h7.types.sees' h0, hq, HFIN.out _ (h3.kept.trans (h4.kept.trans (h5.kept.trans (h6.kept.trans h7.kept))))⟩

set_option maxHeartbeats 2000000 in
theorem isWeak_any {ao : Option Addr} {b o n c : Nat} {ya : Nat → Int} {ao1 : Option Addr} {b1 o1 c1 : Nat} {yb : Nat → Int} {ao2 : Option Addr} {b2 o2 c2 : Nat} {x : Nat → Int} (w : World) (hn : n ≤ 4294967296)
    (ha : Sees w ao b o n c (fun i => .int .i64 (ya i))) (hb : Sees w ao1 b1 o1 n c1 (fun i => .int .i64 (yb i))) (hx : Sees w ao2 b2 o2 n c2 (fun i => .int .i64 (x i)))
    (h : ∀ i, i < n → ya i = yb i ∨ (x i = 12 ∧ yb i = 10 ∧ 19 ≤ ya i ∧ ya i ≤ 22)) :
    Calls Tryd.prog 19 #[.slice ao n c, .slice ao1 n c1, .slice ao2 n c2] w fun e w' => e = .returned (.bool true) ∧ w = w' := by
  have HH := Lib.hid h
  clear h
  have hbn : ((n : Int) != (n : Int)) = false := by simp
  go_enter Tryd.func19, Tryd.ntmps19
  go_wp2_with fail
  go_loopg [24] n (fun g i wr => ∃ k : Nat, k ≤ n ∧ g = n - k ∧ i = .int .i64 k ∧ w = wr)
  case atStart => exact ⟨0, by omega, rfl, rfl, rfl⟩
  case round =>
    clear hbn
    obtain ⟨k, hk, rfl, rfl, rfl⟩ := hrel
    by_cases hkn : k < n
    · have hkz : (k : Int) < (n : Int) := by omega
      obtain ⟨rfl, hca⟩ := ha.get hkn
      obtain ⟨rfl, hcb⟩ := hb.get hkn
      obtain ⟨rfl, hcx⟩ := hx.get hkn
      have hq := HH.out k hkn
      obtain ⟨u, hu⟩ : ∃ u, u = ya k := ⟨_, rfl⟩
      obtain ⟨v, hv⟩ : ∃ v, v = yb k := ⟨_, rfl⟩
      obtain ⟨z, hz⟩ : ∃ z, z = x k := ⟨_, rfl⟩
      rw [← hu] at hca
      rw [← hv] at hcb
      rw [← hz] at hcx
      rw [← hu, ← hv, ← hz] at hq
      clear hu hv hz
      by_cases h12 : z = 12
      · have b12 : (z == 12) = true := by simp [h12]
        by_cases h10 : v = 10
        · have b10 : (v == 10) = true := by simp [h10]
          go_wp2_with fail
          refine (isInitiator_any _ _).mono ?_
          rintro e w1 ⟨rfl, rfl⟩
          by_cases huv : u = v
          · have buv : (u != v) = false := by simp [huv]
            clear hq h12 h10 huv
            by_cases hi : iniB u = true
            · rw [hi]
              go_wp2_with fail
              go_roundg (n - (k + 1))
              case rel => exact ⟨k + 1, by omega, rfl, by go_num, rfl⟩
              case measure => omega
            · have hi' : iniB u = false := by simpa using hi
              rw [hi']
              go_wp2_with fail
              all_goals
                go_roundg (n - (k + 1))
                case rel => exact ⟨k + 1, by omega, rfl, by go_num, rfl⟩
                case measure => omega
          · have buv : (u != v) = true := by simp [huv]
            have hr : 19 ≤ u ∧ u ≤ 22 := by omega
            by_cases hi : iniB u = true
            · rw [hi]
              clear hq h12 h10 huv hr
              go_wp2_with fail
              go_roundg (n - (k + 1))
              case rel => exact ⟨k + 1, by omega, rfl, by go_num, rfl⟩
              case measure => omega
            · have hi' : iniB u = false := by simpa using hi
              rw [hi']
              have hi2 : ¬ (u = 19 ∨ u = 20 ∨ u = 21) := by unfold iniB at hi'; exact of_decide_eq_false hi'
              have h22 : (u == 22) = true := by simp; omega
              clear hq h12 h10 huv hr hi hi' hi2
              go_wp2_with fail
              go_roundg (n - (k + 1))
              case rel => exact ⟨k + 1, by omega, rfl, by go_num, rfl⟩
              case measure => omega
        · have b10 : (v == 10) = false := by simp [h10]
          have buv : (u != v) = false := by simp; omega
          clear hq h12 h10
          go_wp2_with fail
          go_roundg (n - (k + 1))
          case rel => exact ⟨k + 1, by omega, rfl, by go_num, rfl⟩
          case measure => omega
      · have b12 : (z == 12) = false := by simp [h12]
        have buv : (u != v) = false := by simp; omega
        clear hq h12
        go_wp2_with fail
        go_roundg (n - (k + 1))
        case rel => exact ⟨k + 1, by omega, rfl, by go_num, rfl⟩
        case measure => omega
    · obtain rfl : k = n := by omega
      go_wp2_with fail
      go_ret
      exact ⟨rfl, rfl⟩

end Go.Proofs.YtnbhkjalpcoccaaDoor
