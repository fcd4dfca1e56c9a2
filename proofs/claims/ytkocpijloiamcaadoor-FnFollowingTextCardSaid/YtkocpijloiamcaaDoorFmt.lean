/- laws.formats, laws.hasSides, laws.mirrored. -/
import Derived.Test.YtkocpijloiamcaaDoorJnM
import Derived.Test.YtkocpijloiamcaaDoorGC
import Derived.Test.YtkocpijloiamcaaDoorGE
import Derived.Deep.DeepCutAuto
import Derived.Deep.LoopGhost
namespace Go.Proofs.YtkocpijloiamcaaDoor
open Go.RowKit
set_option linter.unusedVariables false
set_option linter.unusedSimpArgs false

theorem fmtN_le (x : Nat → Int) : ∀ k, fmtN x k ≤ k
  | 0 => Nat.le_refl _
  | k + 1 => by have := fmtN_le x k; rw [fmtN]; split <;> omega

set_option maxHeartbeats 1000000 in
theorem formats_any {ao : Option Addr} {b o n c : Nat} {x : Nat → Int} (w : World) (hn : n ≤ 8589934592) (hx : Sees w ao b o n c (fun i => .int .i64 (x i))) :
    Calls Tryd.prog 19 #[.slice ao n c] w fun e w' => e = .returned (.int .i64 (fmtN x n)) ∧ w = w' := by
  go_enter Tryd.func19, Tryd.ntmps19
  go_wp2_with fail
  go_loopg [3, 5, 8] n (fun g s _ i wr => ∃ k : Nat, k ≤ n ∧ g = n - k ∧ i = .int .i64 k ∧ s = .int .i64 (fmtN x k) ∧ w = wr)
  case atStart => exact ⟨0, by omega, rfl, rfl, rfl, rfl⟩
  case round =>
    obtain ⟨k, hk, rfl, rfl, rfl, rfl⟩ := hrel
    by_cases hkn : k < n
    · have hkz : (k : Int) < (n : Int) := by omega
      obtain ⟨rfl, hc⟩ := hx.get hkn
      have hfl := fmtN_le x k
      have hst : fmtN x (k + 1) = fmtN x k + if fmtQ (x k) = true then 1 else 0 := rfl
      obtain ⟨t, htk⟩ : ∃ t, t = x k := ⟨_, rfl⟩
      rw [← htk] at hc hst
      obtain ⟨fv, hfv⟩ : ∃ fv, fv = fmtN x k := ⟨_, rfl⟩
      rw [← hfv] at hst hfl ⊢
      have HST := Lib.hid hst
      clear htk hfv hst
      have hfz : (fv : Int) ≤ 8589934592 := by omega
      go_upto_region 5 with fail
      go_cut [25] (fun v wx => v = .bool (fmtQ t) ∧ wx = w)
      case first =>
        by_cases hi : iniB t = true
        · have HF := Lib.hid (show fmtQ t = true by unfold iniB at hi; rw [decide_eq_true_eq] at hi; unfold fmtQ; rw [decide_eq_true_eq]; omega)
          have HI := Lib.hid hi
          clear hi
          go_wp2_with fail
          refine (isInitiator_any _ _).mono ?_
          rintro e w2 ⟨rfl, rfl⟩
          rw [HI.out]
          go_wp2_with fail
          go_meet
          exact ⟨by rw [HF.out], rfl⟩
        · have hi' : iniB t = false := by simpa using hi
          have hni : t ≠ 19 ∧ t ≠ 20 ∧ t ≠ 21 := by unfold iniB at hi'; rw [decide_eq_false_iff_not] at hi'; omega
          have HI := Lib.hid hi'
          clear hi hi'
          cases hr : remN t with
          | false =>
            have HR := Lib.hid hr
            have HF := Lib.hid (show fmtQ t = false by unfold remN at hr; rw [decide_eq_false_iff_not] at hr; unfold fmtQ; rw [decide_eq_false_iff_not]; omega)
            clear hr hni
            go_wp2_with fail
            refine (isInitiator_any _ _).mono ?_
            rintro e w2 ⟨rfl, rfl⟩
            rw [HI.out]
            go_wp2_with fail
            refine (isRemoved_any _ _).mono ?_
            rintro e w2 ⟨rfl, rfl⟩
            rw [HR.out]
            go_wp2_with fail
            go_meet
            exact ⟨by rw [HF.out], rfl⟩
          | true =>
            have HR := Lib.hid hr
            have hr2 : t = 14 ∨ t = 15 ∨ t = 16 ∨ t = 17 ∨ t = 18 ∨ t = 11 := by unfold remN at hr; rwa [decide_eq_true_eq] at hr
            have HFE := Lib.hid (show fmtQ t = (t != 11 && t != 18) by
              rw [Bool.eq_iff_iff, Bool.and_eq_true, bne_iff_ne, bne_iff_ne]
              unfold fmtQ; rw [decide_eq_true_eq]; omega)
            clear hr hni hr2
            cases h11 : (t != 11) with
            | false =>
              have H11 := Lib.hid h11
              go_wp2_with fail
              refine (isInitiator_any _ _).mono ?_
              rintro e w2 ⟨rfl, rfl⟩
              rw [HI.out]
              go_wp2_with fail
              refine (isRemoved_any _ _).mono ?_
              rintro e w2 ⟨rfl, rfl⟩
              rw [HR.out]
              go_wp2_with fail
              go_meet
              exact ⟨by rw [HFE.out, H11.out]; rfl, rfl⟩
            | true =>
              have H11 := Lib.hid h11
              cases h18 : (t != 18) with
              | false =>
                have H18 := Lib.hid h18
                go_wp2_with fail
                refine (isInitiator_any _ _).mono ?_
                rintro e w2 ⟨rfl, rfl⟩
                rw [HI.out]
                go_wp2_with fail
                refine (isRemoved_any _ _).mono ?_
                rintro e w2 ⟨rfl, rfl⟩
                rw [HR.out]
                go_wp2_with fail
                go_meet
                exact ⟨by rw [HFE.out, H11.out, H18.out]; rfl, rfl⟩
              | true =>
                have H18 := Lib.hid h18
                go_wp2_with fail
                refine (isInitiator_any _ _).mono ?_
                rintro e w2 ⟨rfl, rfl⟩
                rw [HI.out]
                go_wp2_with fail
                refine (isRemoved_any _ _).mono ?_
                rintro e w2 ⟨rfl, rfl⟩
                rw [HR.out]
                go_wp2_with fail
                go_meet
                exact ⟨by rw [HFE.out, H11.out, H18.out]; rfl, rfl⟩
      obtain ⟨rfl, rfl⟩ := hcut
      cases hf : fmtQ t with
      | true =>
        have HF := Lib.hid (HST.out.trans (by rw [hf, if_pos rfl]))
        clear hf
        go_wp2_with fail
        go_roundg (n - (k + 1))
        case rel => exact ⟨k + 1, by omega, rfl, by go_num, by rw [HF.out]; go_num, rfl⟩
        case measure => omega
      | false =>
        have HF := Lib.hid (HST.out.trans (by rw [hf, if_neg (by decide), Nat.add_zero]))
        clear hf
        go_wp2_with fail
        go_roundg (n - (k + 1))
        case rel => exact ⟨k + 1, by omega, rfl, by go_num, by rw [HF.out], rfl⟩
        case measure => omega
    · obtain rfl : k = n := by omega
      go_wp2_with fail
      go_ret
      exact ⟨rfl, rfl⟩

def hasB (v : Int) : Bool := decide (v ≠ 2 ∧ v ≠ 3 ∧ v ≠ 4 ∧ v ≠ 5 ∧ v ≠ 6 ∧ v ≠ 13 ∧ v ≠ 21)

theorem hasN_of {v : Int} (h : hasB v = true) : hasN v := by
  unfold hasB at h
  have h1 := of_decide_eq_true h
  unfold hasN
  exact h1

set_option maxHeartbeats 1000000 in
theorem hasSides_any (n : Int) (w : World) : Calls Tryd.prog 22 #[.int .i64 n] w fun e w' => e = .returned (.bool (hasB n)) ∧ w = w' := by
  by_cases h2 : n = 2
  · subst h2
    go_enter Tryd.func22, Tryd.ntmps22
    go_wp2_with fail
    go_ret
    exact ⟨rfl, rfl⟩
  have b2 : (n == 2) = false := beq_eq_false_iff_ne.2 h2
  by_cases h3 : n = 3
  · subst h3
    go_enter Tryd.func22, Tryd.ntmps22
    go_wp2_with fail
    go_ret
    exact ⟨rfl, rfl⟩
  have b3 : (n == 3) = false := beq_eq_false_iff_ne.2 h3
  by_cases h4 : n = 4
  · subst h4
    go_enter Tryd.func22, Tryd.ntmps22
    go_wp2_with fail
    go_ret
    exact ⟨rfl, rfl⟩
  have b4 : (n == 4) = false := beq_eq_false_iff_ne.2 h4
  by_cases h5 : n = 5
  · subst h5
    go_enter Tryd.func22, Tryd.ntmps22
    go_wp2_with fail
    go_ret
    exact ⟨rfl, rfl⟩
  have b5 : (n == 5) = false := beq_eq_false_iff_ne.2 h5
  by_cases h6 : n = 6
  · subst h6
    go_enter Tryd.func22, Tryd.ntmps22
    go_wp2_with fail
    go_ret
    exact ⟨rfl, rfl⟩
  have b6 : (n == 6) = false := beq_eq_false_iff_ne.2 h6
  by_cases h13 : n = 13
  · subst h13
    go_enter Tryd.func22, Tryd.ntmps22
    go_wp2_with fail
    go_ret
    exact ⟨rfl, rfl⟩
  have b13 : (n == 13) = false := beq_eq_false_iff_ne.2 h13
  by_cases h21 : n = 21
  · subst h21
    go_enter Tryd.func22, Tryd.ntmps22
    go_wp2_with fail
    go_ret
    exact ⟨rfl, rfl⟩
  have b21 : (n == 21) = false := beq_eq_false_iff_ne.2 h21
  have HE : hasB n = true := decide_eq_true ⟨h2, h3, h4, h5, h6, h13, h21⟩
  rw [HE]
  clear HE h2 h3 h4 h5 h6 h13 h21
  go_enter Tryd.func22, Tryd.ntmps22
  go_wp2_with fail
  go_ret
  exact ⟨rfl, rfl⟩

set_option maxHeartbeats 1000000 in
theorem mirroredW_any (n : Int) (w : World) : Calls Tryd.prog 23 #[.int .i64 n] w fun e w' => e = .returned (.int .i64 (mirN n)) ∧ w = w' := by
  by_cases h0 : n = 0
  · subst h0
    go_enter Tryd.func23, Tryd.ntmps23
    go_wp2_with fail
    go_ret
    exact ⟨rfl, rfl⟩
  have b0 : (n == 0) = false := beq_eq_false_iff_ne.2 h0
  by_cases h1 : n = 1
  · subst h1
    go_enter Tryd.func23, Tryd.ntmps23
    go_wp2_with fail
    go_ret
    exact ⟨rfl, rfl⟩
  have b1 : (n == 1) = false := beq_eq_false_iff_ne.2 h1
  by_cases h16 : n = 16
  · subst h16
    go_enter Tryd.func23, Tryd.ntmps23
    go_wp2_with fail
    go_ret
    exact ⟨rfl, rfl⟩
  have b16 : (n == 16) = false := beq_eq_false_iff_ne.2 h16
  by_cases h17 : n = 17
  · subst h17
    go_enter Tryd.func23, Tryd.ntmps23
    go_wp2_with fail
    go_ret
    exact ⟨rfl, rfl⟩
  have b17 : (n == 17) = false := beq_eq_false_iff_ne.2 h17
  by_cases h14 : n = 14
  · subst h14
    go_enter Tryd.func23, Tryd.ntmps23
    go_wp2_with fail
    go_ret
    exact ⟨rfl, rfl⟩
  have b14 : (n == 14) = false := beq_eq_false_iff_ne.2 h14
  by_cases h15 : n = 15
  · subst h15
    go_enter Tryd.func23, Tryd.ntmps23
    go_wp2_with fail
    go_ret
    exact ⟨rfl, rfl⟩
  have b15 : (n == 15) = false := beq_eq_false_iff_ne.2 h15
  by_cases h19 : n = 19
  · subst h19
    go_enter Tryd.func23, Tryd.ntmps23
    go_wp2_with fail
    go_ret
    exact ⟨rfl, rfl⟩
  have b19 : (n == 19) = false := beq_eq_false_iff_ne.2 h19
  by_cases h20 : n = 20
  · subst h20
    go_enter Tryd.func23, Tryd.ntmps23
    go_wp2_with fail
    go_ret
    exact ⟨rfl, rfl⟩
  have b20 : (n == 20) = false := beq_eq_false_iff_ne.2 h20
  have HE : mirN n = n := by unfold mirN; rw [if_neg h0, if_neg h1, if_neg h16, if_neg h17, if_neg h14, if_neg h15, if_neg h19, if_neg h20]
  rw [HE]
  clear HE h0 h1 h16 h17 h14 h15 h19 h20
  go_enter Tryd.func23, Tryd.ntmps23
  go_wp2_with fail
  go_ret
  exact ⟨rfl, rfl⟩
end Go.Proofs.YtkocpijloiamcaaDoor
