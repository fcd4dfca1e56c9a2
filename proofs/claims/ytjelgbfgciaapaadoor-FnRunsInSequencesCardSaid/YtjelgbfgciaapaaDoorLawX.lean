/- spec.IsBase, spec.SameWhere, laws.formats; plain laws for the statements on X1 to X8. -/
import Derived.Test.YtjelgbfgciaapaaDoorExpl
import Derived.Test.YtjelgbfgciaapaaDoorSpE
namespace Go.Proofs.YtjelgbfgciaapaaDoor
open Go.RowKit
set_option linter.unusedVariables false

def baseB (n : Int) : Bool := decide (n = 0 ∨ n = 1)

theorem isBase_any (n : Int) (w : World) : Calls Tryd.prog 11 #[.int .i64 n] w fun e w' => e = .returned (.bool (baseB n)) ∧ w = w' := by
  by_cases h0 : n = 0
  · subst h0
    go_enter Tryd.func11, Tryd.ntmps11
    go_wp2
    go_ret
    exact ⟨rfl, rfl⟩
  have b0 : (n == 0) = false := beq_eq_false_iff_ne.2 h0
  by_cases h1 : n = 1
  · subst h1
    go_enter Tryd.func11, Tryd.ntmps11
    go_wp2
    go_ret
    exact ⟨rfl, rfl⟩
  have b1 : (n == 1) = false := beq_eq_false_iff_ne.2 h1
  have HN := Lib.hid (show baseB n = false by unfold baseB; rw [decide_eq_false_iff_not]; omega)
  clear h0 h1
  go_enter Tryd.func11, Tryd.ntmps11
  go_wp2
  go_ret
  exact ⟨ret_bool HN.out.symm, rfl⟩

def sameWB (n : Nat) (a b lv : Nat → Int) : Bool := decide (∀ i, i < n → lv i ≠ -1 → a i = b i)

set_option maxHeartbeats 1000000 in
theorem sameWhere_any {a1 a2 a3 : Option Addr} {b1 o1 c1 b2 o2 c2 b3 o3 c3 n : Nat} {x y lv : Nat → Int} (w : World) (hn : n ≤ 4294967296) (hx : Sees w a1 b1 o1 n c1 (fun i => .int .i64 (x i))) (hy : Sees w a2 b2 o2 n c2 (fun i => .int .i64 (y i))) (hl : Sees w a3 b3 o3 n c3 (fun i => .int .i64 (lv i))) :
    Calls Tryd.prog 14 #[.slice a1 n c1, .slice a2 n c2, .slice a3 n c3] w fun e w' => e = .returned (.bool (sameWB n x y lv)) ∧ w.Since w.heap.size w' := by
  go_enter Tryd.func14, Tryd.ntmps14
  go_wp2_with fail
  go_loopg [7, 8, 23] n (fun g _ _ i wr => ∃ k : Nat, k ≤ n ∧ g = n - k ∧ i = .int .i64 k ∧ Hid (∀ j, j < k → lv j ≠ -1 → x j = y j) ∧ w.Since w.heap.size wr)
  case atStart => exact ⟨0, by omega, rfl, rfl, fun j hj => absurd hj (Nat.not_lt_zero _), World.Since.refl _ _⟩
  case round =>
    obtain ⟨k, hk, rfl, rfl, HA, hs⟩ := hrel
    by_cases hkn : k < n
    · have hkz : (k : Int) < (n : Int) := by omega
      obtain ⟨rfl, hcx⟩ := (hx.since hs).get hkn
      obtain ⟨rfl, hcy⟩ := (hy.since hs).get hkn
      obtain ⟨rfl, hcl⟩ := (hl.since hs).get hkn
      clear hx hy hl
      by_cases hr : lv k = -1
      · have hb : (lv k != -1) = false := by rw [hr]; rfl
        have HR := Lib.hid hr
        clear hr
        go_upto_region 6 with fail
        refine wp_region_quiet_lit (by kernel_rfl) (by kernel_rfl) ?_
        repeat ((with_reducible refine wpQuiet_step ?_); intro K hK; go_simp; (with_reducible refine hK _ ?_); clear hK K)
        with_reducible refine wpQuiet_nil ?_
        intro _ hw'; obtain ⟨nq, h⟩ := hw'; subst h
        go_wp2_with fail
        go_roundg (n - (k + 1))
        case rel => exact ⟨k + 1, by omega, rfl, by go_num, fun j hj hv => by rcases Nat.lt_succ_iff_lt_or_eq.1 hj with h | h; exact HA.out j h hv; subst h; exact absurd HR.out hv, since_drewN hs _⟩
        case measure => omega
      · have hb : (lv k != -1) = true := by simpa using hr
        have HR := Lib.hid hr
        clear hr
        by_cases hxy : x k = y k
        · have hb2 : (x k != y k) = false := by simp [hxy]
          have HX := Lib.hid hxy
          clear hxy
          go_upto_region 6 with fail
          go_quiet (fail)
          go_wp2_with fail
          go_roundg (n - (k + 1))
          case rel => exact ⟨k + 1, by omega, rfl, by go_num, fun j hj hv => by rcases Nat.lt_succ_iff_lt_or_eq.1 hj with h | h; exact HA.out j h hv; subst h; exact HX.out, since_drewN hs _⟩
          case measure => omega
        · have hb2 : (x k != y k) = true := by simpa using hxy
          have HX := Lib.hid hxy
          clear hxy
          go_upto_region 6 with fail
          go_quiet (fail)
          go_wp2_with fail
          go_ret
          exact ⟨ret_bool (by unfold sameWB; symm; rw [decide_eq_false_iff_not]; exact fun h => HX.out (h k hkn HR.out)), since_drewN hs _⟩
    · obtain rfl : k = n := by omega
      go_wp2_with fail
      go_ret
      exact ⟨ret_bool (by unfold sameWB; symm; rw [decide_eq_true_eq]; exact HA.out), hs⟩

/-- Embeddings, overrides and isolate initiators. -/
def fmtB (t : Int) : Bool := decide (t = 14 ∨ t = 15 ∨ t = 16 ∨ t = 17 ∨ t = 19 ∨ t = 20 ∨ t = 21)
def fmts (x : Nat → Int) : Nat → Nat
  | 0 => 0
  | k + 1 => fmts x k + if fmtB (x k) = true then 1 else 0

theorem fmts_le (x : Nat → Int) : ∀ k, fmts x k ≤ k
  | 0 => Nat.le_refl _
  | k + 1 => by have := fmts_le x k; rw [fmts]; split <;> omega
theorem fmts_zero {x : Nat → Int} : ∀ {n : Nat}, fmts x n = 0 → ∀ i, i < n → fmtB (x i) = false
  | 0, _, i, hi => absurd hi (Nat.not_lt_zero _)
  | n + 1, h, i, hi => by
    rw [fmts] at h
    by_cases e : i = n
    · subst e
      by_cases q : fmtB (x i) = true
      · rw [if_pos q] at h; omega
      · simpa using q
    · exact fmts_zero (n := n) (by omega) i (by omega)

set_option maxHeartbeats 1000000 in
theorem formats_any {ao : Option Addr} {b o n c : Nat} {x : Nat → Int} (w : World) (hn : n ≤ 4294967296) (hx : Sees w ao b o n c (fun i => .int .i64 (x i))) :
    Calls Tryd.prog 17 #[.slice ao n c] w fun e w' => e = .returned (.int .i64 (fmts x n)) ∧ w = w' := by
  go_enter Tryd.func17, Tryd.ntmps17
  go_wp2_with fail
  go_loopg [3, 5, 8] n (fun g s _ i wr => ∃ k : Nat, k ≤ n ∧ g = n - k ∧ i = .int .i64 k ∧ s = .int .i64 (fmts x k) ∧ w = wr)
  case atStart => exact ⟨0, by omega, rfl, rfl, rfl, rfl⟩
  case round =>
    obtain ⟨k, hk, rfl, rfl, rfl, rfl⟩ := hrel
    by_cases hkn : k < n
    · have hkz : (k : Int) < (n : Int) := by omega
      obtain ⟨rfl, hc⟩ := hx.get hkn
      have hfl := fmts_le x k
      have hst : fmts x (k + 1) = fmts x k + if fmtB (x k) = true then 1 else 0 := rfl
      obtain ⟨t, htk⟩ : ∃ t, t = x k := ⟨_, rfl⟩
      rw [← htk] at hc hst
      obtain ⟨fv, hfv⟩ : ∃ fv, fv = fmts x k := ⟨_, rfl⟩
      rw [← hfv] at hst hfl ⊢
      have HST := Lib.hid hst
      clear htk hfv hst
      have hfz : (fv : Int) ≤ 4294967296 := by omega
      go_upto_region 5 with fail
      go_cut [25] (fun v wx => v = .bool (fmtB t) ∧ wx = w)
      case first =>
        by_cases hi : iniB t = true
        · have HF := Lib.hid (show fmtB t = true by unfold iniB at hi; rw [decide_eq_true_eq] at hi; unfold fmtB; rw [decide_eq_true_eq]; omega)
          have HI := Lib.hid hi
          clear hi
          go_wp2_with fail
          refine (isInitiator_any _ _).mono ?_
          rintro e w2 ⟨rfl, rfl⟩
          rw [HI.out]
          go_wp2_with fail
          go_meet
          exact ⟨by rw [HF.out], rfl⟩
        · have hi' : iniB t = false := by simpa using hi
          have hni : t ≠ 19 ∧ t ≠ 20 ∧ t ≠ 21 := by unfold iniB at hi'; rw [decide_eq_false_iff_not] at hi'; omega
          have HI := Lib.hid hi'
          clear hi hi'
          cases hr : remN t with
          | false =>
            have HR := Lib.hid hr
            have HF := Lib.hid (show fmtB t = false by unfold remN at hr; rw [decide_eq_false_iff_not] at hr; unfold fmtB; rw [decide_eq_false_iff_not]; omega)
            clear hr hni
            go_wp2_with fail
            refine (isInitiator_any _ _).mono ?_
            rintro e w2 ⟨rfl, rfl⟩
            rw [HI.out]
            go_wp2_with fail
            refine (isRemoved_any _ _).mono ?_
            rintro e w2 ⟨rfl, rfl⟩
            rw [HR.out]
            go_wp2_with fail
            go_meet
            exact ⟨by rw [HF.out], rfl⟩
          | true =>
            have HR := Lib.hid hr
            have hr2 : t = 14 ∨ t = 15 ∨ t = 16 ∨ t = 17 ∨ t = 18 ∨ t = 11 := by unfold remN at hr; rwa [decide_eq_true_eq] at hr
            have HFE := Lib.hid (show fmtB t = (t != 11 && t != 18) by
              rw [Bool.eq_iff_iff, Bool.and_eq_true, bne_iff_ne, bne_iff_ne]
              unfold fmtB; rw [decide_eq_true_eq]; omega)
            clear hr hni hr2
            cases h11 : (t != 11) with
            | false =>
              have H11 := Lib.hid h11
              go_wp2_with fail
              refine (isInitiator_any _ _).mono ?_
              rintro e w2 ⟨rfl, rfl⟩
              rw [HI.out]
              go_wp2_with fail
              refine (isRemoved_any _ _).mono ?_
              rintro e w2 ⟨rfl, rfl⟩
              rw [HR.out]
              go_wp2_with fail
              go_meet
              exact ⟨by rw [HFE.out, H11.out]; rfl, rfl⟩
            | true =>
              have H11 := Lib.hid h11
              cases h18 : (t != 18) with
              | false =>
                have H18 := Lib.hid h18
                go_wp2_with fail
                refine (isInitiator_any _ _).mono ?_
                rintro e w2 ⟨rfl, rfl⟩
                rw [HI.out]
                go_wp2_with fail
                refine (isRemoved_any _ _).mono ?_
                rintro e w2 ⟨rfl, rfl⟩
                rw [HR.out]
                go_wp2_with fail
                go_meet
                exact ⟨by rw [HFE.out, H11.out, H18.out]; rfl, rfl⟩
              | true =>
                have H18 := Lib.hid h18
                go_wp2_with fail
                refine (isInitiator_any _ _).mono ?_
                rintro e w2 ⟨rfl, rfl⟩
                rw [HI.out]
                go_wp2_with fail
                refine (isRemoved_any _ _).mono ?_
                rintro e w2 ⟨rfl, rfl⟩
                rw [HR.out]
                go_wp2_with fail
                go_meet
                exact ⟨by rw [HFE.out, H11.out, H18.out]; rfl, rfl⟩
      obtain ⟨rfl, rfl⟩ := hcut
      cases hf : fmtB t with
      | true =>
        have HF := Lib.hid (HST.out.trans (by rw [hf, if_pos rfl]))
        clear hf
        go_wp2_with fail
        go_roundg (n - (k + 1))
        case rel => exact ⟨k + 1, by omega, rfl, by go_num, by rw [HF.out]; go_num, rfl⟩
        case measure => omega
      | false =>
        have HF := Lib.hid (HST.out.trans (by rw [hf, if_neg (by decide), Nat.add_zero]))
        clear hf
        go_wp2_with fail
        go_roundg (n - (k + 1))
        case rel => exact ⟨k + 1, by omega, rfl, by go_num, by rw [HF.out], rfl⟩
        case measure => omega
    · obtain rfl : k = n := by omega
      go_wp2_with fail
      go_ret
      exact ⟨rfl, rfl⟩

section
variable {x fs : Nat → Int} {base : Int}

/-- Of a character that is not removed, the package's type is the reference's; of a PDI its own. -/
theorem tI_eq_tS (hb : base ≤ 125) {i : Nat} (hr : remN (x i) = false) : tI x fs base i = if x i = 22 then 22 else tS x fs base i := by
  unfold remN at hr
  rw [decide_eq_false_iff_not] at hr
  have ho := (mst_ok (x := x) (fs := fs) hb i).tov_or
  unfold tI tS at_
  by_cases h22 : x i = 22
  · rw [if_pos (by omega), if_pos h22]; exact h22
  · rw [if_neg h22]
    by_cases h7 : x i = 7
    · rw [if_pos (by omega), if_neg (by omega)]
    · rw [if_neg (by omega), if_neg h22]
      have hrb : remN (x i) = false := by unfold remN; rw [decide_eq_false_iff_not]; exact hr
      rcases ho with e | e | e
      · rw [if_pos e, if_neg (by omega)]
      · rw [if_neg (by omega), if_pos ⟨by omega, hrb, h7⟩]
      · rw [if_neg (by omega), if_pos ⟨by omega, hrb, h7⟩]

theorem lvS_ne {i : Nat} (h : lvS x fs base i ≠ -1) : remN (x i) = false := by
  unfold lvS at h
  cases hr : remN (x i) with
  | true => rw [if_pos hr] at h; exact absurd rfl h
  | false => rfl
theorem lvS_of {i : Nat} (h : remN (x i) = false) : lvS x fs base i = lvl x fs base i := by unfold lvS; rw [if_neg (by rw [h]; decide)]
theorem lvS_rem {i : Nat} (h : remN (x i) = true) : lvS x fs base i = -1 := by unfold lvS; rw [if_pos h]

/-- Without formatting characters the stack stays as it was. -/
theorem mst_plain : ∀ n, (∀ i, i < n → fmtB (x i) = false) → mst x fs base n = Mst.start base
  | 0, _ => rfl
  | n + 1, h => by
    have ih := mst_plain n (fun i hi => h i (by omega))
    have hn := h n (by omega)
    unfold fmtB at hn
    rw [decide_eq_false_iff_not] at hn
    show (mst x fs base n).step (x n) (fs n) = _
    rw [ih]
    unfold Mst.step
    rw [if_neg (by omega), if_neg (by omega), if_neg (by omega), if_neg (by omega)]
    split
    · rfl
    · rw [if_neg (by omega), if_neg (by omega), if_neg (by omega)]
      split <;> rfl

theorem plain_at {i : Nat} (h : ∀ j, j < i + 1 → fmtB (x j) = false) : tI x fs base i = x i ∧ lvl x fs base i = base := by
  have hm := mst_plain (x := x) (fs := fs) (base := base) i (fun j hj => h j (by omega))
  refine ⟨?_, ?_⟩
  · unfold tI
    split
    · rfl
    · rw [hm]; rfl
  · unfold lvl
    rw [hm]
    split
    · rfl
    · split <;> rfl

/-- A character that is no formatting character leaves the state as it is. -/
theorem step_other {m : Mst} {t f : Int} (h : iniB t = false) (h2 : t ≠ 22) (h3 : remN t = true → t = 11) : m.step t f = m := by
  unfold iniB at h
  rw [decide_eq_false_iff_not] at h
  have h4 : t ≠ 14 ∧ t ≠ 15 ∧ t ≠ 16 ∧ t ≠ 17 ∧ t ≠ 18 := by
    by_cases hr : remN t = true
    · have := h3 hr; omega
    · unfold remN at hr; rw [decide_eq_true_eq] at hr; omega
  unfold Mst.step
  rw [if_neg (by omega), if_neg (by omega), if_neg (by omega), if_neg (by omega), if_neg (by omega), if_neg (by omega), if_neg (by omega), if_neg (by omega), if_neg h2]
end

end Go.Proofs.YtjelgbfgciaapaaDoor
