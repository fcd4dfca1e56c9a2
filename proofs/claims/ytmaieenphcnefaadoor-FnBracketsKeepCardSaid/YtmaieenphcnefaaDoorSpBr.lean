/- spec.strong, spec.inside, spec.context, laws.marked. -/
import Derived.Test.YtmaieenphcnefaaDoorSpN
import Derived.Test.YtmaieenphcnefaaDoorBrJ
namespace Go.Proofs.YtmaieenphcnefaaDoor
open Go.RowKit Go.Lib Go.Sort
set_option linter.unusedVariables false
set_option linter.unusedSimpArgs false

def stg (n : Int) : Int := if n = 0 then 0 else if n = 1 ∨ n = 2 ∨ n = 5 then 1 else -1

theorem strongAll_any (n : Int) (w : World) : Calls Tryd.prog 41 #[.int .i64 n] w fun e w' => e = .returned (.int .i64 (stg n)) ∧ w = w' := by
  by_cases h0 : n = 0
  · subst h0
    go_enter Tryd.func41, Tryd.ntmps41
    go_wp2_with fail
    go_ret
    exact ⟨rfl, rfl⟩
  have b0 : (n == 0) = false := beq_eq_false_iff_ne.2 h0
  by_cases h1 : n = 1
  · subst h1
    go_enter Tryd.func41, Tryd.ntmps41
    go_wp2_with fail
    go_ret
    exact ⟨rfl, rfl⟩
  have b1 : (n == 1) = false := beq_eq_false_iff_ne.2 h1
  by_cases h2 : n = 2
  · subst h2
    go_enter Tryd.func41, Tryd.ntmps41
    go_wp2_with fail
    go_ret
    exact ⟨rfl, rfl⟩
  have b2 : (n == 2) = false := beq_eq_false_iff_ne.2 h2
  by_cases h5 : n = 5
  · subst h5
    go_enter Tryd.func41, Tryd.ntmps41
    go_wp2_with fail
    go_ret
    exact ⟨rfl, rfl⟩
  have b5 : (n == 5) = false := beq_eq_false_iff_ne.2 h5
  have HN := hid (show stg n = -1 by unfold stg; rw [if_neg h0, if_neg (by omega)])
  clear h0 h1 h2 h5
  go_enter Tryd.func41, Tryd.ntmps41
  go_wp2_with fail
  go_ret
  exact ⟨by rw [HN.out]; rfl, rfl⟩

theorem stg_gN {t : Int} (h : memB ofNeu t = true) : (stg t = gN t ∧ (gN t = 0 ∨ gN t = 1)) ∨ (stg t = -1 ∧ gN t = 10) := by
  have h1 := memB_iff.1 h
  unfold ofNeu at h1
  simp only [List.mem_cons, List.not_mem_nil, or_false] at h1
  rcases h1 with rfl | rfl | rfl | rfl | rfl | rfl | rfl | rfl | rfl | rfl | rfl | rfl <;> decide

theorem hasS_step {g : Nat → Int} {o k : Nat} {v : Int} (h : o < k) : hasS g o (k + 1) v = (hasS g o k v || decide (g k = v)) := by
  unfold hasS
  rw [Bool.eq_iff_iff, Bool.or_eq_true, decide_eq_true_iff, decide_eq_true_iff, decide_eq_true_iff]
  constructor
  · rintro ⟨i, h1, h2, h3⟩
    by_cases e : i = k
    · subst e; exact .inr h3
    · exact .inl ⟨i, by omega, h2, h3⟩
  · rintro (⟨i, h1, h2, h3⟩ | h3)
    · exact ⟨i, by omega, h2, h3⟩
    · exact ⟨k, by omega, h, h3⟩

set_option maxHeartbeats 2000000 in
theorem inside_any {ao : Option Addr} {b o' n c o cl : Nat} {T : Nat → Int} {way : Int} (w : World) (hx : Sees w ao b o' n c (fun i => .int .i64 (T i))) (hT : ∀ i, i < n → memB ofNeu (T i) = true) (ho : o < cl) (hcl : cl < n) (hn : n ≤ 4294967296) (hw : way = 0 ∨ way = 1) :
    Calls Tryd.prog 30 #[.slice ao n c, .int .i64 o, .int .i64 cl, .int .i64 way] w fun e w' => e = .returned (.tuple #[.bool (hasS (fun i => gN (T i)) o cl way), .bool (hasS (fun i => gN (T i)) o cl (1 - way))]) ∧ w = w' := by
  have HT := hid hT
  clear hT
  go_enter Tryd.func30, Tryd.ntmps30
  go_wp2_with fail
  go_loopg [10, 11, 12] (cl - (o + 1)) (fun gg s10 s11 i wr => ∃ (k : Nat) (a d : Bool), o < k ∧ k ≤ cl ∧ gg = cl - k ∧ i = .int .i64 k ∧ s10 = .bool a ∧ s11 = .bool d ∧ Hid (a = hasS (fun i => gN (T i)) o k way) ∧ Hid (d = hasS (fun i => gN (T i)) o k (1 - way)) ∧ wr = w)
  case atStart => exact ⟨o + 1, false, false, by omega, by omega, rfl, by go_num, rfl, rfl, (hasS_no (fun i h1 h2 => by omega)).symm, (hasS_no (fun i h1 h2 => by omega)).symm, rfl⟩
  case round =>
    obtain ⟨k, a, d, hk1, hk2, rfl, rfl, rfl, rfl, HA, HD, rfl⟩ := hrel
    by_cases hkc : k < cl
    · have hkz : (k : Int) < (cl : Int) := by omega
      obtain ⟨rfl, x1⟩ := hx.get (show k < n by omega)
      have hknz : (k : Int) < (n : Int) := by omega
      go_wp2_with fail
      refine (strongAll_any _ _).mono ?_
      rintro e w1 ⟨rfl, rfl⟩
      have hst := stg_gN (HT.out k (by omega))
      have HAS := hid (hasS_step (g := fun i => gN (T i)) (v := way) hk1)
      have HDS := hid (hasS_step (g := fun i => gN (T i)) (v := 1 - way) hk1)
      rw [Hid, ← HA.out] at HAS
      rw [Hid, ← HD.out] at HDS
      obtain ⟨G, hG⟩ : ∃ G, G = gN (T k) := ⟨_, rfl⟩
      obtain ⟨Z, hZ⟩ : ∃ Z, Z = stg (T k) := ⟨_, rfl⟩
      rw [← hG] at HAS HDS hst
      rw [← hZ] at hst ⊢
      have HS1 := hid HAS
      have HS2 := hid HDS
      clear hG hZ HA HD HAS HDS
      by_cases q1 : Z = way
      · have HA2 : Hid (true = hasS (fun i => gN (T i)) o (k + 1) way) := by
          show _ = _; rw [HS1.out, decide_eq_true (show G = way by omega), Bool.or_true]
        have HD2 : Hid (d = hasS (fun i => gN (T i)) o (k + 1) (1 - way)) := by
          show _ = _; rw [HS2.out, decide_eq_false (show ¬ G = 1 - way by omega), Bool.or_false]
        subst q1
        have hz0 : (0 : Int) ≤ Z := by omega
        clear hst hw
        cases a <;> cases d <;> (
          go_wp2_with fail
          go_roundg (cl - (k + 1))
          case rel => exact ⟨k + 1, true, _, by omega, by omega, rfl, by go_num, rfl, rfl, HA2, HD2, rfl⟩
          case measure => omega)
      · have q1b : (Z == way) = false := beq_eq_false_iff_ne.2 q1
        have q1c : (Z != way) = true := bne_iff_ne.2 q1
        have HA2 : Hid (a = hasS (fun i => gN (T i)) o (k + 1) way) := by
          show _ = _; rw [HS1.out, decide_eq_false (show ¬ G = way by omega), Bool.or_false]
        by_cases q2 : 0 ≤ Z
        · have HD2 : Hid (true = hasS (fun i => gN (T i)) o (k + 1) (1 - way)) := by
            show _ = _; rw [HS2.out, decide_eq_true (show G = 1 - way by omega), Bool.or_true]
          clear hst hw
          cases a <;> cases d <;> (
            go_wp2_with fail
            go_roundg (cl - (k + 1))
            case rel => exact ⟨k + 1, _, true, by omega, by omega, rfl, by go_num, rfl, rfl, HA2, HD2, rfl⟩
            case measure => omega)
        · have HD2 : Hid (d = hasS (fun i => gN (T i)) o (k + 1) (1 - way)) := by
            show _ = _; rw [HS2.out, decide_eq_false (show ¬ G = 1 - way by omega), Bool.or_false]
          clear hst hw
          cases a <;> cases d <;> (
            go_wp2_with fail
            go_roundg (cl - (k + 1))
            case rel => exact ⟨k + 1, _, _, by omega, by omega, rfl, by go_num, rfl, rfl, HA2, HD2, rfl⟩
            case measure => omega)
    · obtain rfl : k = cl := by omega
      go_wp2_with fail
      go_ret2
      exact ⟨by rw [HA.out, HD.out]; rfl, rfl⟩

set_option maxHeartbeats 2000000 in
theorem context_any {ao : Option Addr} {b o' n c o : Nat} {T : Nat → Int} {s : Int} (w : World) (hx : Sees w ao b o' n c (fun i => .int .i64 (T i))) (hT : ∀ i, i < n → memB ofNeu (T i) = true) (ho : o < n) (hn : n ≤ 4294967296) :
    Calls Tryd.prog 31 #[.slice ao n c, .int .i64 o, .int .i64 s] w fun e w' => e = .returned (.int .i64 (bfr (fun i => gN (T i)) s o)) ∧ w = w' := by
  have HT := hid hT
  clear hT
  go_enter Tryd.func31, Tryd.ntmps31
  go_wp2_with fail
  go_loopg [7] (o + 1) (fun gg i wr => ∃ k : Nat, k ≤ o ∧ gg = k + 1 ∧ i = .int .i64 ((k : Int) - 1) ∧ wr = w ∧ Hid (bfr (fun i => gN (T i)) s o = bfr (fun i => gN (T i)) s k))
  case atStart => exact ⟨o, Nat.le_refl _, rfl, rfl, rfl, rfl⟩
  case round =>
    obtain ⟨k, hk, rfl, rfl, rfl, HB⟩ := hrel
    match k, hk, HB with
    | 0, hk, HB =>
      have HF := hid (show bfr (fun i => gN (T i)) s o = s from HB.out)
      have hm1 : ((0 : Nat) : Int) - 1 = -1 := rfl
      rw [hm1]
      clear HB
      go_wp2_with fail
      go_ret
      exact ⟨by rw [HF.out]; rfl, rfl⟩
    | j + 1, hk, HB =>
      have hj1 : ((j + 1 : Nat) : Int) - 1 = (j : Int) := by omega
      rw [hj1]
      obtain ⟨rfl, x1⟩ := hx.get (show j < n by omega)
      have hjz : (j : Int) < (n : Int) := by omega
      go_wp2_with fail
      refine (strongAll_any _ _).mono ?_
      rintro en w1 ⟨rfl, rfl⟩
      have hst := stg_gN (HT.out j (by omega))
      have HST := hid (show bfr (fun i => gN (T i)) s (j + 1) = if gN (T j) ≠ 10 then gN (T j) else bfr (fun i => gN (T i)) s j from rfl)
      obtain ⟨G, hG⟩ : ∃ G, G = gN (T j) := ⟨_, rfl⟩
      obtain ⟨Z, hZ⟩ : ∃ Z, Z = stg (T j) := ⟨_, rfl⟩
      rw [← hG] at HST hst
      rw [← hZ] at hst ⊢
      clear hG hZ
      by_cases q1 : 0 ≤ Z
      · have HB' := hid (show bfr (fun i => gN (T i)) s o = Z by rw [HB.out, HST.out, if_pos (by omega)]; omega)
        clear hst
        go_wp2_with fail
        go_ret
        exact ⟨by rw [HB'.out]; rfl, rfl⟩
      · have HB' := hid (show bfr (fun i => gN (T i)) s o = bfr (fun i => gN (T i)) s j by rw [HB.out, HST.out, if_neg (by omega)])
        clear hst
        go_wp2_with fail
        go_roundg (j + 1)
        case rel => exact ⟨j, by omega, rfl, by go_num, rfl, HB'⟩
        case measure => omega

def markB (n : Nat) (z kd : Nat → Int) : Bool := decide (∃ i, i < n ∧ 0 < kd i ∧ z i = 12)

set_option maxHeartbeats 1000000 in
theorem marked_any {az ak : Option Addr} {bz oz cz bk' ok ck n : Nat} {z kd : Nat → Int} (w : World) (hn : n ≤ 4294967296) (hz : Sees w az bz oz n cz (fun i => .int .i64 (z i))) (hk : Sees w ak bk' ok n ck (fun i => .int .i64 (kd i))) :
    Calls Tryd.prog 19 #[.slice az n cz, .slice ak n ck] w fun e w' => e = .returned (.bool (markB n z kd)) ∧ w = w' := by
  go_enter Tryd.func19, Tryd.ntmps19
  go_wp2_with fail
  go_loopg [5, 6, 9] n (fun gg _ _ i wr => ∃ k : Nat, k ≤ n ∧ gg = n - k ∧ i = .int .i64 k ∧ wr = w ∧ Hid (∀ j, j < k → ¬ (0 < kd j ∧ z j = 12)))
  case atStart => exact ⟨0, Nat.zero_le _, rfl, rfl, rfl, fun j hj => absurd hj (Nat.not_lt_zero _)⟩
  case round =>
    obtain ⟨k, hk', rfl, rfl, rfl, HA⟩ := hrel
    by_cases hkn : k < n
    · have hkz : (k : Int) < (n : Int) := by omega
      obtain ⟨rfl, x1⟩ := hz.get hkn
      obtain ⟨rfl, x2⟩ := hk.get hkn
      have HY := hid (show 0 < kd k ∧ z k = 12 → true = markB n z kd from fun h => (decide_eq_true ⟨k, hkn, h⟩).symm)
      have HNN := hid (show ¬ (0 < kd k ∧ z k = 12) → ∀ j, j < k + 1 → ¬ (0 < kd j ∧ z j = 12) from fun h j hj => by
        by_cases e : j = k
        · subst e; exact h
        · exact HA.out j (by omega))
      obtain ⟨K, hK⟩ : ∃ K, K = kd k := ⟨_, rfl⟩
      obtain ⟨Z, hZ⟩ : ∃ Z, Z = z k := ⟨_, rfl⟩
      rw [← hK] at x2 HY HNN
      rw [← hZ] at x1 HY HNN
      clear hK hZ
      by_cases q1 : 0 < K
      · by_cases q2 : Z = 12
        · have HF := hid (HY.out ⟨q1, q2⟩)
          subst q2
          go_wp2_with fail
          go_ret
          exact ⟨ret_bool HF.out, rfl⟩
        · have HF := hid (HNN.out (fun h => q2 h.2))
          have q2b : (Z == 12) = false := beq_eq_false_iff_ne.2 q2
          go_wp2_with fail
          go_roundg (n - (k + 1))
          case rel => exact ⟨k + 1, by omega, rfl, by go_num, rfl, HF.out⟩
          case measure => omega
      · have HF := hid (HNN.out (fun h => q1 h.1))
        go_wp2_with fail
        go_roundg (n - (k + 1))
        case rel => exact ⟨k + 1, by omega, rfl, by go_num, rfl, HF.out⟩
        case measure => omega
    · obtain rfl : k = n := by omega
      have HF := hid (show false = markB k z kd from (decide_eq_false (fun ⟨i, h1, h2⟩ => HA.out i h1 h2)).symm)
      go_wp2_with fail
      go_ret
      exact ⟨ret_bool HF.out, rfl⟩
end Go.Proofs.YtmaieenphcnefaaDoor
