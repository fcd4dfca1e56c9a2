/- spec.AreBrackets, spec.Openings, spec.Signed, spec.Pairs. -/
import Derived.Test.YtkocpijloiamcaaGreatDoorGM
import Derived.Test.YtkocpijloiamcaaGreatDoorGG
import Derived.Deep.DeepCutAuto
import Derived.Deep.CutBlock
namespace Go.Proofs.YtkocpijloiamcaaGreatDoor
set_option linter.unusedVariables false
set_option linter.unusedSimpArgs false
open Go.RowKit Go.Lib Go.Sort

/-- A kind and a value that go together. -/
def brOk (k v : Int) : Prop := 0 ≤ k ∧ k ≤ 2 ∧ (k = 0 → v = 0) ∧ (0 < k → 1 ≤ v ∧ v ≤ 1114111)
instance (k v : Int) : Decidable (brOk k v) := by unfold brOk; infer_instance

def brB (n nk nv : Nat) (kd vl : Nat → Int) : Bool := decide (nk = n ∧ nv = n ∧ ∀ i, i < nk → brOk (kd i) (vl i))

set_option maxHeartbeats 1000000 in
set_option maxRecDepth 100000 in
theorem areBrackets_eq {ak av : Option Addr} {bk' ok ck bv ov cv n : Nat} {kd vl : Nat → Int} (w : World) (hn : n ≤ 17179869184)
    (hk : Sees w ak bk' ok n ck (fun i => .int .i64 (kd i))) (hv : Sees w av bv ov n cv (fun i => .int .i64 (vl i))) :
    Calls Tryz.prog 15 #[.slice ak n ck, .slice av n cv, .int .i64 n] w fun e w' => e = .returned (.bool (brB n n n kd vl)) ∧ w = w' := by
  go_enter Tryz.func15, Tryz.ntmps15
  go_wp2
  go_loopg [7, 8, 21] n (fun g _ _ i wr => ∃ k : Nat, k ≤ n ∧ g = n - k ∧ i = .int .i64 k ∧ Hid (∀ j, j < k → brOk (kd j) (vl j)) ∧ wr = w)
  case atStart => exact ⟨0, Nat.zero_le _, rfl, rfl, fun j hj => absurd hj (Nat.not_lt_zero _), rfl⟩
  case round =>
    obtain ⟨k, hkn', rfl, rfl, HA, rfl⟩ := hrel
    by_cases hkn : k < n
    · have hkz : (k : Int) < (n : Int) := by omega
      obtain ⟨rfl, ck1⟩ := hk.get hkn
      obtain ⟨rfl, cv1⟩ := hv.get hkn
      have hno : ¬ brOk (kd k) (vl k) → false = brB n n n kd vl := fun h => by
        symm; exact decide_eq_false (fun h2 => h (h2.2.2 k hkn))
      have HNO := hid hno
      have hyes : brOk (kd k) (vl k) → Hid (∀ j, j < k + 1 → brOk (kd j) (vl j)) := fun h j hj => by
        by_cases e : j = k
        · subst e; exact h
        · exact HA.out j (by omega)
      have HYES := hid hyes
      obtain ⟨K, hK⟩ : ∃ K, K = kd k := ⟨_, rfl⟩
      obtain ⟨V, hV⟩ : ∃ V, V = vl k := ⟨_, rfl⟩
      rw [← hK] at ck1 HNO HYES
      rw [← hV] at cv1 HNO HYES
      clear hno hyes hk hv hK hV
      by_cases q1 : K < 0
      · have HF := hid (HNO.out (by unfold brOk; omega))
        go_wp2
        go_ret
        exact ⟨ret_bool HF.out, rfl⟩
      by_cases q2 : 2 < K
      · have HF := hid (HNO.out (by unfold brOk; omega))
        go_wp2
        go_ret
        exact ⟨ret_bool HF.out, rfl⟩
      by_cases q3 : K = 0
      · subst q3
        by_cases q4 : V = 0
        · subst q4
          have HY := hid (HYES.out (by unfold brOk; omega))
          go_wp2
          go_roundg (n - (k + 1))
          case rel => exact ⟨k + 1, by omega, rfl, by go_num, HY.out, rfl⟩
          case measure => omega
        · have HF := hid (HNO.out (by unfold brOk; omega))
          have q4b : (V != 0) = true := by simp [q4]
          go_wp2
          go_ret
          exact ⟨ret_bool HF.out, rfl⟩
      · have q3b : (K == 0) = false := by simp [q3]
        have q5 : 0 < K := by omega
        by_cases q6 : V < 1
        · have HF := hid (HNO.out (by unfold brOk; omega))
          go_wp2
          go_ret
          exact ⟨ret_bool HF.out, rfl⟩
        by_cases q7 : 1114111 < V
        · have HF := hid (HNO.out (by unfold brOk; omega))
          go_wp2
          go_ret
          exact ⟨ret_bool HF.out, rfl⟩
        · have HY := hid (HYES.out (by unfold brOk; omega))
          go_wp2
          go_roundg (n - (k + 1))
          case rel => exact ⟨k + 1, by omega, rfl, by go_num, HY.out, rfl⟩
          case measure => omega
    · obtain rfl : k = n := by omega
      have HT : Hid (true = brB k k k kd vl) := (decide_eq_true ⟨rfl, rfl, HA.out⟩ : brB k k k kd vl = true).symm
      go_wp2
      go_ret
      exact ⟨ret_bool HT.out, rfl⟩

set_option maxHeartbeats 1000000 in
set_option maxRecDepth 100000 in
theorem areBrackets_any {ak av : Option Addr} {bk' ok ck bv ov cv nk nv n : Nat} {kd vl : Nat → Int} (w : World) (hn : n ≤ 17179869184) (hnk : nk ≤ 17179869184) (hnv : nv ≤ 17179869184)
    (hk : Sees w ak bk' ok nk ck (fun i => .int .i64 (kd i))) (hv : Sees w av bv ov nv cv (fun i => .int .i64 (vl i))) :
    Calls Tryz.prog 15 #[.slice ak nk ck, .slice av nv cv, .int .i64 n] w fun e w' => e = .returned (.bool (brB n nk nv kd vl)) ∧ w = w' := by
  by_cases h1 : nk = n
  case neg =>
    have e : brB n nk nv kd vl = false := decide_eq_false (fun h => h1 h.1)
    rw [e]
    have h1z : ¬ ((nk : Int) = (n : Int)) := by omega
    have h1b : ((nk : Int) != (n : Int)) = true := bne_iff_ne.2 h1z
    clear h1
    go_enter Tryz.func15, Tryz.ntmps15
    go_wp2
    go_ret
    exact ⟨rfl, rfl⟩
  by_cases h2 : nv = n
  case neg =>
    have e : brB n nk nv kd vl = false := decide_eq_false (fun h => h2 h.2.1)
    rw [e]
    have h2z : ¬ ((nv : Int) = (n : Int)) := by omega
    have h2b : ((nv : Int) != (n : Int)) = true := bne_iff_ne.2 h2z
    subst h1
    clear h2
    go_enter Tryz.func15, Tryz.ntmps15
    go_wp2
    go_ret
    exact ⟨rfl, rfl⟩
  subst h1
  subst h2
  exact areBrackets_eq w hn hk hv

theorem ops_le {kd : Nat → Int} : ∀ k, ops kd k ≤ k
  | 0 => Nat.le_refl _
  | k + 1 => by
    have := ops_le (kd := kd) k
    show ops kd k + (if kd k = 1 then 1 else 0) ≤ k + 1
    split <;> omega

set_option maxHeartbeats 1000000 in
theorem openings_any {ak : Option Addr} {bk' ok ck n : Nat} {kd : Nat → Int} (w : World) (hn : n ≤ 17179869184) (hk : Sees w ak bk' ok n ck (fun i => .int .i64 (kd i))) :
    Calls Tryz.prog 17 #[.slice ak n ck] w fun e w' => e = .returned (.int .i64 (ops kd n)) ∧ w = w' := by
  go_enter Tryz.func17, Tryz.ntmps17
  go_wp2
  go_loopg [3, 5, 8] n (fun g s _ i wr => ∃ k : Nat, k ≤ n ∧ g = n - k ∧ i = .int .i64 k ∧ s = .int .i64 (ops kd k) ∧ wr = w)
  case atStart => exact ⟨0, Nat.zero_le _, rfl, rfl, rfl, rfl⟩
  case round =>
    obtain ⟨k, hkn', rfl, rfl, rfl, rfl⟩ := hrel
    by_cases hkn : k < n
    · have hkz : (k : Int) < (n : Int) := by omega
      obtain ⟨rfl, ck1⟩ := hk.get hkn
      have hol := ops_le (kd := kd) k
      have hst : ops kd (k + 1) = ops kd k + (if kd k = 1 then 1 else 0) := rfl
      have HST := hid hst
      clear hst hk
      obtain ⟨P, hP⟩ : ∃ P, P = ops kd k := ⟨_, rfl⟩
      rw [← hP] at hol HST ⊢
      clear hP
      by_cases q : kd k = 1
      · have HQ := hid (HST.out.trans (by rw [if_pos q]))
        rw [q] at ck1
        clear q
        go_wp2
        go_roundg (n - (k + 1))
        case rel => exact ⟨k + 1, by omega, rfl, by go_num, by rw [HQ.out]; go_num, rfl⟩
        case measure => omega
      · have HQ := hid (HST.out.trans (by rw [if_neg q]))
        have qb : (kd k == 1) = false := by simp [q]
        go_wp2
        go_roundg (n - (k + 1))
        case rel => exact ⟨k + 1, by omega, rfl, by go_num, by rw [HQ.out]; go_num, rfl⟩
        case measure => omega
    · obtain rfl : k = n := by omega
      go_wp2
      go_ret
      exact ⟨rfl, rfl⟩

/-- The values, those of closing brackets with a sign. -/
def sg (kd vl : Nat → Int) (i : Nat) : Int := if kd i = 1 then vl i else if kd i = 2 then -vl i else 0

end Go.Proofs.YtkocpijloiamcaaGreatDoor
