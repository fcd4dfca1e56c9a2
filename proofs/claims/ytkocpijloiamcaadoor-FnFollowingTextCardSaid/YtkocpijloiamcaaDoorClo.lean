/- laws.isClosed, laws.enclosed, and Resolve without brackets. -/
import Derived.Test.YtkocpijloiamcaaDoorEnc
import Derived.Test.YtkocpijloiamcaaDoorFol
import Derived.Test.YtkocpijloiamcaaDoorThr
import Derived.Test.YtkocpijloiamcaaDoorGA
import Derived.Test.YtkocpijloiamcaaDoorGE
import Derived.Deep.LoopGhost
namespace Go.Proofs.YtkocpijloiamcaaDoor
open Go.RowKit
set_option linter.unusedVariables false
set_option linter.unusedSimpArgs false

def closB (n : Nat) (x : Nat → Int) : Bool := decide ((∀ k, k < n → x k ≠ 7 ∧ 0 ≤ dep x 0 (k + 1)) ∧ dep x 0 n = 0)

theorem dep0 (x : Nat → Int) (k : Nat) : dep x 0 (k + 1) = dep x 0 k + (if iniB (x k) = true then 1 else if x k = 22 then -1 else 0) := by
  show dep x 0 k + (if iniB (x (0 + k)) = true then 1 else if (x (0 + k) == 22) = true then -1 else 0) = _
  rw [Nat.zero_add]
  simp only [beq_iff_eq]
theorem dep_le (x : Nat → Int) : ∀ k, dep x 0 k ≤ k
  | 0 => Int.le_refl _
  | k + 1 => by
    have := dep_le x k
    rw [dep0]
    split
    · omega
    · split <;> omega
theorem dep_shift {x y : Nat → Int} {s n : Nat} (h : ∀ i, i < n → y (s + i) = x i) : ∀ k, k ≤ n → dep y s k = dep x 0 k
  | 0, _ => rfl
  | k + 1, hk => by
    rw [dep0, dep, dep_shift h k (by omega)]
    show _ + (if iniB (y (s + k)) = true then 1 else if (y (s + k) == 22) = true then -1 else 0) = _
    rw [h k (by omega)]
    simp only [beq_iff_eq]
theorem closB_clo {x y : Nat → Int} {s n : Nat} (h : closB n x = true) (e : ∀ i, i < n → y (s + i) = x i) : Clo y s n := by
  obtain ⟨h1, h2⟩ := of_decide_eq_true h
  refine ⟨fun k hk => ?_, by rw [dep_shift e n (Nat.le_refl _)]; exact h2, fun k hk => by rw [e k hk]; exact (h1 k hk).1⟩
  rw [dep_shift e k hk]
  cases k with
  | zero => exact Int.le_refl _
  | succ k => exact (h1 k (by omega)).2

/-- A closed text without formats has neither initiators nor PDIs. -/
theorem head_plain {x : Nat → Int} {n : Nat} (h : closB n x = true) (hf : 0 = fmtN x n) {j : Nat} (hj : j < n) (hr : 0 ≤ x j ∧ x j < 23) : plainH (x j) := by
  obtain ⟨h1, _⟩ := of_decide_eq_true h
  have hq : ∀ i, i < n → fmtQ (x i) = false := fun i hi => by
    have a := fmtN_mono (x := x) (show i + 1 ≤ n by omega)
    cases e : fmtQ (x i) with
    | false => rfl
    | true =>
      rw [fmtN, if_pos e] at a
      omega
  have hi : ∀ i, i < n → iniB (x i) = false := fun i hi => by
    have := of_decide_eq_false (hq i hi)
    unfold iniB
    exact decide_eq_false (by omega)
  have hd : ∀ k, k ≤ n → dep x 0 k ≤ 0 := by
    intro k
    induction k with
    | zero => intro _; exact Int.le_refl _
    | succ k ih =>
      intro hk
      have := ih (by omega)
      rw [dep0, hi k (by omega), if_neg (by decide)]
      split <;> omega
  have h22 : x j ≠ 22 := fun e => by
    have a := (h1 j hj).2
    have b := hd j (by omega)
    rw [dep0, hi j hj, if_neg (by decide), if_pos e] at a
    omega
  have h7 := (h1 j hj).1
  have hq2 := of_decide_eq_false (hq j hj)
  unfold plainH
  omega

set_option maxHeartbeats 1000000 in
theorem isClosed_any {ao : Option Addr} {b o n c : Nat} {x : Nat → Int} (w : World) (hn : n ≤ 8589934592) (hx : Sees w ao b o n c (fun i => .int .i64 (x i))) :
    Calls Tryd.prog 18 #[.slice ao n c] w fun e w' => e = .returned (.bool (closB n x)) ∧ w = w' := by
  go_enter Tryd.func18, Tryd.ntmps18
  go_wp2_with fail
  go_loopg [3, 5, 8] n (fun g s _ i wr => ∃ (k : Nat) (d : Int), k ≤ n ∧ g = n - k ∧ i = .int .i64 k ∧ s = .int .i64 d ∧ 0 ≤ d ∧ d ≤ k ∧ Hid (d = dep x 0 k) ∧ Hid (∀ j, j < k → x j ≠ 7 ∧ 0 ≤ dep x 0 (j + 1)) ∧ w = wr)
  case atStart => exact ⟨0, 0, by omega, rfl, rfl, rfl, Int.le_refl _, Int.le_refl _, rfl, fun j hj => absurd hj (Nat.not_lt_zero _), rfl⟩
  case round =>
    obtain ⟨k, d, hk, rfl, rfl, rfl, hd0, hdk, HD, HJ, rfl⟩ := hrel
    by_cases hkn : k < n
    · have hkz : (k : Int) < (n : Int) := by omega
      obtain ⟨rfl, hc⟩ := hx.get hkn
      obtain ⟨t, htk⟩ : ∃ t, t = x k := ⟨_, rfl⟩
      rw [← htk] at hc
      have HT := Lib.hid htk
      clear htk
      have HST := Lib.hid (show dep x 0 (k + 1) = d + (if iniB t = true then 1 else if t = 22 then -1 else 0) from by rw [dep0, ← HD.out, ← HT.out])
      have bad : (t = 7 ∨ dep x 0 (k + 1) < 0) → closB n x = false := fun h => by
        unfold closB
        rw [decide_eq_false_iff_not]
        rintro ⟨q, _⟩
        have := q k hkn
        rw [← HT.out] at this
        rcases h with h | h
        · exact this.1 h
        · omega
      have HBAD := Lib.hid bad
      have good : t ≠ 7 → 0 ≤ dep x 0 (k + 1) → ∀ j, j < k + 1 → x j ≠ 7 ∧ 0 ≤ dep x 0 (j + 1) := fun h1 h2 j hj => by
        rcases Nat.lt_succ_iff_lt_or_eq.1 hj with q | q
        · exact HJ.out j q
        · subst q; rw [← HT.out]; exact ⟨h1, h2⟩
      have HGOOD := Lib.hid good
      clear bad good
      by_cases h7 : t = 7
      · subst h7
        have HF := Lib.hid (HBAD.out (.inl rfl))
        go_wp2_with fail
        go_ret
        exact ⟨ret_bool HF.out.symm, rfl⟩
      have b7 : (t == 7) = false := beq_eq_false_iff_ne.2 h7
      cases hi : iniB t with
      | true =>
        have HI := Lib.hid hi
        have HS := Lib.hid (HST.out.trans (by rw [hi, if_pos rfl]))
        have HG := Lib.hid (HGOOD.out h7 (by rw [HS.out]; omega))
        clear hi h7
        go_wp2_with fail
        refine (isInitiator_any _ _).mono ?_
        rintro e w2 ⟨rfl, rfl⟩
        rw [HI.out]
        go_wp2_with fail
        go_roundg (n - (k + 1))
        case rel => exact ⟨k + 1, d + 1, by omega, rfl, by go_num, by go_num, by omega, by omega, HS.out.symm, HG.out, rfl⟩
        case measure => omega
      | false =>
        have HI := Lib.hid hi
        by_cases h22 : t = 22
        · subst h22
          have HS := Lib.hid (HST.out.trans (by rw [hi, if_neg (by decide), if_pos rfl]))
          by_cases hd : d = 0
          · subst hd
            have HF := Lib.hid (HBAD.out (.inr (by rw [HS.out]; decide)))
            clear hi
            go_wp2_with fail
            refine (isInitiator_any _ _).mono ?_
            rintro e w2 ⟨rfl, rfl⟩
            rw [HI.out]
            go_wp2_with fail
            go_ret
            exact ⟨ret_bool HF.out.symm, rfl⟩
          · have hd1 : 0 ≤ d - 1 := by omega
            have hd2 : ¬ d - 1 < 0 := by omega
            have HG := Lib.hid (HGOOD.out h7 (by rw [HS.out]; omega))
            clear hi
            go_wp2_with fail
            refine (isInitiator_any _ _).mono ?_
            rintro e w2 ⟨rfl, rfl⟩
            rw [HI.out]
            go_wp2_with fail
            go_roundg (n - (k + 1))
            case rel => exact ⟨k + 1, d - 1, by omega, rfl, by go_num, by go_num, by omega, by omega, HS.out.symm, HG.out, rfl⟩
            case measure => omega
        · have b22 : (t == 22) = false := beq_eq_false_iff_ne.2 h22
          have HS := Lib.hid (HST.out.trans (by rw [hi, if_neg (by decide), if_neg h22, Int.add_zero]))
          have HG := Lib.hid (HGOOD.out h7 (by rw [HS.out]; exact hd0))
          have hd2 : ¬ d < 0 := by omega
          clear hi h22 h7
          go_wp2_with fail
          refine (isInitiator_any _ _).mono ?_
          rintro e w2 ⟨rfl, rfl⟩
          rw [HI.out]
          go_wp2_with fail
          go_roundg (n - (k + 1))
          case rel => exact ⟨k + 1, d, by omega, rfl, by go_num, rfl, by omega, by omega, HS.out.symm, HG.out, rfl⟩
          case measure => omega
    · obtain rfl : k = n := by omega
      have HE := Lib.hid (show closB k x = decide (d = 0) by
        unfold closB
        rw [← HD.out, Bool.eq_iff_iff, decide_eq_true_iff, decide_eq_true_iff]
        exact ⟨fun h => h.2, fun h => ⟨HJ.out, h⟩⟩)
      by_cases hd : d = 0
      · have HF := Lib.hid (HE.out.trans (decide_eq_true hd))
        subst hd
        go_wp2_with fail
        go_ret
        exact ⟨ret_bool HF.out.symm, rfl⟩
      · have HF := Lib.hid (HE.out.trans (decide_eq_false hd))
        have hb : (d == 0) = false := beq_eq_false_iff_ne.2 hd
        clear hd
        go_wp2_with fail
        go_ret
        exact ⟨ret_bool HF.out.symm, rfl⟩

/-- A paragraph with a text in an isolate. -/
def encF (p a : Nat) (x : Nat → Int) (t : Int) (u z : Nat → Int) (i : Nat) : Int :=
  if i < p then x i else if i = p then t else if i < p + 1 + a then u (i - (p + 1)) else if i = p + 1 + a then 22 else z (i - (p + 2 + a))

set_option maxHeartbeats 4000000 in
theorem enclosed_any {a0 a2 a3 : Option Addr} {b0 o0 n0 c0 b2 o2 n2 c2 b3 o3 n3 c3 : Nat} {x u z : Nat → Int} {t : Int} (w : World) (hn0 : n0 ≤ 2147483647) (hn2 : n2 ≤ 2147483647) (hn3 : n3 ≤ 2147483647)
    (hx : Sees w a0 b0 o0 n0 c0 (fun i => .int .i64 (x i))) (hu : Sees w a2 b2 o2 n2 c2 (fun i => .int .i64 (u i))) (hz : Sees w a3 b3 o3 n3 c3 (fun i => .int .i64 (z i))) :
    Calls Tryd.prog 21 #[.slice a0 n0 c0, .int .i64 t, .slice a2 n2 c2, .slice a3 n3 c3] w (RetSees w (n0 + 1 + n2 + 1 + n3) (fun i => .int .i64 (encF n0 n2 x t u z i))) := by
  have g0 := Gr.empty w w.heap.size 3 (fun _ => .int .i64 0) (Nat.le_refl _)
  have hs0 : w.Since w.heap.size (w.alloc (.cells #[] 3)) := (World.Since.refl _ _).alloc (Nat.le_refl _) _
  have hx0 := hx.since hs0
  have HU := Lib.hid hu
  have HZ := Lib.hid hz
  clear hx hu hz
  go_enter Tryd.func21, Tryd.ntmps21
  go_wp2_with (at_builtin; go_must (refine wpList_cat _ rfl _ _ 22 rfl w.heap.size 3 (.int .i64 0) 8 Tryd.underlying22 Tryd.infoInt rfl _ _ _ rfl g0 rfl hx0 (fun _ _ => rfl) (by omega) (by omega) (by simp) ?_))
  intro v1 w1 hg1 hgr1 _
  have hs1 : w.Since w.heap.size w1 := hs0.grown hgr1 (by simp) (fun k hk => (g0.ge k hk).1)
  have hg1' : Gr w1 w.heap.size 3 v1 n0 (fun i => .int .i64 (x i)) := by
    first
      | exact hg1
      | (rw [Nat.zero_add] at hg1; exact hg1.congr fun i _ => by rw [if_neg (by omega)]; rfl)
  have hz1 := hs1.size
  clear g0 hs0 hx0 hg1 hgr1
  go_wp2_with (at_builtin; go_must (refine wpList_push w1 rfl _ _ 22 rfl w.heap.size 3 (.int .i64 0) 8 Tryd.underlying22 Tryd.infoInt rfl _ _ _ _ (by rfl) hg1' (by rfl) rfl (by omega) (by omega) hz1 ?_))
  intro v2 w2 hg2 hgr2 _
  have hs2 : w.Since w.heap.size w2 := (hs1.alloc hz1 _).grown hgr2 (by simp; omega) (fun k hk => (hg1'.ge k hk).1)
  have hu2 := HU.out.since hs2
  have hz2 := hs2.size
  clear hg1' hs1 hgr2 hz1
  go_wp2_with (at_builtin; go_must (refine wpList_cat _ rfl _ _ 22 rfl w.heap.size 3 (.int .i64 0) 8 Tryd.underlying22 Tryd.infoInt rfl _ _ _ rfl hg2 rfl hu2 (fun _ _ => rfl) (by omega) (by omega) hz2 ?_))
  intro v3 w3 hg3 hgr3 _
  have hs3 : w.Since w.heap.size w3 := hs2.grown hgr3 hz2 (fun k hk => (hg2.ge k hk).1)
  have hz3 := hs3.size
  clear hg2 hs2 hgr3 hz2 hu2
  go_wp2_with (at_builtin; go_must (refine wpList_push w3 rfl _ _ 22 rfl w.heap.size 3 (.int .i64 0) 8 Tryd.underlying22 Tryd.infoInt rfl _ _ _ _ (by rfl) hg3 (by rfl) rfl (by omega) (by omega) hz3 ?_))
  intro v4 w4 hg4 hgr4 _
  have hs4 : w.Since w.heap.size w4 := (hs3.alloc hz3 _).grown hgr4 (by simp; omega) (fun k hk => (hg3.ge k hk).1)
  have hz4 := hs4.size
  have hzz := HZ.out.since hs4
  clear hg3 hs3 hgr4 hz3
  go_wp2_with (at_builtin; go_must (refine wpList_cat _ rfl _ _ 22 rfl w.heap.size 3 (.int .i64 0) 8 Tryd.underlying22 Tryd.infoInt rfl _ _ _ rfl hg4 rfl hzz (fun _ _ => rfl) (by omega) (by omega) hz4 ?_))
  intro v5 w5 hg5 hgr5 _
  have hs5 : w.Since w.heap.size w5 := hs4.grown hgr5 hz4 (fun k hk => (hg4.ge k hk).1)
  have hg6 := hg5.congr (g := fun i => .int .i64 (encF n0 n2 x t u z i)) (fun i hi => by
    unfold encF
    by_cases q1 : i < n0
    · rw [if_pos (by omega), if_neg (by omega), if_pos (by omega), if_neg (by omega), if_pos q1]
    by_cases q2 : i = n0
    · rw [if_pos (by omega), if_neg (by omega), if_pos (by omega), if_pos q2, if_neg q1, if_pos q2]
    by_cases q3 : i < n0 + 1 + n2
    · rw [if_pos (by omega), if_neg (by omega), if_neg (by omega), if_neg q1, if_neg q2, if_pos q3]
    by_cases q4 : i = n0 + 1 + n2
    · rw [if_pos (by omega), if_pos q4, if_neg q1, if_neg q2, if_neg q3, if_pos q4]
    · rw [if_neg (by omega), if_neg q1, if_neg q2, if_neg q3, if_neg q4, show i - (n0 + 1 + n2 + 1) = i - (n0 + 2 + n2) by omega])
  clear hg4 hs4 hgr5 hz4 hzz hg5
  go_wp2_with fail
  go_ret
  exact hg6.ret hs5 (Nat.le_refl _)

theorem encF_hi {p a : Nat} {x : Nat → Int} {t : Int} {u z : Nat → Int} {i : Nat} (h : p + 1 + a ≤ i) : encF p a x t u z i = if i = p + 1 + a then 22 else z (i - (p + 2 + a)) := by
  unfold encF
  rw [if_neg (by omega), if_neg (by omega), if_neg (by omega)]
end Go.Proofs.YtkocpijloiamcaaDoor
