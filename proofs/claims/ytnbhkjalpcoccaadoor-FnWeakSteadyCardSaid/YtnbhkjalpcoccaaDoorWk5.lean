/- W5, run by run. No program in sight. -/
import Derived.Test.YtnbhkjalpcoccaaDoorWk
import Derived.Test.YtnbhkjalpcoccaaDoorCls
namespace Go.Proofs.YtnbhkjalpcoccaaDoor

/-- How far W5 has come. -/
def W5St (n : Nat) (f : Nat → Int) (k : Nat) (cur : Nat → Int) : Prop :=
  ∃ m, k ≤ m ∧ m ≤ n ∧ (∀ j, j < m → cur j = w5 n f j) ∧ (∀ j, m ≤ j → j < n → cur j = f j) ∧ (0 < m → m < n → f m = 4 → f (m - 1) ≠ 4)

variable {n k : Nat} {f cur : Nat → Int}

theorem W5St.start : W5St n f 0 f := ⟨0, by omega, by omega, fun j hj => absurd hj (Nat.not_lt_zero _), fun _ _ _ => rfl, fun h => absurd h (Nat.lt_irrefl _)⟩
theorem W5St.fin (h : W5St n f n cur) {j : Nat} (hj : j < n) : cur j = w5 n f j := by
  obtain ⟨m, h1, h2, h3, _⟩ := h
  exact h3 j (by omega)

theorem w5_not {j : Nat} (h : f j ≠ 4) : w5 n f j = f j := by unfold w5; rw [if_neg (fun q => h q.1)]
theorem w5_or (j : Nat) : w5 n f j = f j ∨ (w5 n f j = 2 ∧ chg n f j) := by
  unfold w5
  by_cases q : chg n f j
  · rw [if_pos q]; exact .inr ⟨rfl, q⟩
  · rw [if_neg q]; exact .inl rfl

theorem W5St.skip (h : W5St n f k cur) (hk : k < n) (hN : cur k ≠ 4) : W5St n f (k + 1) cur := by
  obtain ⟨m, h1, h2, h3, h4, h5⟩ := h
  by_cases he : m = k
  · subst he
    have hc := h4 m (by omega) hk
    rw [hc] at hN
    refine ⟨m + 1, by omega, by omega, fun j hj => ?_, fun j a b => h4 j (by omega) b, fun _ _ _ => by rw [Nat.add_sub_cancel]; exact hN⟩
    rcases Nat.lt_succ_iff_lt_or_eq.1 hj with q | q
    · exact h3 j q
    · subst q; rw [hc, w5_not hN]
  · exact ⟨m, by omega, h2, h3, h4, h5⟩

/-- Along a run of terminators both sides are the same. -/
theorem chg_run {i j : Nat} (hij : i ≤ j) (hj : j < n) (h : ∀ r, i ≤ r → r ≤ j → f r = 4) : chg n f i ↔ chg n f j := by
  have h1 := run_bef (N := ET f) (st := f) (sos := 0) hij (fun r a b => ET_iff.2 (h r a (by omega)))
  have h2 := run_beh (N := ET f) (st := f) (eos := 0) hij (Nat.le_of_lt hj) (fun r a b => ET_iff.2 (h r a (by omega)))
  have h3 := h i (Nat.le_refl _) hij
  have h4 := h j hij (Nat.le_refl _)
  unfold chg
  rw [h1, h2]
  omega

theorem nxt_congr5 {N N' : Nat → Bool} : ∀ f i, (∀ j, i ≤ j → j < i + f → N j = N' j) → nxt N f i = nxt N' f i
  | 0, _, _ => rfl
  | f + 1, i, h => by
    rw [nxt, nxt, h i (Nat.le_refl _) (by omega), nxt_congr5 f (i + 1) (fun j a b => h j (by omega) (by omega))]

theorem mem4 (v : Int) : memB [4] v = decide (v = 4) := by
  rw [Bool.eq_iff_iff, memB_iff, decide_eq_true_eq]
  simp only [List.mem_cons, List.not_mem_nil, or_false]

theorem W5St.run (h : W5St n f k cur) (hk : k < n) (hN : cur k = 4) {E : Nat} (hE : E = nxt (fun j => memB [4] (cur j)) (n - k) k) {sos eos t1 t2 : Int} (hs : sos ≠ 2) (he : eos ≠ 2)
    (ht1 : t1 = if k = 0 then sos else cur (k - 1)) (ht2 : t2 = if E < n then cur E else eos) {cur' : Nat → Int}
    (hcur : ∀ j, j < n → cur' j = if (t1 = 2 ∨ t2 = 2) ∧ k ≤ j ∧ j < E then 2 else cur j) : W5St n f (k + 1) cur' := by
  obtain ⟨m, h1, h2, h3, h4, h5⟩ := h
  have hle := nxt_le (N := fun j => memB [4] (cur j)) (n - k) k
  rw [← hE] at hle
  have hin : ∀ j, k ≤ j → j < E → cur j = 4 := fun j a b => by
    have := nxt_in (N := fun j => memB [4] (cur j)) (n - k) k j a (by rw [← hE]; exact b)
    rw [mem4] at this; exact of_decide_eq_true this
  have hge : k + 1 ≤ E := by
    rw [hE, nxt_neu (N := fun j => memB [4] (cur j)) hk (by rw [mem4]; exact decide_eq_true hN)]; exact nxt_ge _ _
  have hat : E < n → cur E ≠ 4 := fun q => by
    have := nxt_at (N := fun j => memB [4] (cur j)) (n - k) k (by rw [← hE]; omega)
    rw [← hE, mem4] at this; exact of_decide_eq_false this
  have hcf : ∀ j, j < n → cur j = f j ∨ (cur j = 2 ∧ chg n f j) := fun j hj => by
    by_cases q : j < m
    · rw [h3 j q]; exact w5_or j
    · exact .inl (h4 j (by omega) hj)
  have hf4 : ∀ j, k ≤ j → j < E → f j = 4 := fun j a b => by
    have := hin j a b
    rcases hcf j (by omega) with q | q
    · omega
    · omega
  by_cases hmk : k < m
  · -- behind what was done
    have hnc : ¬ chg n f k := by
      have := h3 k hmk
      unfold w5 at this
      intro q
      rw [if_pos q] at this
      omega
    have hn1 : t1 ≠ 2 := by
      rw [ht1]
      by_cases z : k = 0
      · rw [if_pos z]; exact hs
      · rw [if_neg z]
        obtain ⟨r, rfl⟩ : ∃ r, k = r + 1 := ⟨k - 1, by omega⟩
        rw [Nat.add_sub_cancel]
        intro q
        rcases hcf r (by omega) with z | ⟨_, z⟩
        · apply hnc
          refine ⟨hf4 _ (Nat.le_refl _) (by omega), .inl ?_⟩
          rw [bef_succ_not (N := ET f) (ET_not.2 (by omega))]; omega
        · apply hnc
          exact (chg_run (i := r) (j := r + 1) (by omega) hk (fun i a b => by
            by_cases e : i = r
            · rw [e]; exact z.1
            · exact hf4 i (by omega) (by omega))).1 z
    have hn2 : t2 ≠ 2 := by
      rw [ht2]
      by_cases z : E < n
      · rw [if_pos z]
        intro q
        have hb := run_beh (n := n) (N := ET f) (st := f) (eos := 0) (i := k) (j := E) (by omega) (by omega) (fun r a b => ET_iff.2 (hf4 r a b))
        rcases hcf E z with y | ⟨_, y⟩
        · apply hnc
          refine ⟨hf4 _ (Nat.le_refl _) (by omega), .inr ?_⟩
          rw [hb, beh_not (N := ET f) z (ET_not.2 (by omega))]; omega
        · apply hnc
          exact (chg_run (i := k) (j := E) (by omega) z (fun i a b => by
            by_cases e : i = E
            · rw [e]; exact y.1
            · exact hf4 i (by omega) (by omega))).2 y
      · rw [if_neg z]; exact he
    have hsame : ∀ j, j < n → cur' j = cur j := fun j hj => by rw [hcur j hj, if_neg (by omega)]
    exact ⟨m, by omega, h2, fun j hj => by rw [hsame j (by omega)]; exact h3 j hj, fun j a b => by rw [hsame j b]; exact h4 j a b, h5⟩
  · obtain rfl : m = k := by omega
    have hb := run_beh (n := n) (N := ET f) (st := f) (eos := 0) (i := m) (j := E) (by omega) (by omega) (fun r a b => ET_iff.2 (hf4 r a b))
    have e1 : t1 = 2 ↔ bef (ET f) f 0 m = 2 := by
      rw [ht1]
      by_cases z : m = 0
      · subst z; rw [if_pos rfl, bef]; omega
      · rw [if_neg z]
        have hp := h5 (by omega) hk (hf4 m (Nat.le_refl _) (by omega))
        obtain ⟨r, rfl⟩ : ∃ r, m = r + 1 := ⟨m - 1, by omega⟩
        rw [Nat.add_sub_cancel] at hp ⊢
        rw [bef_succ_not (N := ET f) (ET_not.2 hp), h3 r (by omega), w5_not hp]
    have e2 : t2 = 2 ↔ beh (ET f) f 0 (n - m) m = 2 := by
      rw [ht2, hb]
      by_cases z : E < n
      · have := hat z
        rw [h4 E (by omega) z] at this ⊢
        rw [if_pos z, beh_not (N := ET f) z (ET_not.2 this)]
      · rw [if_neg z, beh_end (by omega)]; omega
    have hch : (t1 = 2 ∨ t2 = 2) ↔ chg n f m := by
      rw [e1, e2]; unfold chg
      have := hf4 m (Nat.le_refl _) (by omega)
      omega
    refine ⟨E, by omega, by omega, fun j hj => ?_, fun j a b => ?_, fun _ q z => ?_⟩
    · rw [hcur j (by omega)]
      by_cases z : m ≤ j
      · have hr := chg_run (n := n) (f := f) (i := m) (j := j) z (by omega) (fun r a b => hf4 r a (by omega))
        unfold w5
        by_cases y : t1 = 2 ∨ t2 = 2
        · rw [if_pos ⟨y, z, hj⟩, if_pos (hr.1 (hch.1 y))]
        · rw [if_neg (fun q => y q.1), if_neg (fun q => y (hch.2 (hr.2 q))), h4 j z (by omega)]
      · rw [if_neg (by omega), h3 j (by omega)]
    · rw [hcur j b, if_neg (by omega), h4 j (by omega) b]
    · have := hat q
      rw [h4 E (by omega) q] at this
      exact absurd z this

end Go.Proofs.YtnbhkjalpcoccaaDoor
