/- Level runs and isolates in plain Lean: a run that ends in an isolate initiator with a matching PDI is followed by the run that this PDI begins. No program in sight. -/
import Derived.Test.YtjelgbfgciaapaaDoorRunsP
import Derived.Test.YtjelgbfgciaapaaDoorMtch
import Derived.Test.YtjelgbfgciaapaaDoorIso2
import Derived.Test.YtjelgbfgciaapaaDoorChn
namespace Go.Proofs.YtjelgbfgciaapaaDoor
set_option linter.unusedVariables false

/-- Does a run begin there? -/
def newR (lv : Nat → Int) (p : Nat) : Prop := lv p ≠ -1 ∧ lv p ≠ lastL lv p
/-- Does a run of the first n characters end there? -/
def lastR (lv : Nat → Int) (n i : Nat) : Prop := ∀ q, i < q → q < n → lv q ≠ -1 → (∀ j, i < j → j < q → lv j = -1) → lv q ≠ lv i
/-- The run on which a place lies. -/
def rix (lv : Nat → Int) (i : Nat) : Nat := (runs lv (i + 1)).length - 1

section
variable {lv : Nat → Int}

theorem runs_len_step (k : Nat) : (lv k = -1 → (runs lv (k + 1)).length = (runs lv k).length) ∧ (newR lv k → (runs lv (k + 1)).length = (runs lv k).length + 1) ∧ (lv k ≠ -1 → lv k = lastL lv k → (runs lv (k + 1)).length = (runs lv k).length ∧ 1 ≤ (runs lv k).length) := by
  refine ⟨fun h => ?_, fun h => ?_, fun h h2 => ?_⟩
  · rw [runs_step, if_pos h]
  · rw [runs_step, if_neg h.1, if_neg h.2]; simp
  · rw [runs_step, if_neg h, if_pos h2]
    have hl : lastL lv k ≠ -1 := by rw [← h2]; exact h
    unfold runs
    rw [if_neg hl]; simp

theorem runs_len_mono {a b : Nat} (h : a ≤ b) : (runs lv a).length ≤ (runs lv b).length := by
  induction b with
  | zero => have : a = 0 := by omega
            subst this; exact Nat.le_refl _
  | succ b ih =>
    by_cases e : a = b + 1
    · subst e; exact Nat.le_refl _
    · have := ih (by omega)
      have hs := runs_len_step (lv := lv) b
      by_cases e1 : lv b = -1
      · have := hs.1 e1; omega
      · by_cases e2 : lv b = lastL lv b
        · have := (hs.2.2 e1 e2).1; omega
        · have := hs.2.1 ⟨e1, e2⟩; omega

theorem runs_pos {i : Nat} (h : lv i ≠ -1) : 1 ≤ (runs lv (i + 1)).length := by
  have hs := runs_len_step (lv := lv) i
  by_cases e2 : lv i = lastL lv i
  · have := hs.2.2 h e2; omega
  · have := hs.2.1 ⟨h, e2⟩; omega

theorem rix_mono {a b : Nat} (h : a ≤ b) : rix lv a ≤ rix lv b := by
  have := runs_len_mono (lv := lv) (show a + 1 ≤ b + 1 by omega)
  unfold rix; omega

theorem rix_new {a p : Nat} (h : a < p) (ha : lv a ≠ -1) (hp : newR lv p) : rix lv a < rix lv p := by
  have h1 := runs_len_mono (lv := lv) (show a + 1 ≤ p by omega)
  have h2 := (runs_len_step (lv := lv) p).2.1 hp
  have h3 := runs_pos ha
  unfold rix; omega

theorem rix_lt {i n : Nat} (h : lv i ≠ -1) (hi : i < n) : rix lv i < (runs lv n).length := by
  have h1 := runs_len_mono (lv := lv) (show i + 1 ≤ n by omega)
  have h3 := runs_pos h
  unfold rix; omega

/-- The row on which a place lies has it. -/
theorem mem_rix : ∀ k i, i < k → lv i ≠ -1 → i ∈ (runs lv k).getD (rix lv i) [] ∧ (newR lv i → hd ((runs lv k).getD (rix lv i) []) = i)
  | 0, i, h, _ => absurd h (Nat.not_lt_zero _)
  | k + 1, i, hi, hn => by
    have hrl := rix_lt hn hi
    by_cases e : i = k
    · subst e
      have hr : rix lv i = (runs lv (i + 1)).length - 1 := rfl
      rw [hr]
      by_cases e2 : lv i = lastL lv i
      · have hs := (runs_len_step (lv := lv) i).2.2 hn e2
        have e3 : runs lv (i + 1) = (rs lv i).1 ++ [(rs lv i).2 ++ [i]] := by rw [runs_step, if_neg hn, if_pos e2]
        rw [e3]
        simp only [List.length_append, List.length_cons, List.length_nil, Nat.zero_add, Nat.add_sub_cancel]
        rw [getD_snoc, if_pos rfl]
        exact ⟨by simp, fun h => absurd e2 h.2⟩
      · have e3 : runs lv (i + 1) = runs lv i ++ [[i]] := by rw [runs_step, if_neg hn, if_neg e2]
        rw [e3]
        simp only [List.length_append, List.length_cons, List.length_nil, Nat.zero_add, Nat.add_sub_cancel]
        rw [getD_snoc, if_pos rfl]
        exact ⟨by simp, fun _ => rfl⟩
    · have ih := mem_rix k i (by omega) hn
      have hrk := rix_lt (n := k) hn (by omega)
      by_cases e1 : lv k = -1
      · have e3 : runs lv (k + 1) = runs lv k := by rw [runs_step, if_pos e1]
        rw [e3]; exact ih
      · by_cases e2 : lv k = lastL lv k
        · have e3 : runs lv (k + 1) = (rs lv k).1 ++ [(rs lv k).2 ++ [k]] := by rw [runs_step, if_neg e1, if_pos e2]
          have e4 : runs lv k = (rs lv k).1 ++ [(rs lv k).2] := by unfold runs; rw [if_neg (by rw [← e2]; exact e1)]
          rw [e4] at ih
          rw [e3]
          rw [getD_snoc] at ih ⊢
          by_cases e5 : rix lv i = (rs lv k).1.length
          · rw [if_pos e5] at ih ⊢
            have hne : (rs lv k).2 ≠ [] := fun h => by rw [h] at ih; cases ih.1
            exact ⟨List.mem_append_left _ ih.1, fun h => by rw [hd_snoc hne]; exact ih.2 h⟩
          · rw [if_neg e5] at ih ⊢; exact ih
        · have e3 : runs lv (k + 1) = runs lv k ++ [[k]] := by rw [runs_step, if_neg e1, if_neg e2]
          rw [e3, getD_snoc, if_neg (by omega)]; exact ih

/-- .. and no other row has. -/
theorem rix_of_mem : ∀ k j i, j < (runs lv k).length → i ∈ (runs lv k).getD j [] → rix lv i = j ∧ i < k ∧ lv i ≠ -1
  | 0, j, i, hj, _ => by have : (runs lv 0).length = 0 := rfl
                         omega
  | k + 1, j, i, hj, hm => by
    by_cases e1 : lv k = -1
    · have e3 : runs lv (k + 1) = runs lv k := by rw [runs_step, if_pos e1]
      rw [e3] at hj hm
      have := rix_of_mem k j i hj hm
      exact ⟨this.1, by omega, this.2.2⟩
    · by_cases e2 : lv k = lastL lv k
      · have e3 : runs lv (k + 1) = (rs lv k).1 ++ [(rs lv k).2 ++ [k]] := by rw [runs_step, if_neg e1, if_pos e2]
        have e4 : runs lv k = (rs lv k).1 ++ [(rs lv k).2] := by unfold runs; rw [if_neg (by rw [← e2]; exact e1)]
        have hl := ((runs_len_step (lv := lv) k).2.2 e1 e2).1
        rw [hl] at hj
        rw [e3, getD_snoc] at hm
        by_cases e5 : j = (rs lv k).1.length
        · rw [if_pos e5] at hm
          rcases List.mem_append.1 hm with h | h
          · have := rix_of_mem k j i hj (by rw [e4, getD_snoc, if_pos e5]; exact h)
            exact ⟨this.1, by omega, this.2.2⟩
          · have hik : i = k := by simpa using h
            rw [hik]
            refine ⟨?_, by omega, e1⟩
            unfold rix
            rw [e3]; simp; exact e5.symm
        · rw [if_neg e5] at hm
          have := rix_of_mem k j i hj (by rw [e4, getD_snoc, if_neg e5]; exact hm)
          exact ⟨this.1, by omega, this.2.2⟩
      · have e3 : runs lv (k + 1) = runs lv k ++ [[k]] := by rw [runs_step, if_neg e1, if_neg e2]
        have hl := (runs_len_step (lv := lv) k).2.1 ⟨e1, e2⟩
        rw [hl] at hj
        rw [e3, getD_snoc] at hm
        by_cases e5 : j = (runs lv k).length
        · rw [if_pos e5] at hm
          have hik : i = k := by simpa using hm
          rw [hik]
          refine ⟨?_, by omega, e1⟩
          unfold rix
          rw [hl]; omega
        · rw [if_neg e5] at hm
          have := rix_of_mem k j i (by omega) hm
          exact ⟨this.1, by omega, this.2.2⟩

/-- A row begins where a run begins. -/
theorem hd_new : ∀ k j, j < (runs lv k).length → newR lv (hd ((runs lv k).getD j []))
  | 0, j, hj => by have : (runs lv 0).length = 0 := rfl
                   omega
  | k + 1, j, hj => by
    by_cases e1 : lv k = -1
    · have e3 : runs lv (k + 1) = runs lv k := by rw [runs_step, if_pos e1]
      rw [e3] at hj ⊢
      exact hd_new k j hj
    · by_cases e2 : lv k = lastL lv k
      · have hlk : lastL lv k ≠ -1 := by rw [← e2]; exact e1
        have e3 : runs lv (k + 1) = (rs lv k).1 ++ [(rs lv k).2 ++ [k]] := by rw [runs_step, if_neg e1, if_pos e2]
        have e4 : runs lv k = (rs lv k).1 ++ [(rs lv k).2] := by unfold runs; rw [if_neg hlk]
        have hl := ((runs_len_step (lv := lv) k).2.2 e1 e2).1
        rw [hl] at hj
        have ih := hd_new k j hj
        rw [e4, getD_snoc] at ih
        rw [e3, getD_snoc]
        by_cases e5 : j = (rs lv k).1.length
        · rw [if_pos e5] at ih ⊢
          rw [hd_snoc (rs_last_ne k hlk)]; exact ih
        · rw [if_neg e5] at ih ⊢; exact ih
      · have e3 : runs lv (k + 1) = runs lv k ++ [[k]] := by rw [runs_step, if_neg e1, if_neg e2]
        have hl := (runs_len_step (lv := lv) k).2.1 ⟨e1, e2⟩
        rw [hl] at hj
        rw [e3, getD_snoc]
        by_cases e5 : j = (runs lv k).length
        · rw [if_pos e5]; exact ⟨e1, e2⟩
        · rw [if_neg e5]; exact hd_new k j (by omega)

def lst (l : List Nat) : Nat := l.getLastD 0

theorem lst_snoc (l : List Nat) (k : Nat) : lst (l ++ [k]) = k := by unfold lst; simp
theorem lst_mem {l : List Nat} (h : l ≠ []) : lst l ∈ l := by
  unfold lst
  rw [List.getLastD_eq_getLast?, List.getLast?_eq_some_getLast h]
  exact List.getLast_mem h

/-- Rows ascend. -/
theorem row_le : ∀ k j i, j < (runs lv k).length → i ∈ (runs lv k).getD j [] → i ≤ lst ((runs lv k).getD j [])
  | 0, j, i, hj, _ => by have : (runs lv 0).length = 0 := rfl
                         omega
  | k + 1, j, i, hj, hm => by
    by_cases e1 : lv k = -1
    · have e3 : runs lv (k + 1) = runs lv k := by rw [runs_step, if_pos e1]
      rw [e3] at hj hm ⊢
      exact row_le k j i hj hm
    · by_cases e2 : lv k = lastL lv k
      · have hlk : lastL lv k ≠ -1 := by rw [← e2]; exact e1
        have e3 : runs lv (k + 1) = (rs lv k).1 ++ [(rs lv k).2 ++ [k]] := by rw [runs_step, if_neg e1, if_pos e2]
        have e4 : runs lv k = (rs lv k).1 ++ [(rs lv k).2] := by unfold runs; rw [if_neg hlk]
        have hl := ((runs_len_step (lv := lv) k).2.2 e1 e2).1
        have hi := (rix_of_mem (k + 1) j i hj hm).2.1
        rw [hl] at hj
        rw [e3, getD_snoc] at hm ⊢
        by_cases e5 : j = (rs lv k).1.length
        · rw [if_pos e5] at hm ⊢
          rw [lst_snoc]; omega
        · rw [if_neg e5] at hm ⊢
          have := row_le k j i hj (by rw [e4, getD_snoc, if_neg e5]; exact hm)
          rw [e4, getD_snoc, if_neg e5] at this; exact this
      · have e3 : runs lv (k + 1) = runs lv k ++ [[k]] := by rw [runs_step, if_neg e1, if_neg e2]
        have hl := (runs_len_step (lv := lv) k).2.1 ⟨e1, e2⟩
        rw [hl] at hj
        rw [e3, getD_snoc] at hm ⊢
        by_cases e5 : j = (runs lv k).length
        · rw [if_pos e5] at hm ⊢
          have hik : i = k := by simpa using hm
          rw [hik]; exact Nat.le_refl _
        · rw [if_neg e5] at hm ⊢
          exact row_le k j i (by omega) hm

/-- The last one ahead of a place that is not removed. -/
theorem lastL_spec : ∀ m i, i < m → lv i ≠ -1 → ∃ k, i ≤ k ∧ k < m ∧ lv k ≠ -1 ∧ lastL lv m = lv k ∧ ∀ j, k < j → j < m → lv j = -1
  | 0, i, h, _ => absurd h (Nat.not_lt_zero _)
  | m + 1, i, h, hi => by
    by_cases e : lv m = -1
    · have him : i ≠ m := fun e2 => hi (by rw [e2]; exact e)
      obtain ⟨k, h1, h2, h3, h4, h5⟩ := lastL_spec m i (by omega) hi
      exact ⟨k, h1, by omega, h3, by rw [(rs_rem e).2]; exact h4, fun j hj hj2 => by
        by_cases e3 : j = m
        · rw [e3]; exact e
        · exact h5 j hj (by omega)⟩
    · exact ⟨m, by omega, by omega, e, lastL_of e, fun j h1 h2 => by omega⟩

/-- The next one behind a place that is not removed. -/
theorem next_spec {l : Nat} (hl : lv l ≠ -1) : ∀ d i, i < l → l - i = d → ∃ q, i < q ∧ q ≤ l ∧ lv q ≠ -1 ∧ ∀ j, i < j → j < q → lv j = -1
  | 0, i, h, hd => by omega
  | d + 1, i, h, hd => by
    by_cases e : lv (i + 1) = -1
    · have hne : i + 1 ≠ l := fun e2 => hl (by rw [← e2]; exact e)
      obtain ⟨q, h1, h2, h3, h4⟩ := next_spec hl d (i + 1) (by omega) (by omega)
      exact ⟨q, by omega, h2, h3, fun j hj hj2 => by
        by_cases e3 : j = i + 1
        · rw [e3]; exact e
        · exact h4 j (by omega) hj2⟩
    · exact ⟨i + 1, by omega, by omega, e, fun j h1 h2 => by omega⟩

/-- A row ends where a run ends. -/
theorem lst_last {n j : Nat} (hj : j < (runs lv n).length) : lastR lv n (lst ((runs lv n).getD j [])) := by
  intro q h1 h2 h3 h4 e
  have hne := (runs_at hj).ne
  have hm := lst_mem hne
  have hr := rix_of_mem n j _ hj hm
  obtain ⟨k, g1, g2, g3, g4, g5⟩ := lastL_spec (lv := lv) q _ h1 hr.2.2
  have hk : k = lst ((runs lv n).getD j []) := by
    rcases Nat.lt_or_ge (lst ((runs lv n).getD j [])) k with h | h
    · exact absurd (h4 k h g2) g3
    · omega
  have hq := (runs_len_step (lv := lv) q).2.2 h3 (by rw [g4, hk]; exact e)
  have hle := runs_len_mono (lv := lv) (show lst ((runs lv n).getD j []) + 1 ≤ q by omega)
  have hlq : (runs lv q).length ≤ (runs lv (lst ((runs lv n).getD j []) + 1)).length := by
    -- nothing begins between
    have key : ∀ b, lst ((runs lv n).getD j []) + 1 ≤ b → b ≤ q → (runs lv b).length = (runs lv (lst ((runs lv n).getD j []) + 1)).length := by
      intro b
      induction b with
      | zero => intro h; omega
      | succ b ih =>
        intro hb hb2
        by_cases e2 : b = lst ((runs lv n).getD j [])
        · rw [e2]
        · rw [(runs_len_step (lv := lv) b).1 (h4 b (by omega) (by omega))]; exact ih (by omega) (by omega)
    exact Nat.le_of_eq (key q (by omega) (Nat.le_refl _))
  have hrq : rix lv q = j := by
    rw [← hr.1]
    unfold rix
    rw [hq.1]; omega
  have hmq := (mem_rix n q h2 h3).1
  rw [hrq] at hmq
  have := row_le n j q hj hmq
  omega

/-- A run's end is its row's. -/
theorem lst_of_last {n i : Nat} (hi : i < n) (hn : lv i ≠ -1) (h : lastR lv n i) : lst ((runs lv n).getD (rix lv i) []) = i := by
  have hj := rix_lt hn hi
  have hm := (mem_rix n i hi hn).1
  have hle := row_le n _ i hj hm
  rcases Nat.lt_or_ge i (lst ((runs lv n).getD (rix lv i) [])) with hlt | hge
  · have hml := lst_mem (runs_at hj).ne
    have hr := rix_of_mem n _ _ hj hml
    obtain ⟨q, g1, g2, g3, g4⟩ := next_spec hr.2.2 _ i hlt rfl
    have hq : lv q = lv i := by
      by_cases e : newR lv q
      · have h1 := rix_new g1 hn e
        have h2 := rix_mono (lv := lv) g2
        rw [hr.1] at h2
        omega
      · obtain ⟨k, k1, k2, k3, k4, k5⟩ := lastL_spec (lv := lv) q i g1 hn
        have hki : k = i := by
          rcases Nat.lt_or_ge i k with h | h
          · exact absurd (g4 k h k2) k3
          · omega
        unfold newR at e
        by_cases e2 : lv q = lastL lv q
        · rw [e2, k4, hki]
        · exact absurd ⟨g3, e2⟩ e
    exact absurd hq (h q g1 (by have := hr.2.1; omega) g3 g4)
  · omega
end

section
variable {x fs : Nat → Int} {base : Int} {n : Nat}

/-- The levels of a text, -1 for what X9 removes. -/
def lvR (x fs : Nat → Int) (base : Int) (i : Nat) : Int := if remN (x i) = true then -1 else lvl x fs base i

theorem lvR_of {i : Nat} (h : remN (x i) = false) : lvR x fs base i = lvl x fs base i := by unfold lvR; rw [if_neg (by rw [h]; decide)]
theorem lvR_ne (hb : base = 0 ∨ base = 1) {i : Nat} : lvR x fs base i ≠ -1 ↔ remN (x i) = false := by
  unfold lvR
  cases h : remN (x i) with
  | true => simp
  | false =>
    have := lvl_range (x := x) (fs := fs) (base := base) (by omega) (by omega) i
    simp; omega

theorem rem_ini {t : Int} (h : iniB t = true) : remN t = false := by
  unfold iniB at h; rw [decide_eq_true_eq] at h
  unfold remN; rw [decide_eq_false_iff_not]; omega

/-- The matching PDI of an initiator that ends a run begins one. -/
theorem match_new (hb : base = 0 ∨ base = 1) (hB : ∀ i, i < n → x i = 7 → n ≤ i + 1) {i : Nat} (hi : i < n) (h : iniN x i = true) (hm : mat (iniN x) (pdiN x) n i < n) (hl : lastR (lvR x fs base) n i) :
    newR (lvR x fs base) (mat (iniN x) (pdiN x) n i) := by
  obtain ⟨h22, _⟩ := (in_isolate (fs := fs) (base := base) (by omega) hi h).2 hm
  have hgt := mat_gt (ini := iniN x) (pdi := pdiN x) hi
  have hlm := lvl_match (fs := fs) (base := base) (by omega) hi h hm
  have hri : remN (x i) = false := rem_ini h
  have hrm : remN (x (mat (iniN x) (pdiN x) n i)) = false := by rw [h22]; decide
  have n7 : ∀ k, k < mat (iniN x) (pdiN x) n i → x k ≠ 7 := fun k hk e => by have := hB k (by omega) e; omega
  have hne := (lvR_ne (x := x) (fs := fs) (base := base) hb).2 hrm
  refine ⟨hne, fun e => ?_⟩
  obtain ⟨k, k1, k2, k3, k4, k5⟩ := lastL_spec (lv := lvR x fs base) _ i hgt ((lvR_ne hb).2 hri)
  have hrk := (lvR_ne (x := x) (fs := fs) (base := base) hb).1 k3
  by_cases hki : k = i
  · -- nothing stands between
    refine hl _ hgt hm hne (fun j h1 h2 => k5 j (by omega) h2) ?_
    rw [lvR_of hrm, lvR_of hri]; exact hlm
  · have hik : i < k := by omega
    rw [k4, lvR_of hrm, lvR_of hrk, hlm] at e
    rcases lvl_inside (fs := fs) (base := base) (by omega) (by omega) hi h with h1 | h1
    · have := h1 k hik k2 (n7 k k2); omega
    · obtain ⟨q, g1, g2, g3, g4⟩ := next_spec k3 _ i hik rfl
      have hrq := (lvR_ne (x := x) (fs := fs) (base := base) hb).1 g3
      refine hl q g1 (by omega) g3 g4 ?_
      rw [lvR_of hrq, lvR_of hri]; exact h1 q g1 (by omega) (n7 q (by omega))

/-- The initiator of a matching PDI that begins a run ends one. -/
theorem match_last (hb : base = 0 ∨ base = 1) (hB : ∀ i, i < n → x i = 7 → n ≤ i + 1) {i : Nat} (hi : i < n) (h : iniN x i = true) (hm : mat (iniN x) (pdiN x) n i < n) (hp : newR (lvR x fs base) (mat (iniN x) (pdiN x) n i)) :
    lastR (lvR x fs base) n i := by
  obtain ⟨h22, _⟩ := (in_isolate (fs := fs) (base := base) (by omega) hi h).2 hm
  have hgt := mat_gt (ini := iniN x) (pdi := pdiN x) hi
  have hlm := lvl_match (fs := fs) (base := base) (by omega) hi h hm
  have hri : remN (x i) = false := rem_ini h
  have hrm : remN (x (mat (iniN x) (pdiN x) n i)) = false := by rw [h22]; decide
  have n7 : ∀ k, k < mat (iniN x) (pdiN x) n i → x k ≠ 7 := fun k hk e => by have := hB k (by omega) e; omega
  intro q q1 q2 q3 q4 e
  obtain ⟨k, k1, k2, k3, k4, k5⟩ := lastL_spec (lv := lvR x fs base) _ i hgt ((lvR_ne hb).2 hri)
  have hrk := (lvR_ne (x := x) (fs := fs) (base := base) hb).1 k3
  have hd := hp.2
  rw [k4, lvR_of hrm, hlm, lvR_of hrk] at hd
  have hki : k ≠ i := fun e2 => hd (by rw [e2])
  have hik : i < k := by omega
  have hqk : q ≤ k := by
    rcases Nat.lt_or_ge k q with h1 | h1
    · exact absurd (q4 k hik h1) k3
    · exact h1
  rcases lvl_inside (fs := fs) (base := base) (by omega) (by omega) hi h with h1 | h1
  · have hrq := (lvR_ne (x := x) (fs := fs) (base := base) hb).1 q3
    have := h1 q q1 (by omega) (n7 q (by omega))
    rw [lvR_of hrq, lvR_of hri] at e
    omega
  · exact hd (h1 k hik k2 (n7 k k2)).symm

/-- The run that goes on with a run. -/
def nxR (x fs : Nat → Int) (base : Int) (n r : Nat) : Option Nat :=
  if r < (runs (lvR x fs base) n).length ∧ iniN x (lst ((runs (lvR x fs base) n).getD r [])) = true ∧ mat (iniN x) (pdiN x) n (lst ((runs (lvR x fs base) n).getD r [])) < n then some (rix (lvR x fs base) (mat (iniN x) (pdiN x) n (lst ((runs (lvR x fs base) n).getD r [])))) else none

/-- The run that a run goes on. -/
def pdR (x fs : Nat → Int) (base : Int) (n q : Nat) : Option Nat :=
  if q < (runs (lvR x fs base) n).length ∧ x (hd ((runs (lvR x fs base) n).getD q [])) = 22 ∧ 0 ≤ bg (iniN x) (pdiN x) n n (hd ((runs (lvR x fs base) n).getD q [])) then some (rix (lvR x fs base) (bg (iniN x) (pdiN x) n n (hd ((runs (lvR x fs base) n).getD q []))).toNat) else none

/-- What is known of a run that goes on. -/
theorem nxR_some (hb : base = 0 ∨ base = 1) (hB : ∀ i, i < n → x i = 7 → n ≤ i + 1) {r q : Nat} (h : nxR x fs base n r = some q) :
    ∃ i, i < n ∧ i = lst ((runs (lvR x fs base) n).getD r []) ∧ r = rix (lvR x fs base) i ∧ r < (runs (lvR x fs base) n).length ∧ remN (x i) = false ∧ iniN x i = true ∧ mat (iniN x) (pdiN x) n i < n ∧ x (mat (iniN x) (pdiN x) n i) = 22 ∧
      newR (lvR x fs base) (mat (iniN x) (pdiN x) n i) ∧ q = rix (lvR x fs base) (mat (iniN x) (pdiN x) n i) ∧ q < (runs (lvR x fs base) n).length ∧ hd ((runs (lvR x fs base) n).getD q []) = mat (iniN x) (pdiN x) n i := by
  unfold nxR at h
  by_cases c : r < (runs (lvR x fs base) n).length ∧ iniN x (lst ((runs (lvR x fs base) n).getD r [])) = true ∧ mat (iniN x) (pdiN x) n (lst ((runs (lvR x fs base) n).getD r [])) < n
  · rw [if_pos c] at h
    simp only [Option.some.injEq] at h
    obtain ⟨hr, hi, hm⟩ := c
    have hml := lst_mem (runs_at hr).ne
    have hx := rix_of_mem n r _ hr hml
    have hnew := match_new hb hB hx.2.1 hi hm (lst_last hr)
    have h22 := ((in_isolate (fs := fs) (base := base) (by omega) hx.2.1 hi).2 hm).1
    have hq := rix_lt (n := n) hnew.1 hm
    exact ⟨_, hx.2.1, rfl, hx.1.symm, hr, rem_ini hi, hi, hm, h22, hnew, h.symm, by rw [← h]; exact hq, by rw [← h]; exact (mem_rix n _ hm hnew.1).2 hnew⟩
  · rw [if_neg c] at h; cases h

theorem runs_succ (hb : base = 0 ∨ base = 1) (hB : ∀ i, i < n → x i = 7 → n ≤ i + 1) : Succ (runs (lvR x fs base) n).length (nxR x fs base n) where
  lt r q h := by
    obtain ⟨i, hi, _, hr, _, hrm, _, hm, _, hnew, hq, hql, _⟩ := nxR_some hb hB h
    refine ⟨?_, hql⟩
    rw [hr, hq]
    exact rix_new (mat_gt hi) ((lvR_ne hb).2 hrm) hnew
  inj r1 r2 q h1 h2 := by
    obtain ⟨i, hi, _, hr, _, _, hii, hm, _, _, _, _, hh⟩ := nxR_some hb hB h1
    obtain ⟨i', hi', _, hr', _, _, hii', hm', _, _, _, _, hh'⟩ := nxR_some hb hB h2
    have : i = i' := mat_inj hi hi' hii hii' (by rw [← hh, ← hh']) hm
    rw [hr, hr', this]

theorem runs_pred (hb : base = 0 ∨ base = 1) (hB : ∀ i, i < n → x i = 7 → n ≤ i + 1) : Pred (nxR x fs base n) (pdR x fs base n) where
  iff r q := by
    constructor
    · intro h
      obtain ⟨i, hi, _, hr, _, _, hii, hm, h22, _, _, hql, hh⟩ := nxR_some hb hB h
      have hbg : bg (iniN x) (pdiN x) n n (mat (iniN x) (pdiN x) n i) = i := bg_of hii hm hi n hi (Nat.le_refl _)
      unfold pdR
      rw [hh, if_pos ⟨hql, h22, by rw [hbg]; omega⟩, hbg, hr]
      simp
    · intro h
      unfold pdR at h
      by_cases c : q < (runs (lvR x fs base) n).length ∧ x (hd ((runs (lvR x fs base) n).getD q [])) = 22 ∧ 0 ≤ bg (iniN x) (pdiN x) n n (hd ((runs (lvR x fs base) n).getD q []))
      · rw [if_pos c] at h
        simp only [Option.some.injEq] at h
        obtain ⟨hq, h22, hbg⟩ := c
        obtain ⟨i, hi, hii, hm, hlt, hbe⟩ := bg_some (Nat.le_refl _) hbg
        have hnew := hd_new n q hq
        rw [← hm] at hnew
        have hlast := match_last hb hB hi hii (by rw [hm]; exact hlt) hnew
        have hri : remN (x i) = false := rem_ini hii
        have hne := (lvR_ne (x := x) (fs := fs) (base := base) hb).2 hri
        have hl := lst_of_last hi hne hlast
        have hr : r = rix (lvR x fs base) i := by rw [← h, hbe]; rfl
        have hmq : hd ((runs (lvR x fs base) n).getD q []) ∈ (runs (lvR x fs base) n).getD q [] := by
          have := (runs_at hq).ne
          unfold hd
          cases e : (runs (lvR x fs base) n).getD q [] with
          | nil => exact absurd e this
          | cons y ys => simp
        have hxq := rix_of_mem n q _ hq hmq
        unfold nxR
        rw [hr, hl, if_pos ⟨rix_lt hne hi, hii, by rw [hm]; exact hlt⟩, hm, hxq.1]
      · rw [if_neg c] at h; cases h

/-- A run begins a sequence if its first character is no matching PDI. -/
theorem headB_iff {q : Nat} (hq : q < (runs (lvR x fs base) n).length) : headB (pdR x fs base n) q = true ↔ ¬ (x (hd ((runs (lvR x fs base) n).getD q [])) = 22 ∧ 0 ≤ bg (iniN x) (pdiN x) n n (hd ((runs (lvR x fs base) n).getD q []))) := by
  unfold headB pdR
  by_cases c : x (hd ((runs (lvR x fs base) n).getD q [])) = 22 ∧ 0 ≤ bg (iniN x) (pdiN x) n n (hd ((runs (lvR x fs base) n).getD q []))
  · rw [if_pos ⟨hq, c⟩]
    exact ⟨fun h => (by cases h), fun h => absurd c h⟩
  · rw [if_neg (fun h => c h.2)]
    exact ⟨fun _ => c, fun _ => rfl⟩
end

end Go.Proofs.YtjelgbfgciaapaaDoor
