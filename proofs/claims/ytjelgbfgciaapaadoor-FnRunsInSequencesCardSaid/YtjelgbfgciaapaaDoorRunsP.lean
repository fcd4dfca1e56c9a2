/- Level runs in plain Lean: what is in them. No program in sight. -/
import Derived.Test.YtjelgbfgciaapaaDoorLL
namespace Go.Proofs.YtjelgbfgciaapaaDoor
set_option linter.unusedVariables false

def hd (l : List Nat) : Nat := l.getD 0 0

/-- A row of one level, of places below k. -/
structure RowOk (lv : Nat → Int) (k : Nat) (r : List Nat) : Prop where
  ne : r ≠ []
  lt : ∀ i, i ∈ r → i < k
  lvl : ∀ i, i ∈ r → lv i = lv (hd r)
  nr : lv (hd r) ≠ -1

theorem RowOk.mono {lv : Nat → Int} {k : Nat} {r : List Nat} (h : RowOk lv k r) : RowOk lv (k + 1) r := ⟨h.ne, fun i hi => by have := h.lt i hi; omega, h.lvl, h.nr⟩

theorem hd_snoc {r : List Nat} (h : r ≠ []) (k : Nat) : hd (r ++ [k]) = hd r := by
  unfold hd
  cases r with
  | nil => exact absurd rfl h
  | cons a l => rfl

/-- The rows of the first k characters. -/
theorem rs_ok {lv : Nat → Int} : ∀ k, (∀ r, r ∈ (rs lv k).1 → RowOk lv k r) ∧ (lastL lv k ≠ -1 → RowOk lv k (rs lv k).2 ∧ lv (hd (rs lv k).2) = lastL lv k)
  | 0 => ⟨fun r hr => (by cases hr), fun h => absurd rfl h⟩
  | k + 1 => by
    obtain ⟨h1, h2⟩ := rs_ok k
    by_cases e : lv k = -1
    · rw [(rs_rem e).1, (rs_rem e).2]
      exact ⟨fun r hr => (h1 r hr).mono, fun h => ⟨(h2 h).1.mono, (h2 h).2⟩⟩
    · rw [lastL_of e]
      by_cases e2 : lv k = lastL lv k
      · rw [rs_same e e2]
        have h3 := h2 (by rw [← e2]; exact e)
        refine ⟨fun r hr => (h1 r hr).mono, fun _ => ⟨⟨by simp, fun i hi => ?_, fun i hi => ?_, ?_⟩, ?_⟩⟩
        · rcases List.mem_append.1 hi with h | h
          · have := h3.1.lt i h; omega
          · have : i = k := by simpa using h
            omega
        · show lv i = lv (hd ((rs lv k).2 ++ [k]))
          rw [hd_snoc h3.1.ne]
          rcases List.mem_append.1 hi with h | h
          · exact h3.1.lvl i h
          · have : i = k := by simpa using h
            rw [this, h3.2]; exact e2
        · show lv (hd ((rs lv k).2 ++ [k])) ≠ -1
          rw [hd_snoc h3.1.ne]; exact h3.1.nr
        · show lv (hd ((rs lv k).2 ++ [k])) = lv k
          rw [hd_snoc h3.1.ne, h3.2]; exact e2.symm
      · rw [rs_new e e2]
        refine ⟨fun r hr => ?_, fun _ => ⟨⟨by simp, fun i hi => ?_, fun i hi => ?_, ?_⟩, ?_⟩⟩
        · by_cases e3 : lastL lv k = -1
          · rw [if_pos e3] at hr; exact (h1 r hr).mono
          · rw [if_neg e3] at hr
            rcases List.mem_append.1 hr with h | h
            · exact (h1 r h).mono
            · have : r = (rs lv k).2 := by simpa using h
              rw [this]; exact (h2 e3).1.mono
        · have : i = k := by simpa using hi
          omega
        · have : i = k := by simpa using hi
          rw [this]; rfl
        · exact e
        · rfl

theorem runs_ok {lv : Nat → Int} {n : Nat} : ∀ r, r ∈ runs lv n → RowOk lv n r := fun r hr => by
  obtain ⟨h1, h2⟩ := rs_ok (lv := lv) n
  unfold runs at hr
  split at hr
  · exact h1 r hr
  · next e =>
    rcases List.mem_append.1 hr with h | h
    · exact h1 r h
    · have : r = (rs lv n).2 := by simpa using h
      rw [this]; exact (h2 e).1

theorem runs_at {lv : Nat → Int} {n j : Nat} (hj : j < (runs lv n).length) : RowOk lv n ((runs lv n).getD j []) := by
  refine runs_ok _ ?_
  rw [List.getD_eq_getElem?_getD, List.getElem?_eq_getElem hj]
  exact List.getElem_mem hj

/-- All that is not removed, in order. -/
theorem rs_flat {lv : Nat → Int} : ∀ k, (rs lv k).1.flatten ++ (rs lv k).2 = (List.range k).filter (fun i => decide (lv i ≠ -1))
  | 0 => rfl
  | k + 1 => by
    have ih := rs_flat (lv := lv) k
    rw [List.range_succ, List.filter_append]
    by_cases e : lv k = -1
    · rw [(rs_rem e).1, ih]; simp [e]
    · have hk : [k].filter (fun i => decide (lv i ≠ -1)) = [k] := by simp [e]
      rw [hk, ← ih]
      by_cases e2 : lv k = lastL lv k
      · rw [rs_same e e2]; simp
      · rw [rs_new e e2]
        by_cases e3 : lastL lv k = -1
        · rw [if_pos e3, rs_empty k e3]; rfl
        · rw [if_neg e3]; simp

theorem runs_flat (lv : Nat → Int) (n : Nat) : (runs lv n).flatten = (List.range n).filter (fun i => decide (lv i ≠ -1)) := by
  rw [← rs_flat n]
  unfold runs
  by_cases e3 : lastL lv n = -1
  · rw [if_pos e3, rs_empty n e3]; rfl
  · rw [if_neg e3]; simp

theorem rs_row_len {lv : Nat → Int} : ∀ k, (∀ r, r ∈ (rs lv k).1 → r.length ≤ k) ∧ (rs lv k).2.length ≤ k
  | 0 => ⟨fun r hr => (by cases hr), Nat.le_refl _⟩
  | k + 1 => by
    obtain ⟨h1, h2⟩ := rs_row_len (lv := lv) k
    by_cases e : lv k = -1
    · rw [(rs_rem e).1]; exact ⟨fun r hr => by have := h1 r hr; omega, by omega⟩
    · by_cases e2 : lv k = lastL lv k
      · rw [rs_same e e2]; exact ⟨fun r hr => by have := h1 r hr; omega, by simp; omega⟩
      · rw [rs_new e e2]
        refine ⟨fun r hr => ?_, by simp⟩
        by_cases e3 : lastL lv k = -1
        · rw [if_pos e3] at hr; have := h1 r hr; omega
        · rw [if_neg e3] at hr
          rcases List.mem_append.1 hr with h | h
          · have := h1 r h; omega
          · have : r = (rs lv k).2 := by simpa using h
            rw [this]; omega

theorem runs_row_len {lv : Nat → Int} {n j : Nat} (hj : j < (runs lv n).length) : ((runs lv n).getD j []).length ≤ n := by
  have key : ∀ r, r ∈ runs lv n → r.length ≤ n := fun r hr => by
    obtain ⟨h1, h2⟩ := rs_row_len (lv := lv) n
    unfold runs at hr
    split at hr
    · exact h1 r hr
    · rcases List.mem_append.1 hr with h | h
      · exact h1 r h
      · have : r = (rs lv n).2 := by simpa using h
        rw [this]; exact h2
  refine key _ ?_
  rw [List.getD_eq_getElem?_getD, List.getElem?_eq_getElem hj]
  exact List.getElem_mem hj

/-- Rows side by side lie on different levels. -/
def Dif (lv : Nat → Int) (R : List (List Nat)) : Prop := ∀ j, j < R.length → lv (hd (R.getD j [])) ≠ if j = 0 then -1 else lv (hd (R.getD (j - 1) []))

theorem Dif.snoc {lv : Nat → Int} {R : List (List Nat)} {r : List Nat} (h : Dif lv R) (hr : lv (hd r) ≠ if R.length = 0 then -1 else lv (hd (R.getD (R.length - 1) []))) : Dif lv (R ++ [r]) := by
  intro j hj
  have hl : (R ++ [r]).length = R.length + 1 := by simp
  rw [hl] at hj
  rw [getD_snoc]
  by_cases e : j = R.length
  · rw [if_pos e]
    subst e
    by_cases h0 : R.length = 0
    · rw [if_pos h0] at hr ⊢; exact hr
    · rw [if_neg h0] at hr ⊢
      rw [getD_snoc, if_neg (by omega)]; exact hr
  · rw [if_neg e]
    have := h j (by omega)
    by_cases h0 : j = 0
    · rw [if_pos h0] at this ⊢; exact this
    · rw [if_neg h0] at this ⊢
      rw [getD_snoc, if_neg (by omega)]; exact this

theorem rs_dif {lv : Nat → Int} : ∀ k, Dif lv (rs lv k).1 ∧ (lastL lv k ≠ -1 → Dif lv ((rs lv k).1 ++ [(rs lv k).2]))
  | 0 => ⟨fun j hj => absurd hj (Nat.not_lt_zero _), fun h => absurd rfl h⟩
  | k + 1 => by
    obtain ⟨h1, h2⟩ := rs_dif (lv := lv) k
    by_cases e : lv k = -1
    · rw [(rs_rem e).1, (rs_rem e).2]; exact ⟨h1, h2⟩
    · rw [lastL_of e]
      by_cases e2 : lv k = lastL lv k
      · rw [rs_same e e2]
        have hl : lastL lv k ≠ -1 := by rw [← e2]; exact e
        have h3 := ((rs_ok (lv := lv) k).2 hl).1
        refine ⟨h1, fun _ => h1.snoc ?_⟩
        rw [hd_snoc h3.ne]
        have := h2 hl (rs lv k).1.length (by simp)
        rw [getD_snoc, if_pos rfl] at this
        by_cases h0 : (rs lv k).1.length = 0
        · rw [if_pos h0] at this ⊢; exact this
        · rw [if_neg h0] at this ⊢
          rw [getD_snoc, if_neg (by omega)] at this; exact this
      · rw [rs_new e e2]
        by_cases e3 : lastL lv k = -1
        · rw [if_pos e3, rs_empty k e3]
          refine ⟨fun j hj => absurd hj (Nat.not_lt_zero _), fun _ => ?_⟩
          intro j hj
          have : j = 0 := by simp at hj; omega
          subst this
          rw [if_pos rfl]; exact e
        · rw [if_neg e3]
          refine ⟨h2 e3, fun _ => (h2 e3).snoc ?_⟩
          have hl : ((rs lv k).1 ++ [(rs lv k).2]).length = (rs lv k).1.length + 1 := by simp
          rw [hl, if_neg (by omega), getD_snoc, if_pos (by omega), ((rs_ok (lv := lv) k).2 e3).2]
          exact e2

theorem runs_dif (lv : Nat → Int) (n : Nat) : Dif lv (runs lv n) := by
  unfold runs
  by_cases e3 : lastL lv n = -1
  · rw [if_pos e3]; exact (rs_dif n).1
  · rw [if_neg e3]; exact (rs_dif n).2 e3

end Go.Proofs.YtjelgbfgciaapaaDoor
