/- The isolating run sequences by their places, in plain Lean: each place that is not removed lies on just one, and each goes on to its successor. No program in sight. -/
import Derived.Test.YtkocpijloiamcaaDoorGB
namespace Go.Proofs.YtkocpijloiamcaaDoor
set_option linter.unusedVariables false

/-- The next place of an isolating run sequence. -/
def Su (lv : Nat → Int) (ini pdi : Nat → Bool) (n i j : Nat) : Prop :=
  i < j ∧ j < n ∧ lv i ≠ -1 ∧ lv j ≠ -1 ∧ (((∀ k, i < k → k < j → lv k = -1) ∧ lv j = lv i) ∨ (lastR lv n i ∧ ini i = true ∧ j = mat ini pdi n i))

def Path (S : Nat → Nat → Prop) (l : List Nat) : Prop := ∀ t, t + 1 < l.length → S (l.getD t 0) (l.getD (t + 1) 0)

theorem getD_app_left {A B : List Nat} {t : Nat} (h : t < A.length) : (A ++ B).getD t 0 = A.getD t 0 := by
  rw [List.getD_eq_getElem?_getD, List.getElem?_append_left h, List.getD_eq_getElem?_getD]
theorem getD_app_right {A B : List Nat} {t : Nat} (h : A.length ≤ t) : (A ++ B).getD t 0 = B.getD (t - A.length) 0 := by
  rw [List.getD_eq_getElem?_getD, List.getElem?_append_right h, List.getD_eq_getElem?_getD]
theorem lst_getD {l : List Nat} (h : l ≠ []) : lst l = l.getD (l.length - 1) 0 := by
  have := lst_app (A := []) h
  simpa using this.symm
theorem memN_getD {l : List Nat} {i : Nat} (h : i ∈ l) : ∃ t, t < l.length ∧ l.getD t 0 = i := by
  obtain ⟨t, ht, e⟩ := List.getElem_of_mem h
  exact ⟨t, ht, by rw [List.getD_eq_getElem?_getD, List.getElem?_eq_getElem ht]; exact e⟩
theorem len_pos {l : List Nat} (h : l ≠ []) : 0 < l.length := List.length_pos_iff.2 h
theorem hd_app {A B : List Nat} (h : A ≠ []) : hd (A ++ B) = hd A := getD_app_left (len_pos h)
theorem lst_app' {A B : List Nat} (h : B ≠ []) : lst (A ++ B) = lst B := by
  rw [lst_getD (by simp [h])]; exact lst_app h

theorem Path.append {S : Nat → Nat → Prop} {A B : List Nat} (hA : Path S A) (hB : Path S B) (hAB : A ≠ [] → B ≠ [] → S (lst A) (hd B)) : Path S (A ++ B) := by
  intro t ht
  rw [List.length_append] at ht
  by_cases h1 : t + 1 < A.length
  · rw [getD_app_left h1, getD_app_left (by omega)]; exact hA t h1
  · by_cases h2 : t + 1 = A.length
    · have hAne : A ≠ [] := fun e => by rw [e] at h2; simp at h2
      have hBne : B ≠ [] := fun e => by rw [e] at ht; simp at ht; omega
      have := hAB hAne hBne
      rw [lst_getD hAne] at this
      rw [getD_app_left (by omega), getD_app_right (by omega), show t + 1 - A.length = 0 by omega, show t = A.length - 1 by omega]
      exact this
    · rw [getD_app_right (by omega), getD_app_right (by omega), show t + 1 - A.length = t - A.length + 1 by omega]
      exact hB _ (by omega)

/-- A sequence by a successor: it begins where nothing goes on, and ends where it does not go on. -/
structure IsCh (S : Nat → Nat → Prop) (l : List Nat) : Prop where
  ne : l ≠ []
  path : Path S l
  fst : ∀ i, ¬ S i (hd l)
  end_ : ∀ j, ¬ S (lst l) j

section
variable {lv : Nat → Int}
theorem rs_lst : ∀ k, lastL lv k ≠ -1 → lst (rs lv k).2 < k ∧ ∀ j, lst (rs lv k).2 < j → j < k → lv j = -1
  | 0, h => absurd rfl h
  | k + 1, h => by
    by_cases e : lv k = -1
    · rw [(rs_rem e).2] at h
      rw [(rs_rem e).1]
      obtain ⟨h1, h2⟩ := rs_lst k h
      refine ⟨by omega, fun j q1 q2 => ?_⟩
      by_cases ej : j = k
      · rw [ej]; exact e
      · exact h2 j q1 (by omega)
    · have el : lst (rs lv (k + 1)).2 = k := by
        by_cases e2 : lv k = lastL lv k
        · rw [rs_same e e2]; exact lst_snoc _ _
        · rw [rs_new e e2]; rfl
      rw [el]
      exact ⟨by omega, fun j q1 q2 => by omega⟩

/-- Within a run nothing but what is removed is passed over. -/
theorem row_step : ∀ k q, q < (runs lv k).length → Path (fun a b => a < b ∧ ∀ p, a < p → p < b → lv p = -1) ((runs lv k).getD q [])
  | 0, q, hq => by have : (runs lv 0).length = 0 := rfl
                   omega
  | k + 1, q, hq => by
    by_cases e1 : lv k = -1
    · have e3 : runs lv (k + 1) = runs lv k := by rw [runs_step, if_pos e1]
      rw [e3] at hq ⊢
      exact row_step k q hq
    · by_cases e2 : lv k = lastL lv k
      · have hlk : lastL lv k ≠ -1 := by rw [← e2]; exact e1
        have e3 : runs lv (k + 1) = (rs lv k).1 ++ [(rs lv k).2 ++ [k]] := by rw [runs_step, if_neg e1, if_pos e2]
        have e4 : runs lv k = (rs lv k).1 ++ [(rs lv k).2] := by unfold runs; rw [if_neg hlk]
        have hl := ((runs_len_step (lv := lv) k).2.2 e1 e2).1
        rw [hl] at hq
        have ih := row_step k q hq
        rw [e4, getD_snoc] at ih
        rw [e3, getD_snoc]
        by_cases e5 : q = (rs lv k).1.length
        · rw [if_pos e5] at ih ⊢
          refine ih.append (fun t ht => by simp at ht) (fun h1 _ => ?_)
          obtain ⟨h2, h3⟩ := rs_lst k hlk
          exact ⟨h2, fun p q1 q2 => h3 p q1 q2⟩
        · rw [if_neg e5] at ih ⊢; exact ih
      · have e3 : runs lv (k + 1) = runs lv k ++ [[k]] := by rw [runs_step, if_neg e1, if_neg e2]
        have hl := (runs_len_step (lv := lv) k).2.1 ⟨e1, e2⟩
        rw [hl] at hq
        rw [e3, getD_snoc]
        by_cases e5 : q = (runs lv k).length
        · rw [if_pos e5]; exact fun t ht => by simp at ht
        · rw [if_neg e5]; exact row_step k q (by omega)

/-- The last one ahead of a place, if all between is removed. -/
theorem lastL_prev {i k : Nat} (h : i < k) (hi : lv i ≠ -1) (hb : ∀ j, i < j → j < k → lv j = -1) : lastL lv k = lv i := by
  obtain ⟨r, h1, h2, h3, h4, h5⟩ := lastL_spec (lv := lv) k i h hi
  have : r = i := by
    rcases Nat.lt_or_ge i r with q | q
    · exact absurd (hb r q h2) h3
    · omega
  rw [h4, this]
end

section
variable {x fs : Nat → Int} {base : Int} {n : Nat}

/-- The successor of a text's places. -/
def SuX (x fs : Nat → Int) (base : Int) (n i j : Nat) : Prop := Su (lvR x fs base) (iniN x) (pdiN x) n i j

theorem Su.fn {ini pdi : Nat → Bool} {lv : Nat → Int} {i j k : Nat} (h1 : Su lv ini pdi n i j) (h2 : Su lv ini pdi n i k) : j = k := by
  obtain ⟨a1, a2, a3, a4, a5⟩ := h1
  obtain ⟨b1, b2, b3, b4, b5⟩ := h2
  rcases a5 with ⟨a5, a6⟩ | ⟨a5, a6, a7⟩ <;> rcases b5 with ⟨b5, b6⟩ | ⟨b5, b6, b7⟩
  · rcases Nat.lt_trichotomy j k with h | h | h
    · exact absurd (b5 j a1 h) a4
    · exact h
    · exact absurd (a5 k b1 h) b4
  · exact absurd a6 (b5 j a1 a2 a4 a5)
  · exact absurd b6 (a5 k b1 b2 b4 b5)
  · rw [a7, b7]

theorem SuX.inj (hb : base = 0 ∨ base = 1) (hB : ∀ i, i < n → x i = 7 → n ≤ i + 1) {i j k : Nat} (h1 : SuX x fs base n i k) (h2 : SuX x fs base n j k) : i = j := by
  have key : ∀ i j, SuX x fs base n i k → SuX x fs base n j k → ((∀ q, i < q → q < k → lvR x fs base q = -1) ∧ lvR x fs base k = lvR x fs base i) → (lastR (lvR x fs base) n j ∧ iniN x j = true ∧ k = mat (iniN x) (pdiN x) n j) → False := by
    rintro i j ⟨a1, a2, a3, a4, _⟩ ⟨b1, b2, b3, b4, _⟩ ⟨a5, a6⟩ ⟨b5, b6, b7⟩
    have hm := match_new (fs := fs) hb hB (show j < n by omega) b6 (by rw [← b7]; exact b2) b5
    rw [← b7] at hm
    exact hm.2 (by rw [lastL_prev a1 a3 a5]; exact a6)
  have h1' := h1
  have h2' := h2
  obtain ⟨a1, a2, a3, a4, a5⟩ := h1
  obtain ⟨b1, b2, b3, b4, b5⟩ := h2
  rcases a5 with a5 | a5 <;> rcases b5 with b5 | b5
  · rcases Nat.lt_trichotomy i j with h | h | h
    · exact absurd (a5.1 j h b1) b3
    · exact h
    · exact absurd (b5.1 i h a1) a3
  · exact (key i j h1' h2' a5 b5).elim
  · exact (key j i h2' h1' b5 a5).elim
  · obtain ⟨_, a6, a7⟩ := a5
    obtain ⟨_, b6, b7⟩ := b5
    have e1 := bg_of (ini := iniN x) (pdi := pdiN x) (n := n) a6 (by rw [← a7]; exact a2) (show i < n by omega) n (by omega) (Nat.le_refl _)
    have e2 := bg_of (ini := iniN x) (pdi := pdiN x) (n := n) b6 (by rw [← b7]; exact b2) (show j < n by omega) n (by omega) (Nat.le_refl _)
    rw [← a7] at e1
    rw [← b7] at e2
    omega

/-- A chain of runs is a path of places. -/
theorem chn_path (hb : base = 0 ∨ base = 1) (hB : ∀ i, i < n → x i = 7 → n ≤ i + 1) : ∀ d r, r < (runs (lvR x fs base) n).length → (runs (lvR x fs base) n).length - r = d →
    chn (runs (lvR x fs base) n) (nxR x fs base n) (runs (lvR x fs base) n).length r ≠ [] ∧
    hd (chn (runs (lvR x fs base) n) (nxR x fs base n) (runs (lvR x fs base) n).length r) = hd ((runs (lvR x fs base) n).getD r []) ∧
    Path (SuX x fs base n) (chn (runs (lvR x fs base) n) (nxR x fs base n) (runs (lvR x fs base) n).length r) ∧
    (∀ i, i ∈ chn (runs (lvR x fs base) n) (nxR x fs base n) (runs (lvR x fs base) n).length r → i < n ∧ lvR x fs base i ≠ -1) ∧
    (∀ j, ¬ SuX x fs base n (lst (chn (runs (lvR x fs base) n) (nxR x fs base n) (runs (lvR x fs base) n).length r)) j) := by
  intro d
  induction d using Nat.strongRecOn with
  | _ d ih =>
    intro r hr hd'
    have hrow := runs_at hr
    have hmem : ∀ i, i ∈ (runs (lvR x fs base) n).getD r [] → i < n ∧ lvR x fs base i ≠ -1 := fun i hi => ⟨hrow.lt i hi, by rw [hrow.lvl i hi]; exact hrow.nr⟩
    have hpath : Path (SuX x fs base n) ((runs (lvR x fs base) n).getD r []) := fun t ht => by
      have h1 := row_step n r hr t ht
      have m1 := getD_mem0 (show t < ((runs (lvR x fs base) n).getD r []).length by omega)
      have m2 := getD_mem0 ht
      exact ⟨h1.1, (hmem _ m2).1, (hmem _ m1).2, (hmem _ m2).2, .inl ⟨h1.2, by rw [hrow.lvl _ m2, hrow.lvl _ m1]⟩⟩
    have hlm := hmem _ (lst_mem hrow.ne)
    rw [chn_unfold (runs_succ hb hB) hr]
    cases e : nxR x fs base n r with
    | none =>
      simp only [List.append_nil]
      refine ⟨hrow.ne, by first | trivial | rfl, hpath, hmem, fun j hj => ?_⟩
      have hlast := lst_last (lv := lvR x fs base) hr
      obtain ⟨a1, a2, a3, a4, a5⟩ := hj
      rcases a5 with ⟨a5, a6⟩ | ⟨_, a6, a7⟩
      · exact hlast j a1 a2 a4 a5 a6
      · unfold nxR at e
        rw [if_pos ⟨hr, a6, by rw [← a7]; exact a2⟩] at e
        cases e
    | some q =>
      obtain ⟨i, hi, hil, hri, _, hrm, hii, hm, h22, hnew, hq, hql, hh⟩ := nxR_some hb hB e
      have hrq : r < q := ((runs_succ hb hB).lt r q e).1
      obtain ⟨c1, c2, c3, c4, c5⟩ := ih ((runs (lvR x fs base) n).length - q) (by omega) q hql rfl
      simp only
      refine ⟨fun e => hrow.ne (List.append_eq_nil_iff.1 e).1, hd_app hrow.ne, hpath.append c3 (fun _ _ => ?_), fun k hk => ?_, ?_⟩
      · rw [c2, hh, ← hil]
        have hgt := mat_gt (ini := iniN x) (pdi := pdiN x) hi
        refine ⟨hgt, hm, by rw [hil]; exact hlm.2, hnew.1, .inr ⟨by rw [hil]; exact lst_last hr, hii, rfl⟩⟩
      · rcases List.mem_append.1 hk with h | h
        · exact hmem k h
        · exact c4 k h
      · rw [lst_app' c1]; exact c5

/-- What is known of the isolating run sequences. -/
structure ChOk (x fs : Nat → Int) (base : Int) (n : Nat) (L : List (List Nat)) : Prop where
  ch : ∀ l, l ∈ L → IsCh (SuX x fs base n) l
  mem : ∀ l, l ∈ L → ∀ i, i ∈ l → i < n ∧ remN (x i) = false
  cov : ∀ i, i < n → remN (x i) = false → ∃ l, l ∈ L ∧ i ∈ l
  hds : ∀ j k, j < L.length → k < L.length → hd (L.getD j []) = hd (L.getD k []) → j = k

theorem nodup_getD {l : List Nat} (h : l.Nodup) {j k : Nat} (hj : j < l.length) (hk : k < l.length) (e : l.getD j 0 = l.getD k 0) : j = k := by
  rw [List.getD_eq_getElem?_getD, List.getElem?_eq_getElem hj, List.getD_eq_getElem?_getD, List.getElem?_eq_getElem hk] at e
  exact (List.getElem_inj h).1 e

theorem chOk (hb : base = 0 ∨ base = 1) (hB : ∀ i, i < n → x i = 7 → n ≤ i + 1) : ChOk x fs base n (chains (runs (lvR x fs base) n) (nxR x fs base n) (pdR x fs base n) (runs (lvR x fs base) n).length) := by
  have hp := fun r hr => chn_path (x := x) (fs := fs) (n := n) hb hB _ r hr rfl
  have hin : ∀ l, l ∈ chains (runs (lvR x fs base) n) (nxR x fs base n) (pdR x fs base n) (runs (lvR x fs base) n).length → ∃ h, h < (runs (lvR x fs base) n).length ∧ headB (pdR x fs base n) h = true ∧ l = chn (runs (lvR x fs base) n) (nxR x fs base n) (runs (lvR x fs base) n).length h := fun l hl => by
    obtain ⟨h, h1, h2⟩ := List.mem_map.1 hl
    have := heads_mem.1 h1
    exact ⟨h, this.1, this.2, h2.symm⟩
  refine ⟨fun l hl => ?_, fun l hl i hi => ?_, fun i hi hr => ?_, fun j k hj hk e => ?_⟩
  · obtain ⟨h, h1, h2, rfl⟩ := hin l hl
    obtain ⟨c1, c2, c3, c4, c5⟩ := hp h h1
    refine ⟨c1, c3, fun i hi => ?_, c5⟩
    rw [c2] at hi
    have hnew := hd_new (lv := lvR x fs base) n h h1
    have hrx : rix (lvR x fs base) (hd ((runs (lvR x fs base) n).getD h [])) = h := (rix_of_mem (lv := lvR x fs base) n h _ h1 (getD_mem0 (len_pos (runs_at h1).ne) : hd ((runs (lvR x fs base) n).getD h []) ∈ _)).1
    obtain ⟨a1, a2, a3, a4, a5⟩ := hi
    rcases a5 with ⟨a5, a6⟩ | ⟨a5, a6, a7⟩
    · exact hnew.2 (by rw [lastL_prev a1 a3 a5]; exact a6)
    · have hin' : i < n := by omega
      have hl2 := lst_of_last hin' a3 a5
      have hnx : nxR x fs base n (rix (lvR x fs base) i) = some h := by
        unfold nxR
        rw [if_pos ⟨rix_lt a3 hin', by rw [hl2]; exact a6, by rw [hl2, ← a7]; exact a2⟩, hl2, ← a7, hrx]
      exact no_end (runs_pred hb hB) h2 _ hnx
  · obtain ⟨h, h1, h2, rfl⟩ := hin l hl
    have := (hp h h1).2.2.2.1 i hi
    exact ⟨this.1, (lvR_ne hb).1 this.2⟩
  · have hn := (lvR_ne (x := x) (fs := fs) hb).2 hr
    have hql := rix_lt hn hi
    have hm := (mem_rix (lv := lvR x fs base) n i hi hn).1
    have key : ∀ q, q < (runs (lvR x fs base) n).length → ∃ h A, h < (runs (lvR x fs base) n).length ∧ headB (pdR x fs base n) h = true ∧ chn (runs (lvR x fs base) n) (nxR x fs base n) (runs (lvR x fs base) n).length h = A ++ chn (runs (lvR x fs base) n) (nxR x fs base n) (runs (lvR x fs base) n).length q := by
      intro q
      induction q using Nat.strongRecOn with
      | _ q ih =>
        intro hq
        cases e : pdR x fs base n q with
        | none => exact ⟨q, [], hq, by unfold headB; rw [e]; rfl, rfl⟩
        | some p =>
          have hnx := ((runs_pred (x := x) (fs := fs) hb hB).iff p q).2 e
          have hlt := (runs_succ (x := x) (fs := fs) hb hB).lt p q hnx
          obtain ⟨h, A, h1, h2, h3⟩ := ih p hlt.1 (by omega)
          refine ⟨h, A ++ (runs (lvR x fs base) n).getD p [], h1, h2, ?_⟩
          rw [h3, chn_unfold (runs_succ hb hB) (show p < _ by omega), hnx, List.append_assoc]
    obtain ⟨h, A, h1, h2, h3⟩ := key _ hql
    refine ⟨_, List.mem_map.2 ⟨h, heads_mem.2 ⟨h1, h2⟩, rfl⟩, ?_⟩
    rw [h3, chn_unfold (runs_succ hb hB) hql]
    exact List.mem_append.2 (.inr (List.mem_append.2 (.inl hm)))
  · have hlen : (chains (runs (lvR x fs base) n) (nxR x fs base n) (pdR x fs base n) (runs (lvR x fs base) n).length).length = (heads (pdR x fs base n) (runs (lvR x fs base) n).length).length := by unfold chains; rw [List.length_map]
    rw [hlen] at hj hk
    have hget : ∀ j, j < (heads (pdR x fs base n) (runs (lvR x fs base) n).length).length → (chains (runs (lvR x fs base) n) (nxR x fs base n) (pdR x fs base n) (runs (lvR x fs base) n).length).getD j [] = chn (runs (lvR x fs base) n) (nxR x fs base n) (runs (lvR x fs base) n).length ((heads (pdR x fs base n) (runs (lvR x fs base) n).length).getD j 0) := fun j hj => by
      unfold chains
      rw [List.getD_eq_getElem?_getD, List.getElem?_map, List.getElem?_eq_getElem hj, List.getD_eq_getElem?_getD, List.getElem?_eq_getElem hj]
      rfl
    have hml : ∀ j, j < (heads (pdR x fs base n) (runs (lvR x fs base) n).length).length → (heads (pdR x fs base n) (runs (lvR x fs base) n).length).getD j 0 < (runs (lvR x fs base) n).length := fun j hj => (heads_mem.1 (getD_mem0 hj)).1
    rw [hget j hj, hget k hk, (hp _ (hml j hj)).2.1, (hp _ (hml k hk)).2.1] at e
    have r1 := (rix_of_mem (lv := lvR x fs base) n _ _ (hml j hj) (getD_mem0 (len_pos (runs_at (hml j hj)).ne) : hd ((runs (lvR x fs base) n).getD _ []) ∈ _)).1
    have r2 := (rix_of_mem (lv := lvR x fs base) n _ _ (hml k hk) (getD_mem0 (len_pos (runs_at (hml k hk)).ne) : hd ((runs (lvR x fs base) n).getD _ []) ∈ _)).1
    unfold hd at e r1 r2
    rw [e, r2] at r1
    refine nodup_getD ?_ hj hk r1.symm
    unfold heads
    exact List.Nodup.sublist List.filter_sublist List.nodup_range
end

/-! ### Two texts, the places of which belong together -/
section
variable {S S' : Nat → Nat → Prop}

/-- A map from places of one text to those of another, where it is told, keeps successors. -/
structure MapsTo (S S' : Nat → Nat → Prop) (D : Nat → Prop) (φ : Nat → Nat) : Prop where
  next : ∀ i j, D i → S i j → D j ∧ S' (φ i) (φ j)
  noNext : ∀ i j', D i → S' (φ i) j' → ∃ j, S i j
  prev : ∀ i j, D j → S i j → D i
  noPrev : ∀ i' j, D j → S' i' (φ j) → ∃ i, S i j

theorem IsCh.map (fn' : ∀ i j k, S' i j → S' i k → j = k) (inj' : ∀ i j k, S' i k → S' j k → i = j) {D : Nat → Prop} {φ : Nat → Nat} (M : MapsTo S S' D φ) {l l' : List Nat} (h : IsCh S l) (h' : IsCh S' l') {a a' : Nat} (ha : a < l.length) (ha' : a' < l'.length)
    (hD : D (l.getD a 0)) (he : l'.getD a' 0 = φ (l.getD a 0)) : a = a' ∧ l.length = l'.length ∧ ∀ t, t < l.length → D (l.getD t 0) ∧ l'.getD t 0 = φ (l.getD t 0) := by
  -- backwards
  have back : ∀ t, t ≤ a → t ≤ a' → D (l.getD (a - t) 0) ∧ l'.getD (a' - t) 0 = φ (l.getD (a - t) 0) := by
    intro t
    induction t with
    | zero => intro _ _; exact ⟨hD, he⟩
    | succ t ih =>
      intro h1 h2
      obtain ⟨d1, d2⟩ := ih (by omega) (by omega)
      have s1 := h.path (a - (t + 1)) (by omega)
      rw [show a - (t + 1) + 1 = a - t by omega] at s1
      have s2 := h'.path (a' - (t + 1)) (by omega)
      rw [show a' - (t + 1) + 1 = a' - t by omega] at s2
      have d3 := M.prev _ _ d1 s1
      have s3 := (M.next _ _ d3 s1).2
      rw [d2] at s2
      exact ⟨d3, inj' _ _ _ s2 s3⟩
  have haa : a = a' := by
    rcases Nat.lt_trichotomy a a' with q | q | q
    · obtain ⟨d1, d2⟩ := back a (Nat.le_refl _) (by omega)
      have s2 := h'.path (a' - (a + 1)) (by omega)
      rw [show a' - (a + 1) + 1 = a' - a by omega, d2, Nat.sub_self] at s2
      rw [Nat.sub_self] at d1
      obtain ⟨i, hi⟩ := M.noPrev _ _ d1 s2
      exact absurd hi (h.fst i)
    · exact q
    · obtain ⟨d1, d2⟩ := back a' (by omega) (Nat.le_refl _)
      have s1 := h.path (a - (a' + 1)) (by omega)
      rw [show a - (a' + 1) + 1 = a - a' by omega] at s1
      have d3 := M.prev _ _ d1 s1
      have s3 := (M.next _ _ d3 s1).2
      rw [← d2, Nat.sub_self] at s3
      exact absurd s3 (h'.fst _)
  subst haa
  have low : ∀ t, t ≤ a → D (l.getD t 0) ∧ l'.getD t 0 = φ (l.getD t 0) := fun t ht => by
    have := back (a - t) (by omega) (by omega)
    rwa [show a - (a - t) = t by omega] at this
  -- forwards
  have fwd : ∀ t, t < l.length → t < l'.length ∧ D (l.getD t 0) ∧ l'.getD t 0 = φ (l.getD t 0) := by
    intro t
    induction t with
    | zero => intro _; exact ⟨by omega, low 0 (by omega)⟩
    | succ t ih =>
      intro ht
      by_cases hta : t + 1 ≤ a
      · exact ⟨by omega, low _ hta⟩
      · obtain ⟨l1, d1, d2⟩ := ih (by omega)
        have s1 := h.path t ht
        obtain ⟨d3, s3⟩ := M.next _ _ d1 s1
        have l2 : t + 1 < l'.length := by
          rcases Nat.lt_or_ge (t + 1) l'.length with q | q
          · exact q
          · have hl : lst l' = φ (l.getD t 0) := by rw [lst_getD h'.ne, show l'.length - 1 = t by omega, d2]
            rw [← hl] at s3
            exact absurd s3 (h'.end_ _)
        have s2 := h'.path t l2
        rw [d2] at s2
        exact ⟨l2, d3, fn' _ _ _ s2 s3⟩
  have hlen : l.length = l'.length := by
    have h1 := fwd (l.length - 1) (by omega)
    rcases Nat.lt_or_ge l.length l'.length with q | q
    · have s2 := h'.path (l.length - 1) (by omega)
      rw [h1.2.2] at s2
      obtain ⟨j, hj⟩ := M.noNext _ _ h1.2.1 s2
      rw [← lst_getD h.ne] at hj
      exact absurd hj (h.end_ j)
    · have := h1.1; omega
  exact ⟨rfl, hlen, fun t ht => (fwd t ht).2⟩

/-- Two sequences over one successor that share a place are one. -/
theorem IsCh.same (fn : ∀ i j k, S i j → S i k → j = k) (inj : ∀ i j k, S i k → S j k → i = j) {l l' : List Nat} (h : IsCh S l) (h' : IsCh S l') {a a' : Nat} (ha : a < l.length) (ha' : a' < l'.length) (he : l'.getD a' 0 = l.getD a 0) : a = a' ∧ l = l' := by
  have M : MapsTo S S (fun _ => True) id := ⟨fun i j _ hs => ⟨trivial, hs⟩, fun i j _ hs => ⟨j, hs⟩, fun _ _ _ _ => trivial, fun i j _ hs => ⟨i, hs⟩⟩
  obtain ⟨h1, h2, h3⟩ := h.map fn inj M h' ha ha' trivial he
  refine ⟨h1, List.ext_getElem h2 fun t q1 q2 => ?_⟩
  have := (h3 t q1).2
  rw [List.getD_eq_getElem?_getD, List.getElem?_eq_getElem q2, List.getD_eq_getElem?_getD, List.getElem?_eq_getElem q1] at this
  exact this.symm
end

section
variable {x fs : Nat → Int} {base : Int} {n : Nat} {L : List (List Nat)}

theorem getD_memL {L : List (List Nat)} {k : Nat} (h : k < L.length) : L.getD k [] ∈ L := by
  rw [List.getD_eq_getElem?_getD, List.getElem?_eq_getElem h]; exact List.getElem_mem h
theorem memL_getD {L : List (List Nat)} {l : List Nat} (h : l ∈ L) : ∃ k, k < L.length ∧ L.getD k [] = l := by
  obtain ⟨t, ht, e⟩ := List.getElem_of_mem h
  exact ⟨t, ht, by rw [List.getD_eq_getElem?_getD, List.getElem?_eq_getElem ht]; exact e⟩

/-- A place stands once. -/
theorem ChOk.once (h : ChOk x fs base n L) (hb : base = 0 ∨ base = 1) (hB : ∀ i, i < n → x i = 7 → n ≤ i + 1) {j k a b : Nat} (hj : j < L.length) (hk : k < L.length) (ha : a < (L.getD j []).length) (hb' : b < (L.getD k []).length)
    (e : (L.getD j []).getD a 0 = (L.getD k []).getD b 0) : j = k ∧ a = b := by
  obtain ⟨h1, h2⟩ := (h.ch _ (getD_memL hj)).same (S := SuX x fs base n) (fun _ _ _ p q => Su.fn p q) (fun _ _ _ p q => SuX.inj hb hB p q) (h.ch _ (getD_memL hk)) ha hb' e.symm
  exact ⟨h.hds j k hj hk (by rw [h2]), h1⟩
end
end Go.Proofs.YtkocpijloiamcaaDoor
