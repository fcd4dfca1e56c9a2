/- Plain facts for determineIsolatingRunSequences. -/
import Derived.Test.YtjelgbfgciaapaaDoorRunsN
namespace Go.Proofs.YtjelgbfgciaapaaDoor
set_option linter.unusedVariables false

theorem getD_mem0 {l : List Nat} {q : Nat} (h : q < l.length) : l.getD q 0 ∈ l := by
  rw [List.getD_eq_getElem?_getD, List.getElem?_eq_getElem h]; exact List.getElem_mem h

theorem lst_app {A r : List Nat} (h : r ≠ []) : (A ++ r).getD ((A ++ r).length - 1) 0 = lst r := by
  unfold lst
  rw [List.getLastD_eq_getLast?, List.getLast?_eq_getElem?, List.getD_eq_getElem?_getD]
  have : 0 < r.length := List.length_pos_iff.2 h
  rw [List.getElem?_append_right (by rw [List.length_append]; omega)]
  congr 2
  rw [List.length_append]; omega

theorem chn_unfold {R : List (List Nat)} {nx : Nat → Option Nat} {m r : Nat} (H : Succ m nx) (hr : r < m) : chn R nx m r = R.getD r [] ++ (match nx r with
    | some r' => chn R nx m r'
    | none => []) := by
  unfold chn
  obtain ⟨m', rfl⟩ : ∃ m', m = m' + 1 := ⟨m - 1, by omega⟩
  rw [chT]
  cases e : nx r with
  | none => rfl
  | some r' =>
    have hl := H.lt r r' e
    simp only [if_pos hl.2]
    rw [chT_fuel H (m' + 1) m' (m' + 1) r' (by omega) (by omega) hl.2]

theorem chT_mem {R : List (List Nat)} {nx : Nat → Option Nat} {m i : Nat} (H : Succ m nx) : ∀ f r, r < m → i ∈ chT R nx m f r → ∃ q, q < m ∧ i ∈ R.getD q []
  | 0, r, hr, h => ⟨r, hr, h⟩
  | f + 1, r, hr, h => by
    rw [chT] at h
    rcases List.mem_append.1 h with h | h
    · exact ⟨r, hr, h⟩
    · cases e : nx r with
      | none => rw [e] at h; cases h
      | some r' =>
        rw [e] at h
        have hl := H.lt r r' e
        simp only [if_pos hl.2] at h
        exact chT_mem H f r' hl.2 h

/-- What is written so far of the runs of characters. -/
def rfK (lv : Nat → Int) (k : Nat) (r : List Nat) (q : Nat) (i : Nat) : Int := if lv i ≠ -1 ∧ (rix lv i < k ∨ (∃ t, t < q ∧ r.getD t 0 = i)) then (rix lv i : Int) else 0

theorem rfK_zero {lv : Nat → Int} {k i : Nat} {r : List Nat} : rfK lv k [] 0 i = rfK lv k r 0 i := by
  unfold rfK
  by_cases c : lv i ≠ -1 ∧ rix lv i < k
  · rw [if_pos ⟨c.1, .inl c.2⟩, if_pos ⟨c.1, .inl c.2⟩]
  · rw [if_neg, if_neg]
    · rintro ⟨a, b | ⟨t, ht, _⟩⟩
      · exact c ⟨a, b⟩
      · omega
    · rintro ⟨a, b | ⟨t, ht, _⟩⟩
      · exact c ⟨a, b⟩
      · omega

theorem rfK_step {lv : Nat → Int} {k q y : Nat} {r : List Nat} (hy : r.getD q 0 = y) (h1 : lv y ≠ -1) (h2 : rix lv y = k) (i : Nat) : rfK lv k r (q + 1) i = if i = y then (k : Int) else rfK lv k r q i := by
  unfold rfK
  by_cases e : i = y
  · subst e
    rw [if_pos rfl, if_pos ⟨h1, .inr ⟨q, by omega, hy⟩⟩, h2]
  · rw [if_neg e]
    have : (lv i ≠ -1 ∧ (rix lv i < k ∨ (∃ t, t < q + 1 ∧ r.getD t 0 = i))) ↔ (lv i ≠ -1 ∧ (rix lv i < k ∨ (∃ t, t < q ∧ r.getD t 0 = i))) := by
      constructor
      · rintro ⟨a, b | ⟨t, ht, hti⟩⟩
        · exact ⟨a, .inl b⟩
        · by_cases e2 : t = q
          · rw [e2, hy] at hti; exact absurd hti.symm e
          · exact ⟨a, .inr ⟨t, by omega, hti⟩⟩
      · rintro ⟨a, b | ⟨t, ht, hti⟩⟩
        · exact ⟨a, .inl b⟩
        · exact ⟨a, .inr ⟨t, by omega, hti⟩⟩
    by_cases c : lv i ≠ -1 ∧ (rix lv i < k ∨ (∃ t, t < q ∧ r.getD t 0 = i))
    · rw [if_pos c, if_pos (this.2 c)]
    · rw [if_neg c, if_neg (fun h => c (this.1 h))]

theorem rfK_row {lv : Nat → Int} {n k i : Nat} (hk : k < (runs lv n).length) (hi : i < n) : rfK lv k ((runs lv n).getD k []) ((runs lv n).getD k []).length i = rfK lv (k + 1) [] 0 i := by
  unfold rfK
  have : (lv i ≠ -1 ∧ (rix lv i < k ∨ (∃ t, t < ((runs lv n).getD k []).length ∧ ((runs lv n).getD k []).getD t 0 = i))) ↔ (lv i ≠ -1 ∧ (rix lv i < k + 1 ∨ (∃ t, t < 0 ∧ ([] : List Nat).getD t 0 = i))) := by
    constructor
    · rintro ⟨a, b | ⟨t, ht, hti⟩⟩
      · exact ⟨a, .inl (by omega)⟩
      · have hm : i ∈ (runs lv n).getD k [] := by
          rw [← hti]; exact getD_mem0 ht
        have := (rix_of_mem n k i hk hm).1
        exact ⟨a, .inl (by omega)⟩
    · rintro ⟨a, b | ⟨t, ht, hti⟩⟩
      · by_cases e : rix lv i = k
        · have hm := (mem_rix n i hi a).1
          rw [e] at hm
          obtain ⟨t, ht, hti⟩ := List.getElem_of_mem hm
          exact ⟨a, .inr ⟨t, ht, by rw [List.getD_eq_getElem?_getD, List.getElem?_eq_getElem ht]; exact hti⟩⟩
        · exact ⟨a, .inl (by omega)⟩
      · omega
  by_cases c : lv i ≠ -1 ∧ (rix lv i < k ∨ (∃ t, t < ((runs lv n).getD k []).length ∧ ((runs lv n).getD k []).getD t 0 = i))
  · rw [if_pos c, if_pos (this.1 c)]
  · rw [if_neg c, if_neg (fun h => c (this.2 h))]

theorem heads_succ {pd : Nat → Option Nat} (k : Nat) : heads pd (k + 1) = if headB pd k = true then heads pd k ++ [k] else heads pd k := by
  unfold heads
  rw [List.range_succ, List.filter_append]
  by_cases h : headB pd k = true
  · simp [h]
  · simp [h]

theorem len_le_flat {L : List (List Nat)} {a : List Nat} (h : a ∈ L) : a.length ≤ L.flatten.length := by
  induction L with
  | nil => cases h
  | cons b L ih =>
    rw [List.flatten_cons, List.length_append]
    rcases List.mem_cons.1 h with h | h
    · rw [h]; omega
    · have := ih h; omega

theorem runs_total_le (lv : Nat → Int) (n : Nat) : total (runs lv n) ≤ n := by
  unfold total
  rw [runs_flat]
  exact Nat.le_trans (List.length_filter_le _ _) (by simp)

theorem chn_len {lv : Nat → Int} {n k : Nat} {nx pd : Nat → Option Nat} (H : Succ (runs lv n).length nx) (Q : Pred nx pd) (hk : k < (runs lv n).length) (hh : headB pd k = true) : (chn (runs lv n) nx (runs lv n).length k).length ≤ n := by
  have h1 := chains_total (R := runs lv n) H Q (runs lv n).length (Nat.le_refl _)
  rw [List.take_length] at h1
  have h2 := runs_total_le lv n
  have h3 := len_le_flat (L := chains (runs lv n) nx pd (runs lv n).length) (a := chn (runs lv n) nx (runs lv n).length k) (List.mem_map.2 ⟨k, heads_mem.2 ⟨hk, hh⟩, rfl⟩)
  unfold total at h1 h2
  omega

theorem bg_or {ini pdi : Nat → Bool} {n : Nat} : ∀ k j, bg ini pdi n k j = -1 ∨ 0 ≤ bg ini pdi n k j
  | 0, _ => .inl rfl
  | k + 1, j => by
    rw [bg]
    split
    · right; omega
    · exact bg_or k j

end Go.Proofs.YtjelgbfgciaapaaDoor
