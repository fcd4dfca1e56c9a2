/- The isolating run sequences in plain Lean: when a run goes on with a sequence; the rows of spec.joined round by round; what is known of each sequence; one level in each, the runs one behind the other. -/
import Derived.Test.YtjelgbfgciaapaaDoorIrs
import Derived.Test.YtjelgbfgciaapaaDoorRunsN
import Derived.Test.YtjelgbfgciaapaaDoorDirP
namespace Go.Proofs.YtjelgbfgciaapaaDoor
open Go.RowKit
set_option linter.unusedVariables false

theorem hd_memL {l : List Nat} (h : l ≠ []) : hd l ∈ l := by
  unfold hd
  rw [List.getD_eq_getElem?_getD, List.getElem?_eq_getElem (List.length_pos_iff.2 h)]; exact List.getElem_mem _

section
variable {x fs : Nat → Int} {base : Int} {n : Nat}

/-- The run q goes on with the h-th sequence that is there. -/
def onB (x fs : Nat → Int) (base : Int) (n q h : Nat) : Bool := decide (nxR x fs base n (chE (nxR x fs base n) q h) = some q)

/-- .. as the reference asks it: its last character is an initiator, whose match begins the run. -/
theorem onB_iff (hb : base = 0 ∨ base = 1) (hB : ∀ i, i < n → x i = 7 → n ≤ i + 1) {q h z : Nat} (hq : q < (runs (lvR x fs base) n).length) (hh : h < q)
    (hz : z = lst0 (chn (runs (lvR x fs base) n) (nxR x fs base n) q h)) :
    z < n ∧ onB x fs base n q h = (iniN x z && decide (mt (iniN x) (pdiN x) n z = ((hd ((runs (lvR x fs base) n).getD q []) : Nat) : Int))) := by
  have H := runs_succ (x := x) (fs := fs) hb hB
  have hne : ∀ r, r < (runs (lvR x fs base) n).length → (runs (lvR x fs base) n).getD r [] ≠ [] := fun r hr => (runs_at hr).ne
  have h1 := chn_last (R := runs (lvR x fs base) n) H hne (by omega) hh
  obtain ⟨e1, e2, e3⟩ := chE_spec H hh
  unfold onB
  obtain ⟨E, hE⟩ : ∃ E, E = chE (nxR x fs base n) q h := ⟨_, rfl⟩
  rw [← hE] at h1 e1 e2 e3 ⊢
  have hEm : E < (runs (lvR x fs base) n).length := by omega
  have hnn : chn (runs (lvR x fs base) n) (nxR x fs base n) q h ≠ [] := by
    intro e
    rw [e, List.getLast?_eq_none_iff.2 rfl] at h1
    exact hne E hEm (List.getLast?_eq_none_iff.1 h1.symm)
  have hzl : z = lst ((runs (lvR x fs base) n).getD E []) := by
    have h2 : (chn (runs (lvR x fs base) n) (nxR x fs base n) q h).getLast? = some z := by
      rw [hz]
      unfold lst0
      have : 0 < (chn (runs (lvR x fs base) n) (nxR x fs base n) q h).length := List.length_pos_iff.2 hnn
      rw [List.getLast?_eq_getElem?, List.getD_eq_getElem?_getD, List.getElem?_eq_getElem (by omega)]; rfl
    unfold lst
    rw [List.getLastD_eq_getLast?, ← h1, h2]; rfl
  have hzm : z ∈ (runs (lvR x fs base) n).getD E [] := by rw [hzl]; exact lst_mem (hne E hEm)
  have hzn := (rix_of_mem n E z hEm hzm).2.1
  refine ⟨hzn, ?_⟩
  rw [Bool.eq_iff_iff, decide_eq_true_eq, Bool.and_eq_true, decide_eq_true_eq]
  constructor
  · intro h2
    obtain ⟨i, _, hi, _, _, _, hini, hmn, _, _, _, _, hhd⟩ := nxR_some hb hB h2
    rw [← hzl] at hi
    subst hi
    refine ⟨hini, ?_⟩
    rw [mt_ini hini, hhd]
  · rintro ⟨h2, h3⟩
    rw [mt_ini h2] at h3
    have h4 : mat (iniN x) (pdiN x) n z = hd ((runs (lvR x fs base) n).getD q []) := by omega
    have hqm : hd ((runs (lvR x fs base) n).getD q []) ∈ (runs (lvR x fs base) n).getD q [] := by
      exact hd_memL (hne q hq)
    obtain ⟨g1, g2, _⟩ := rix_of_mem n q _ hq hqm
    unfold nxR
    rw [← hzl, if_pos ⟨hEm, h2, by rw [h4]; exact g2⟩, h4, g1]
end

section
variable {x fs : Nat → Int} {base : Int} {n : Nat}

/-- The h-th head's sequence, of the runs ahead of q. -/
def rowN (x fs : Nat → Int) (base : Int) (n q j : Nat) : List Nat := chn (runs (lvR x fs base) n) (nxR x fs base n) q ((heads (pdR x fs base n) q).getD j 0)

/-- .. while the run q is held against the first k of them. -/
def rowK (x fs : Nat → Int) (base : Int) (n q k j : Nat) : List Nat := if j < k then rowN x fs base n q j ++ (if onB x fs base n q ((heads (pdR x fs base n) q).getD j 0) = true then (runs (lvR x fs base) n).getD q [] else []) else rowN x fs base n q j

def anyK (x fs : Nat → Int) (base : Int) (n q k : Nat) : Bool := (List.range k).any fun j => onB x fs base n q ((heads (pdR x fs base n) q).getD j 0)

theorem anyK_succ (q k : Nat) : anyK x fs base n q (k + 1) = (anyK x fs base n q k || onB x fs base n q ((heads (pdR x fs base n) q).getD k 0)) := by
  unfold anyK
  rw [List.range_succ, List.any_append]; simp

theorem heads_at {pd : Nat → Option Nat} {q j : Nat} (hj : j < (heads pd q).length) : (heads pd q).getD j 0 ∈ heads pd q := by
  rw [List.getD_eq_getElem?_getD, List.getElem?_eq_getElem hj]; exact List.getElem_mem hj

/-- At the end of a round all rows are those of the next one, but for the new one. -/
theorem rowK_done (hb : base = 0 ∨ base = 1) (hB : ∀ i, i < n → x i = 7 → n ≤ i + 1) {q j : Nat} (hj : j < (heads (pdR x fs base n) q).length) :
    rowK x fs base n q (heads (pdR x fs base n) q).length j = chn (runs (lvR x fs base) n) (nxR x fs base n) (q + 1) ((heads (pdR x fs base n) q).getD j 0) := by
  have H := runs_succ (x := x) (fs := fs) hb hB
  have hm := (heads_mem.1 (heads_at hj)).1
  unfold rowK
  rw [if_pos hj]
  unfold rowN onB
  rw [chn_step H hm]
  by_cases c : nxR x fs base n (chE (nxR x fs base n) q ((heads (pdR x fs base n) q).getD j 0)) = some q
  · rw [if_pos c, if_pos (by rw [decide_eq_true_eq]; exact c)]
  · rw [if_neg c, if_neg (by rw [decide_eq_true_eq]; exact c)]

/-- Whether any of them went on. -/
theorem anyK_head (hb : base = 0 ∨ base = 1) (hB : ∀ i, i < n → x i = 7 → n ≤ i + 1) {q : Nat} (hq : q < (runs (lvR x fs base) n).length) : anyK x fs base n q (heads (pdR x fs base n) q).length = !(headB (pdR x fs base n) q) := by
  have H := runs_succ (x := x) (fs := fs) hb hB
  have Q := runs_pred (x := x) (fs := fs) hb hB
  cases e : headB (pdR x fs base n) q with
  | true =>
    unfold anyK
    rw [Bool.not_true, List.any_eq_false]
    intro j _
    unfold onB
    rw [decide_eq_true_eq]
    exact no_end Q e _
  | false =>
    obtain ⟨a, ha, hn⟩ := some_end H Q e
    obtain ⟨j, hj, hja⟩ := List.getElem_of_mem ha
    unfold anyK
    rw [Bool.not_false, List.any_eq_true]
    refine ⟨j, List.mem_range.2 hj, ?_⟩
    unfold onB
    rw [decide_eq_true_eq, List.getD_eq_getElem?_getD, List.getElem?_eq_getElem hj]
    show nxR x fs base n (chE (nxR x fs base n) q ((heads (pdR x fs base n) q)[j])) = some q
    rw [hja]; exact hn
end

/-- The end of a sequence, as the program finds it. -/
def eoV (x fs ct : Nat → Int) (base : Int) (n : Nat) (l : List Nat) : Int :=
  dirN (max (eosL (lvR x fs base) ct base n (lst0 l)) (lvl x fs base (hd0 l)))
def soV (x fs : Nat → Int) (base : Int) (n : Nat) (l : List Nat) : Int :=
  dirN (max (befL (lvR x fs base) base (hd0 l)) (lvl x fs base (hd0 l)))

/-- The isolating run sequences. -/
def seqs (x fs : Nat → Int) (base : Int) (n : Nat) : List (List Nat) :=
  chains (runs (lvR x fs base) n) (nxR x fs base n) (pdR x fs base n) (runs (lvR x fs base) n).length

/-- What is known of a sequence: it is not empty, its places are in the text, none of them is removed; its first one begins a run, its last one ends one, and goes on nowhere. -/
structure SeqIs (x : Nat → Int) (base : Int) (n : Nat) (l : List Nat) : Prop where
  ne : l ≠ []
  lt : ∀ i, i ∈ l → i < n
  nr : ∀ i, i ∈ l → remN (x i) = false
  len : l.length ≤ n
  last : iniN x (lst0 l) = true → n ≤ mat (iniN x) (pdiN x) n (lst0 l)

theorem lst0_last {l : List Nat} (h : l ≠ []) : l.getLast? = some (lst0 l) := by
  unfold lst0
  have : 0 < l.length := List.length_pos_iff.2 h
  rw [List.getLast?_eq_getElem?, List.getD_eq_getElem?_getD, List.getElem?_eq_getElem (by omega)]; rfl

theorem seqs_is {x fs : Nat → Int} {base : Int} {n : Nat} (hb : base = 0 ∨ base = 1) (hB : ∀ i, i < n → x i = 7 → n ≤ i + 1) {l : List Nat} (h : l ∈ seqs x fs base n) : SeqIs x base n l := by
  have H := runs_succ (x := x) (fs := fs) hb hB
  have Q := runs_pred (x := x) (fs := fs) hb hB
  unfold seqs chains at h
  obtain ⟨k, hk, rfl⟩ := List.mem_map.1 h
  obtain ⟨hk1, hk2⟩ := heads_mem.1 hk
  have hne : ∀ r, r < (runs (lvR x fs base) n).length → (runs (lvR x fs base) n).getD r [] ≠ [] := fun r hr => (runs_at hr).ne
  have hnn : chn (runs (lvR x fs base) n) (nxR x fs base n) (runs (lvR x fs base) n).length k ≠ [] := by
    rw [chn_unfold H hk1]
    intro e
    exact hne k hk1 (List.append_eq_nil_iff.1 e).1
  refine ⟨hnn, fun i hi => ?_, fun i hi => ?_, chn_len H Q hk1 hk2, fun hi => ?_⟩
  · obtain ⟨q, hq, hiq⟩ := chT_mem H _ _ hk1 hi
    exact (rix_of_mem n q i hq hiq).2.1
  · obtain ⟨q, hq, hiq⟩ := chT_mem H _ _ hk1 hi
    exact (lvR_ne hb).1 (rix_of_mem n q i hq hiq).2.2
  · have h1 := chn_last H hne (Nat.le_refl _) hk1
    rw [lst0_last hnn] at h1
    obtain ⟨e1, e2, e3⟩ := chE_spec H hk1
    obtain ⟨E, hE⟩ : ∃ E, E = chE (nxR x fs base n) (runs (lvR x fs base) n).length k := ⟨_, rfl⟩
    rw [← hE] at h1 e1 e2
    have hl : lst0 (chn (runs (lvR x fs base) n) (nxR x fs base n) (runs (lvR x fs base) n).length k) = lst ((runs (lvR x fs base) n).getD E []) := by
      unfold lst
      rw [List.getLastD_eq_getLast?, ← h1]; rfl
    rw [hl] at hi ⊢
    apply Classical.byContradiction
    intro hc
    have h2 : nxR x fs base n E = some (rix (lvR x fs base) (mat (iniN x) (pdiN x) n (lst ((runs (lvR x fs base) n).getD E [])))) := by
      unfold nxR
      rw [if_pos ⟨e2, hi, by omega⟩]
    have h3 := e1 _ h2
    have h4 := (H.lt _ _ h2).2
    omega

theorem hd0_mem {l : List Nat} (h : l ≠ []) : hd0 l ∈ l := getD_mem0 (List.length_pos_iff.2 h)
theorem lst0_mem {l : List Nat} (h : l ≠ []) : lst0 l ∈ l := getD_mem0 (by have := List.length_pos_iff.2 h; omega)

theorem seqs_len {x fs : Nat → Int} {base : Int} {n : Nat} : (seqs x fs base n).length ≤ n := by
  unfold seqs chains heads
  rw [List.length_map]
  have h1 := List.length_filter_le (headB (pdR x fs base n)) (List.range (runs (lvR x fs base) n).length)
  have h2 := runs_len (lvR x fs base) n
  rw [List.length_range] at h1
  omega

theorem getD_memL {L : List (List Nat)} {j : Nat} (h : j < L.length) : L.getD j [] ∈ L := by
  rw [List.getD_eq_getElem?_getD, List.getElem?_eq_getElem h]; exact List.getElem_mem h

section
variable {x fs : Nat → Int} {base : Int} {n : Nat}

theorem chT_lvl (hb : base = 0 ∨ base = 1) (hB : ∀ i, i < n → x i = 7 → n ≤ i + 1) : ∀ f r, r < (runs (lvR x fs base) n).length →
    ∀ i, i ∈ chT (runs (lvR x fs base) n) (nxR x fs base n) (runs (lvR x fs base) n).length f r → lvR x fs base i = lvR x fs base (hd ((runs (lvR x fs base) n).getD r []))
  | 0, r, hr, i, hi => by
    rw [chT] at hi
    exact (runs_at hr).lvl i hi
  | f + 1, r, hr, i, hi => by
    have H := runs_succ (x := x) (fs := fs) hb hB
    rw [chT] at hi
    rcases List.mem_append.1 hi with h | h
    · exact (runs_at hr).lvl i h
    · cases e : nxR x fs base n r with
      | none => rw [e] at h; cases h
      | some q =>
        rw [e] at h
        have hq := (H.lt r q e).2
        simp only [if_pos hq] at h
        obtain ⟨i0, h1, h2, h3, h4, h5, h6, h7, h8, h9, h10, h11, h12⟩ := nxR_some hb hB e
        rw [chT_lvl hb hB f q hq i h, h12]
        have h22 : remN (x (mat (iniN x) (pdiN x) n i0)) = false := by rw [h8]; decide
        have hm := lst_mem (runs_at hr).ne
        rw [← h2] at hm
        rw [lvR_of h22, lvl_match (fs := fs) (base := base) (by omega) h1 h6 h7, ← lvR_of h5]
        exact (runs_at hr).lvl i0 hm

/-- A run begins in the list l at the place 'at': it is the one that goes on there. -/
theorem run_here (hb : base = 0 ∨ base = 1) (hB : ∀ i, i < n → x i = 7 → n ≤ i + 1) {A l : List Nat} {r j : Nat} (hr : r < (runs (lvR x fs base) n).length) (hj : j < (runs (lvR x fs base) n).length)
    (hl : A ++ chn (runs (lvR x fs base) n) (nxR x fs base n) (runs (lvR x fs base) n).length r = l) :
    (A.length + ((runs (lvR x fs base) n).getD j []).length ≤ l.length ∧ ∀ i, i < ((runs (lvR x fs base) n).getD j []).length → ((runs (lvR x fs base) n).getD j []).getD i 0 = l.getD (A.length + i) 0) ↔ j = r := by
  have H := runs_succ (x := x) (fs := fs) hb hB
  have hu := chn_unfold (R := runs (lvR x fs base) n) H hr
  have hget : ∀ i, i < ((runs (lvR x fs base) n).getD r []).length → l.getD (A.length + i) 0 = ((runs (lvR x fs base) n).getD r []).getD i 0 := fun i hi => by
    rw [← hl, hu, List.getD_eq_getElem?_getD (l := A ++ _), List.getElem?_append_right (by omega), Nat.add_sub_cancel_left, List.getElem?_append_left hi, ← List.getD_eq_getElem?_getD]
  constructor
  · rintro ⟨h1, h2⟩
    have hp := List.length_pos_iff.2 (runs_at (lv := lvR x fs base) hj).ne
    have hp2 := List.length_pos_iff.2 (runs_at (lv := lvR x fs base) hr).ne
    have e := h2 0 hp
    rw [hget 0 hp2] at e
    have m1 := getD_mem0 hp
    have m2 := getD_mem0 hp2
    rw [e] at m1
    exact (rix_of_mem n j _ hj m1).1.symm.trans (rix_of_mem n r _ hr m2).1
  · rintro rfl
    refine ⟨?_, fun i hi => (hget i hi).symm⟩
    rw [← hl, hu, List.length_append, List.length_append]
    omega
end

end Go.Proofs.YtjelgbfgciaapaaDoor
