/- Runs that are put together, in plain Lean: chains of runs over a successor, and how the reference finds them. No program in sight. -/
namespace Go.Proofs.YtjelgbfgciaapaaDoor

/-- The chain from run r on, of runs below q. -/
def chT (R : List (List Nat)) (nx : Nat → Option Nat) (q : Nat) : Nat → Nat → List Nat
  | 0, r => R.getD r []
  | f + 1, r => R.getD r [] ++ (match nx r with
    | some r' => if r' < q then chT R nx q f r' else []
    | none => [])

/-- Its last run. -/
def endT (nx : Nat → Option Nat) (q : Nat) : Nat → Nat → Nat
  | 0, r => r
  | f + 1, r => match nx r with
    | some r' => if r' < q then endT nx q f r' else r
    | none => r

structure Succ (m : Nat) (nx : Nat → Option Nat) : Prop where
  lt : ∀ r r', nx r = some r' → r < r' ∧ r' < m
  inj : ∀ r1 r2 q, nx r1 = some q → nx r2 = some q → r1 = r2

section
variable {R : List (List Nat)} {nx : Nat → Option Nat} {m : Nat}

theorem endT_spec (H : Succ m nx) (q : Nat) : ∀ f r, r < q → q ≤ r + f → (∀ r', nx (endT nx q f r) = some r' → q ≤ r') ∧ endT nx q f r < q ∧ r ≤ endT nx q f r
  | 0, r, h1, h2 => by omega
  | f + 1, r, h1, h2 => by
    unfold endT
    cases e : nx r with
    | none => exact ⟨fun r' h => (by rw [e] at h; cases h), h1, Nat.le_refl _⟩
    | some r' =>
      have hl := H.lt r r' e
      by_cases h : r' < q
      · simp only [if_pos h]
        have := endT_spec H q f r' h (by omega)
        exact ⟨this.1, this.2.1, by omega⟩
      · simp only [if_neg h]
        exact ⟨fun r2 h2 => by rw [e] at h2; cases h2; omega, h1, Nat.le_refl _⟩

/-- One more run. -/
theorem chT_step (H : Succ m nx) (q : Nat) : ∀ f r, r < q → q ≤ r + f → chT R nx (q + 1) (f + 1) r = chT R nx q f r ++ (if nx (endT nx q f r) = some q then R.getD q [] else [])
  | 0, r, h1, h2 => by omega
  | f + 1, r, h1, h2 => by
    rw [chT, chT, endT]
    cases e : nx r with
    | none => simp [e]
    | some r' =>
      have hl := H.lt r r' e
      by_cases h : r' < q
      · simp only [if_pos h, if_pos (show r' < q + 1 by omega)]
        rw [chT_step H q f r' h (by omega), List.append_assoc]
      · simp only [if_neg h]
        by_cases h2 : r' = q
        · subst h2
          rw [if_pos (by omega), if_pos e, List.append_nil]
          congr 1
          rw [chT]
          cases e2 : nx r' with
          | none => simp
          | some r2 =>
            have := (H.lt r' r2 e2).1
            simp only [if_neg (show ¬ r2 < r' + 1 by omega), List.append_nil]
        · rw [if_neg (show ¬ r' < q + 1 by omega), if_neg (by rw [e]; intro h3; cases h3; exact h2 rfl)]; simp

/-- Enough is enough. -/
theorem chT_fuel (H : Succ m nx) (q : Nat) : ∀ f g r, q ≤ r + f → q ≤ r + g → r < q → chT R nx q f r = chT R nx q g r
  | 0, g, r, h1, _, h3 => by omega
  | f + 1, 0, r, _, h2, h3 => by omega
  | f + 1, g + 1, r, h1, h2, h3 => by
    rw [chT, chT]
    cases e : nx r with
    | none => rfl
    | some r' =>
      have hl := H.lt r r' e
      by_cases h : r' < q
      · simp only [if_pos h]
        rw [chT_fuel H q f g r' (by omega) (by omega) h]
      · simp only [if_neg h]

theorem endT_fuel (H : Succ m nx) (q : Nat) : ∀ f g r, q ≤ r + f → q ≤ r + g → r < q → endT nx q f r = endT nx q g r
  | 0, g, r, h1, _, h3 => by omega
  | f + 1, 0, r, _, h2, h3 => by omega
  | f + 1, g + 1, r, h1, h2, h3 => by
    rw [endT, endT]
    cases e : nx r with
    | none => rfl
    | some r' =>
      have hl := H.lt r r' e
      by_cases h : r' < q
      · simp only [if_pos h]
        rw [endT_fuel H q f g r' (by omega) (by omega) h]
      · simp only [if_neg h]

/-- The chain of runs below q from r on. -/
def chn (R : List (List Nat)) (nx : Nat → Option Nat) (q r : Nat) : List Nat := chT R nx q q r
def chE (nx : Nat → Option Nat) (q r : Nat) : Nat := endT nx q q r

theorem chn_step (H : Succ m nx) {q r : Nat} (h : r < q) : chn R nx (q + 1) r = chn R nx q r ++ (if nx (chE nx q r) = some q then R.getD q [] else []) := by
  unfold chn chE
  exact chT_step H q q r h (by omega)

theorem chn_new (H : Succ m nx) (q : Nat) : chn R nx (q + 1) q = R.getD q [] := by
  unfold chn
  rw [chT]
  cases e : nx q with
  | none => simp
  | some r2 =>
    have := (H.lt q r2 e).1
    simp only [if_neg (show ¬ r2 < q + 1 by omega), List.append_nil]

theorem chE_spec (H : Succ m nx) {q r : Nat} (h : r < q) : (∀ r', nx (chE nx q r) = some r' → q ≤ r') ∧ chE nx q r < q ∧ r ≤ chE nx q r := endT_spec H q q r h (by omega)

/-- The last place of a chain is that of its last run. -/
theorem chT_last (H : Succ m nx) (hne : ∀ r, r < m → R.getD r [] ≠ []) (q : Nat) (hq : q ≤ m) : ∀ f r, r < q → q ≤ r + f → (chT R nx q f r).getLast? = (R.getD (endT nx q f r) []).getLast?
  | 0, r, h1, h2 => by omega
  | f + 1, r, h1, h2 => by
    rw [chT, endT]
    cases e : nx r with
    | none => simp
    | some r' =>
      have hl := H.lt r r' e
      by_cases h : r' < q
      · simp only [if_pos h]
        have ih := chT_last H hne q hq f r' h (by omega)
        have hn := hne (endT nx q f r') (by have := (endT_spec H q f r' h (by omega)).2.1; omega)
        rw [List.getLast?_append, ih]
        cases e2 : (R.getD (endT nx q f r') []).getLast? with
        | none => exact absurd (List.getLast?_eq_none_iff.1 e2) hn
        | some y => rfl
      · simp only [if_neg h, List.append_nil]

theorem chn_last (H : Succ m nx) (hne : ∀ r, r < m → R.getD r [] ≠ []) {q r : Nat} (hq : q ≤ m) (h : r < q) : (chn R nx q r).getLast? = (R.getD (chE nx q r) []).getLast? := chT_last H hne q hq q r h (by omega)

/-- The run ahead of a run: nx turned round. -/
structure Pred (nx pd : Nat → Option Nat) : Prop where
  iff : ∀ r q, nx r = some q ↔ pd q = some r

def headB (pd : Nat → Option Nat) (q : Nat) : Bool := (pd q).isNone

/-- The first run of the chain on which a run lies. -/
def root (pd : Nat → Option Nat) : Nat → Nat → Nat
  | 0, r => r
  | f + 1, r => match pd r with
    | some p => root pd f p
    | none => r

variable {pd : Nat → Option Nat}

theorem root_fuel (H : Succ m nx) (Q : Pred nx pd) : ∀ f g r, r ≤ f → r ≤ g → root pd f r = root pd g r
  | 0, 0, _, _, _ => rfl
  | 0, g + 1, r, h1, _ => by
    rw [root, root]
    cases e : pd r with
    | none => rfl
    | some p => have := (H.lt p r ((Q.iff p r).2 e)).1; omega
  | f + 1, 0, r, _, h2 => by
    rw [root, root]
    cases e : pd r with
    | none => rfl
    | some p => have := (H.lt p r ((Q.iff p r).2 e)).1; omega
  | f + 1, g + 1, r, h1, h2 => by
    rw [root, root]
    cases e : pd r with
    | none => rfl
    | some p =>
      have := (H.lt p r ((Q.iff p r).2 e)).1
      exact root_fuel H Q f g p (by omega) (by omega)

theorem root_next (H : Succ m nx) (Q : Pred nx pd) {r r' : Nat} (h : nx r = some r') : root pd r' r' = root pd r r := by
  have hl := (H.lt r r' h).1
  obtain ⟨k, rfl⟩ : ∃ k, r' = k + 1 := ⟨r' - 1, by omega⟩
  have e : pd (k + 1) = some r := (Q.iff r (k + 1)).1 h
  rw [root, e]
  exact root_fuel H Q k r r (by omega) (Nat.le_refl _)

theorem root_end (H : Succ m nx) (Q : Pred nx pd) (q : Nat) : ∀ f r, root pd (endT nx q f r) (endT nx q f r) = root pd r r
  | 0, _ => rfl
  | f + 1, r => by
    rw [endT]
    cases e : nx r with
    | none => rfl
    | some r' =>
      by_cases h : r' < q
      · simp only [if_pos h]
        rw [root_end H Q q f r', root_next H Q e]
      · simp only [if_neg h]

theorem root_head {r : Nat} (h : headB pd r = true) (f : Nat) : root pd f r = r := by
  cases f with
  | zero => rfl
  | succ f =>
    rw [root]
    unfold headB at h
    cases e : pd r with
    | none => rfl
    | some p => rw [e] at h; cases h

/-- Two chains do not end in the same run. -/
theorem chE_inj (H : Succ m nx) (Q : Pred nx pd) {q a b : Nat} (h1 : headB pd a = true) (h2 : headB pd b = true) (e : chE nx q a = chE nx q b) : a = b := by
  have ha := root_end H Q q q a
  have hb := root_end H Q q q b
  unfold chE at e
  rw [e] at ha
  rw [root_head h1] at ha
  rw [root_head h2] at hb
  rw [← ha, hb]

/-- Each run that some run follows from beyond is the end of a chain. -/
theorem head_of (H : Succ m nx) (Q : Pred nx pd) (q : Nat) : ∀ r, r < q → (∀ r', nx r = some r' → q ≤ r') → ∃ h, h ≤ r ∧ headB pd h = true ∧ chE nx q h = r := by
  have key : ∀ r s, s < q → chE nx q s = r → ∃ h, h ≤ s ∧ headB pd h = true ∧ chE nx q h = r := by
    intro r s
    induction s using Nat.strongRecOn with
    | _ s ih =>
      intro hs he
      cases e : pd s with
      | none => exact ⟨s, Nat.le_refl _, by unfold headB; rw [e]; rfl, he⟩
      | some p =>
        have hp := (Q.iff p s).2 e
        have hl := H.lt p s hp
        have hep : chE nx q p = r := by
          rw [← he]
          unfold chE
          obtain ⟨q', rfl⟩ : ∃ q', q = q' + 1 := ⟨q - 1, by omega⟩
          have h1 : endT nx (q' + 1) (q' + 1) p = endT nx (q' + 1) q' s := by
            rw [endT, hp]; simp only [if_pos hs]
          rw [h1]
          exact endT_fuel H (q' + 1) q' (q' + 1) s (by omega) (by omega) hs
        obtain ⟨h, h1, h2, h3⟩ := ih p hl.1 (by omega) hep
        exact ⟨h, by omega, h2, h3⟩
  intro r hr hn
  have he : chE nx q r = r := by
    unfold chE
    obtain ⟨q', rfl⟩ : ∃ q', q = q' + 1 := ⟨q - 1, by omega⟩
    rw [endT]
    cases e : nx r with
    | none => rfl
    | some r' =>
      have := hn r' e
      simp only [if_neg (show ¬ r' < q' + 1 by omega)]
  obtain ⟨h, h1, h2, h3⟩ := key r r hr he
  exact ⟨h, h1, h2, h3⟩

/-- The chains of runs below q, by their first runs. -/
def heads (pd : Nat → Option Nat) (q : Nat) : List Nat := (List.range q).filter (headB pd)
def chains (R : List (List Nat)) (nx pd : Nat → Option Nat) (q : Nat) : List (List Nat) := (heads pd q).map (chn R nx q)

theorem heads_mem {q h : Nat} : h ∈ heads pd q ↔ h < q ∧ headB pd h = true := by unfold heads; simp

theorem chains_step (H : Succ m nx) (q : Nat) : chains R nx pd (q + 1) = (heads pd q).map (fun h => chn R nx q h ++ (if nx (chE nx q h) = some q then R.getD q [] else [])) ++ (if headB pd q = true then [R.getD q []] else []) := by
  unfold chains heads
  rw [List.range_succ, List.filter_append, List.map_append]
  congr 1
  · refine List.map_congr_left fun h hh => ?_
    have := (List.mem_filter.1 hh).1
    exact chn_step H (by simpa using this)
  · by_cases e : headB pd q = true
    · rw [if_pos e]; simp [e, chn_new H q]
    · rw [if_neg e]; simp [e]

/-- A run that begins no chain goes to the end of one. -/
theorem some_end (H : Succ m nx) (Q : Pred nx pd) {q : Nat} (h : headB pd q = false) : ∃ a, a ∈ heads pd q ∧ nx (chE nx q a) = some q := by
  unfold headB at h
  cases e : pd q with
  | none => rw [e] at h; cases h
  | some r =>
    have hn := (Q.iff r q).2 e
    have hl := (H.lt r q hn).1
    obtain ⟨a, h1, h2, h3⟩ := head_of H Q q r hl (fun r' hr' => by rw [hn] at hr'; cases hr'; exact Nat.le_refl _)
    exact ⟨a, heads_mem.2 ⟨by omega, h2⟩, by rw [h3]; exact hn⟩

/-- A run that begins a chain goes to the end of none. -/
theorem no_end (Q : Pred nx pd) {q : Nat} (h : headB pd q = true) (r : Nat) : nx r ≠ some q := fun e => by
  have := (Q.iff r q).1 e
  unfold headB at h
  rw [this] at h
  cases h

def total (L : List (List Nat)) : Nat := L.flatten.length

theorem sum_one {l : List Nat} {P : Nat → Prop} [DecidablePred P] {c : Nat} (hnd : l.Nodup) (hu : ∀ a b, a ∈ l → b ∈ l → P a → P b → a = b) (he : ∃ a, a ∈ l ∧ P a) : (l.map (fun h => if P h then c else 0)).sum = c := by
  induction l with
  | nil => obtain ⟨a, ha, _⟩ := he; cases ha
  | cons x xs ih =>
    rw [List.map_cons, List.sum_cons]
    have hnd' := List.nodup_cons.1 hnd
    by_cases hx : P x
    · rw [if_pos hx]
      have : (xs.map (fun h => if P h then c else 0)).sum = 0 := by
        have hz : ∀ y, y ∈ xs → (if P y then c else 0) = 0 := fun y hy => by
          rw [if_neg]
          intro hp
          have := hu x y List.mem_cons_self (List.mem_cons_of_mem _ hy) hx hp
          exact hnd'.1 (this ▸ hy)
        clear ih hnd hu he hnd'
        induction xs with
        | nil => rfl
        | cons y ys ih2 =>
          rw [List.map_cons, List.sum_cons, hz y List.mem_cons_self, ih2 (fun z hz2 => hz z (List.mem_cons_of_mem _ hz2))]
      omega
    · rw [if_neg hx, Nat.zero_add]
      refine ih hnd'.2 (fun a b ha hb => hu a b (List.mem_cons_of_mem _ ha) (List.mem_cons_of_mem _ hb)) ?_
      obtain ⟨a, ha, hp⟩ := he
      rcases List.mem_cons.1 ha with e | h
      · subst e; exact absurd hp hx
      · exact ⟨a, h, hp⟩

/-- The chains have as many places as the runs. -/
theorem chains_total (H : Succ m nx) (Q : Pred nx pd) : ∀ q, q ≤ R.length → total (chains R nx pd q) = total (R.take q)
  | 0, _ => rfl
  | q + 1, hq => by
    have ih := chains_total H Q q (by omega)
    have hr : R.take (q + 1) = R.take q ++ [R.getD q []] := by
      rw [List.take_add_one, List.getElem?_eq_getElem (by omega), List.getD_eq_getElem?_getD, List.getElem?_eq_getElem (by omega)]; rfl
    rw [chains_step H, hr]
    unfold total at ih ⊢
    simp only [List.flatten_append, List.length_append]
    rw [← ih]
    have hm : ((heads pd q).map (fun h => chn R nx q h ++ (if nx (chE nx q h) = some q then R.getD q [] else []))).flatten.length = (chains R nx pd q).flatten.length + ((heads pd q).map (fun h => if nx (chE nx q h) = some q then (R.getD q []).length else 0)).sum := by
      unfold chains
      generalize heads pd q = l
      induction l with
      | nil => rfl
      | cons x xs ih2 =>
        simp only [List.map_cons, List.flatten_cons, List.length_append, List.sum_cons]
        rw [ih2]
        split <;> simp <;> omega
    rw [hm]
    by_cases e : headB pd q = true
    · rw [if_pos e]
      have hz : ((heads pd q).map (fun h => if nx (chE nx q h) = some q then (R.getD q []).length else 0)).sum = 0 := by
        have : (heads pd q).map (fun h => if nx (chE nx q h) = some q then (R.getD q []).length else 0) = (heads pd q).map (fun _ => 0) := List.map_congr_left fun h _ => if_neg (no_end Q e _)
        rw [this]
        generalize heads pd q = l
        induction l with
        | nil => rfl
        | cons x xs ih2 => rw [List.map_cons, List.sum_cons, ih2]
      rw [hz]; simp
    · rw [if_neg e]
      have e' : headB pd q = false := by simpa using e
      have hs := sum_one (l := heads pd q) (P := fun h => nx (chE nx q h) = some q) (c := (R.getD q []).length) ((List.nodup_range).filter _) (fun a b ha hb p1 p2 => chE_inj H Q (heads_mem.1 ha).2 (heads_mem.1 hb).2 (H.inj _ _ q p1 p2)) (some_end H Q e')
      rw [hs]; simp
end

end Go.Proofs.YtjelgbfgciaapaaDoor
