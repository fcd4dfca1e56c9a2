/- Rule L2 in plain Lean: what turning round all that stands at a level or above it does to places ('rho'), level by level ('U', 'Dn'). No program in sight. -/

namespace Go.Proofs.YtkocpijloiamcaaDoor.Ord

/-- Where the row of places at level L or above that ends ahead of i begins. -/
def lo (lv : Nat → Int) (L : Int) : Nat → Nat
  | 0 => 0
  | i + 1 => if L ≤ lv i then lo lv L i else i + 1

/-- Where the row of places at level L or above that begins at i ends; at most m places on. -/
def hiF (lv : Nat → Int) (L : Int) : Nat → Nat → Nat
  | 0, i => i
  | m + 1, i => if L ≤ lv i then hiF lv L m (i + 1) else i

def hi (lv : Nat → Int) (n : Nat) (L : Int) (i : Nat) : Nat := hiF lv L (n - i) i

/-- Turning round every longest row at level L or above, below n. -/
def rho (lv : Nat → Int) (n : Nat) (L : Int) (p : Nat) : Nat := if p < n ∧ L ≤ lv p then lo lv L p + hi lv n L p - 1 - p else p

/-- From level 1 up to level m. -/
def U (lv : Nat → Int) (n : Nat) : Nat → Nat → Nat
  | 0, p => p
  | m + 1, p => rho lv n ((m + 1 : Nat) : Int) (U lv n m p)

/-- m levels from H down. -/
def Dn (lv : Nat → Int) (n : Nat) (H : Int) : Nat → Nat → Nat
  | 0, p => p
  | m + 1, p => Dn lv n H m (rho lv n (H - m) p)

variable {lv : Nat → Int} {n : Nat} {L : Int}

theorem lo_le : ∀ i, lo lv L i ≤ i
  | 0 => Nat.le_refl _
  | i + 1 => by
    have := lo_le i
    unfold lo
    split <;> omega

theorem lo_in : ∀ i j, lo lv L i ≤ j → j < i → L ≤ lv j
  | 0, j, _, h => absurd h (Nat.not_lt_zero _)
  | i + 1, j, h1, h2 => by
    unfold lo at h1
    split at h1
    · by_cases e : j = i
      · subst e; assumption
      · exact lo_in i j h1 (by omega)
    · omega

theorem lo_edge : ∀ i, lo lv L i = 0 ∨ lv (lo lv L i - 1) < L
  | 0 => .inl rfl
  | i + 1 => by
    unfold lo
    split
    · exact lo_edge i
    · right; simp; omega

theorem lo_eq {i s : Nat} (h : s ≤ i) (hin : ∀ j, s ≤ j → j < i → L ≤ lv j) (he : s = 0 ∨ lv (s - 1) < L) : lo lv L i = s := by
  rcases Nat.lt_trichotomy (lo lv L i) s with h1 | h1 | h1
  · rcases he with he | he
    · omega
    · have := lo_in (lv := lv) (L := L) i (s - 1) (by omega) (by omega); omega
  · exact h1
  · rcases lo_edge (lv := lv) (L := L) i with h2 | h2
    · omega
    · have := hin (lo lv L i - 1) (by omega) (by have := lo_le (lv := lv) (L := L) i; omega); omega

theorem hiF_ge : ∀ m i, i ≤ hiF lv L m i
  | 0, _ => Nat.le_refl _
  | m + 1, i => by
    have := hiF_ge m (i + 1)
    unfold hiF
    split <;> omega

theorem hiF_le : ∀ m i, hiF lv L m i ≤ i + m
  | 0, _ => Nat.le_refl _
  | m + 1, i => by
    have := hiF_le m (i + 1)
    unfold hiF
    split <;> omega

theorem hiF_in : ∀ m i j, i ≤ j → j < hiF lv L m i → L ≤ lv j
  | 0, i, j, h1, h2 => by unfold hiF at h2; omega
  | m + 1, i, j, h1, h2 => by
    unfold hiF at h2
    split at h2
    · by_cases e : j = i
      · subst e; assumption
      · exact hiF_in m (i + 1) j (by omega) h2
    · omega

theorem hiF_edge : ∀ m i, hiF lv L m i = i + m ∨ lv (hiF lv L m i) < L
  | 0, _ => .inl rfl
  | m + 1, i => by
    unfold hiF
    split
    · rcases hiF_edge m (i + 1) with h | h
      · left; omega
      · right; exact h
    · right; omega

theorem hi_ge (i : Nat) : i ≤ hi lv n L i := hiF_ge _ _
theorem hi_le {i : Nat} (h : i ≤ n) : hi lv n L i ≤ n := by have := hiF_le (lv := lv) (L := L) (n - i) i; unfold hi; omega
theorem hi_in {i j : Nat} (h1 : i ≤ j) (h2 : j < hi lv n L i) : L ≤ lv j := hiF_in _ _ _ h1 h2
theorem hi_edge {i : Nat} (h : i ≤ n) : hi lv n L i = n ∨ lv (hi lv n L i) < L := by
  rcases hiF_edge (lv := lv) (L := L) (n - i) i with h' | h'
  · left; unfold hi; omega
  · right; exact h'

theorem hi_eq {i t : Nat} (h : i ≤ t) (ht : t ≤ n) (hin : ∀ j, i ≤ j → j < t → L ≤ lv j) (he : t = n ∨ lv t < L) : hi lv n L i = t := by
  rcases Nat.lt_trichotomy (hi lv n L i) t with h1 | h1 | h1
  · rcases hi_edge (lv := lv) (L := L) (n := n) (i := i) (by omega) with h2 | h2
    · omega
    · have := hin (hi lv n L i) (hi_ge i) h1; omega
  · exact h1
  · rcases he with he | he
    · have := hi_le (lv := lv) (L := L) (n := n) (i := i) (by omega); omega
    · have := hi_in (lv := lv) (L := L) (n := n) (i := i) h h1; omega

/-- A longest row, by its ends. -/
def Run (lv : Nat → Int) (n : Nat) (L : Int) (s t : Nat) : Prop :=
  s < t ∧ t ≤ n ∧ (∀ j, s ≤ j → j < t → L ≤ lv j) ∧ (s = 0 ∨ lv (s - 1) < L) ∧ (t = n ∨ lv t < L)

theorem rho_run {s t p : Nat} (h : Run lv n L s t) (h1 : s ≤ p) (h2 : p < t) : rho lv n L p = s + t - 1 - p := by
  obtain ⟨h3, h4, h5, h6, h7⟩ := h
  unfold rho
  rw [if_pos ⟨by omega, h5 p h1 h2⟩, lo_eq h1 (fun j a b => h5 j a (by omega)) h6, hi_eq (by omega) h4 (fun j a b => h5 j (by omega) b) h7]

theorem rho_low {p : Nat} (h : lv p < L) : rho lv n L p = p := by unfold rho; rw [if_neg (by omega)]
theorem rho_out {p : Nat} (h : n ≤ p) : rho lv n L p = p := by unfold rho; rw [if_neg (by omega)]

/-- A place at level L or above lies in a longest row. -/
theorem run_of {p : Nat} (hp : p < n) (h : L ≤ lv p) : ∃ s t, Run lv n L s t ∧ s ≤ p ∧ p < t := by
  have hgt : p < hi lv n L p := by
    rcases Nat.lt_or_ge p (hi lv n L p) with h1 | h1
    · exact h1
    · have h2 := hi_ge (lv := lv) (n := n) (L := L) p
      rcases hi_edge (lv := lv) (n := n) (L := L) (i := p) (by omega) with h3 | h3
      · omega
      · have e : hi lv n L p = p := by omega
        rw [e] at h3; omega
  have hle := lo_le (lv := lv) (L := L) p
  refine ⟨lo lv L p, hi lv n L p, ⟨by omega, hi_le (by omega), fun j a b => ?_, lo_edge p, hi_edge (by omega)⟩, hle, hgt⟩
  by_cases e : j < p
  · exact lo_in p j a e
  · exact hi_in (by omega) b

theorem rho_cases (p : Nat) : rho lv n L p = p ∨ ∃ s t, Run lv n L s t ∧ s ≤ p ∧ p < t ∧ rho lv n L p = s + t - 1 - p := by
  by_cases hp : p < n
  · by_cases h : L ≤ lv p
    · obtain ⟨s, t, hr, h1, h2⟩ := run_of hp h
      exact .inr ⟨s, t, hr, h1, h2, rho_run hr h1 h2⟩
    · exact .inl (rho_low (by omega))
  · exact .inl (rho_out (by omega))

theorem rho_lt {p : Nat} (hp : p < n) : rho lv n L p < n := by
  rcases rho_cases (lv := lv) (n := n) (L := L) p with h | ⟨s, t, hr, h1, h2, h3⟩
  · omega
  · have := hr.2.1; omega

theorem rho_rho (p : Nat) : rho lv n L (rho lv n L p) = p := by
  rcases rho_cases (lv := lv) (n := n) (L := L) p with h | ⟨s, t, hr, h1, h2, h3⟩
  · rw [h, h]
  · rw [h3, rho_run hr (by omega) (by omega)]; omega

theorem rho_inj {p q : Nat} (h : rho lv n L p = rho lv n L q) : p = q := by
  rw [← rho_rho (lv := lv) (n := n) (L := L) p, h, rho_rho]

/-- Turning round at a level keeps the side of every level up to it. -/
theorem rho_keeps {M : Int} (hM : M ≤ L) (p : Nat) : M ≤ lv (rho lv n L p) ↔ M ≤ lv p := by
  rcases rho_cases (lv := lv) (n := n) (L := L) p with h | ⟨s, t, hr, h1, h2, h3⟩
  · rw [h]
  · have a := hr.2.2.1 p h1 h2
    have b := hr.2.2.1 (s + t - 1 - p) (by omega) (by omega)
    rw [h3]
    constructor <;> intro _ <;> omega

/-- A row at level L lies in one at each level below. -/
theorem rho_within {M : Int} (hM : M ≤ L) {s t p : Nat} (hr : Run lv n M s t) (h1 : s ≤ p) (h2 : p < t) : s ≤ rho lv n L p ∧ rho lv n L p < t := by
  rcases rho_cases (lv := lv) (n := n) (L := L) p with h | ⟨s', t', hr', h1', h2', h3⟩
  · omega
  · have hs : s ≤ s' := by
      rcases Nat.lt_or_ge s' s with h | h
      · rcases hr.2.2.2.1 with h4 | h4
        · omega
        · have := hr'.2.2.1 (s - 1) (by omega) (by omega); omega
      · exact h
    have ht : t' ≤ t := by
      rcases Nat.lt_or_ge t t' with h | h
      · rcases hr.2.2.2.2 with h4 | h4
        · have := hr'.2.1; omega
        · have := hr'.2.2.1 t (by omega) (by omega); omega
      · exact h
    omega

theorem rho_congr {lv' : Nat → Int} {L' : Int} (h : ∀ i, i < n → (L ≤ lv i ↔ L' ≤ lv' i)) (p : Nat) : rho lv n L p = rho lv' n L' p := by
  by_cases hp : p < n
  · by_cases h1 : L ≤ lv p
    · obtain ⟨s, t, hr, a, b⟩ := run_of hp h1
      have hr' : Run lv' n L' s t := by
        obtain ⟨x1, x2, x3, x4, x5⟩ := hr
        refine ⟨x1, x2, fun j c d => (h j (by omega)).1 (x3 j c d), ?_, ?_⟩
        · rcases x4 with x4 | x4
          · exact .inl x4
          · right; have := h (s - 1) (by omega); omega
        · by_cases e : t = n
          · exact .inl e
          · rcases x5 with x5 | x5
            · exact .inl x5
            · right; have := h t (by omega); omega
      rw [rho_run hr a b, rho_run hr' a b]
    · have := h p hp
      rw [rho_low (by omega), rho_low (by omega)]
  · rw [rho_out (by omega), rho_out (by omega)]

theorem U_lt {m p : Nat} (hp : p < n) : U lv n m p < n := by
  induction m with
  | zero => exact hp
  | succ m ih => exact rho_lt ih

theorem U_inj {m p q : Nat} (h : U lv n m p = U lv n m q) : p = q := by
  induction m with
  | zero => exact h
  | succ m ih => exact ih (rho_inj h)

/-- Above the greatest level nothing turns. -/
theorem U_above {H m : Nat} (hH : ∀ i, i < n → lv i ≤ (H : Int)) (hm : H ≤ m) {p : Nat} (hp : p < n) : U lv n m p = U lv n H p := by
  induction m with
  | zero => have : H = 0 := by omega
            subst this; rfl
  | succ m ih =>
    by_cases e : H = m + 1
    · subst e; rfl
    · have := ih (by omega)
      show rho lv n _ (U lv n m p) = _
      rw [rho_low, this]
      have h1 := hH (U lv n m p) (U_lt hp)
      omega

theorem U_congr {lv' : Nat → Int} (h : ∀ i, i < n → lv i = lv' i) (m p : Nat) : U lv n m p = U lv' n m p := by
  induction m with
  | zero => rfl
  | succ m ih =>
    show rho lv n _ (U lv n m p) = rho lv' n _ (U lv' n m p)
    rw [ih]
    exact rho_congr (fun i hi => by rw [h i hi]) _

theorem U_Dn (H : Nat) : ∀ m, m ≤ H → ∀ p, U lv n H p = Dn lv n (H : Int) m (U lv n (H - m) p)
  | 0, _, p => rfl
  | m + 1, h, p => by
    rw [U_Dn H m (by omega) p]
    show _ = Dn lv n (H : Int) m (rho lv n ((H : Int) - (m : Int)) (U lv n (H - (m + 1)) p))
    have e : H - m = (H - (m + 1)) + 1 := by omega
    rw [e]
    show Dn lv n _ m (rho lv n _ (U lv n (H - (m + 1)) p)) = _
    have e2 : (((H - (m + 1)) + 1 : Nat) : Int) = (H : Int) - (m : Int) := by omega
    rw [e2]

/-- Without odd levels below 2 k + 1 the levels up to 2 k turn nothing. -/
theorem U_even (k : Nat) (h : ∀ i, i < n → lv i % 2 = 1 → (2 * k : Int) < lv i) (p : Nat) : U lv n (2 * k) p = p := by
  induction k with
  | zero => rfl
  | succ k ih =>
    have e : 2 * (k + 1) = 2 * k + 1 + 1 := by omega
    rw [e]
    show rho lv n ((2 * k + 1 + 1 : Nat) : Int) (rho lv n ((2 * k + 1 : Nat) : Int) (U lv n (2 * k) p)) = p
    rw [ih (fun i hi ho => by have := h i hi ho; omega)]
    have e2 : ∀ q, rho lv n ((2 * k + 1 + 1 : Nat) : Int) q = rho lv n ((2 * k + 1 : Nat) : Int) q := fun q => rho_congr (fun i hi => by
      constructor
      · intro _; omega
      · intro h1
        by_cases h2 : lv i % 2 = 1
        · have := h i hi h2; omega
        · omega) q
    rw [e2, rho_rho]

/-- What the code does, from the greatest level down to the least odd one, is all of L2. -/
theorem Dn_all {H o : Int} (hH0 : 0 ≤ H) (hH : ∀ i, i < n → lv i ≤ H) (hH1 : H = 0 ∨ ∃ i, i < n ∧ lv i = H) (hH2 : H ≤ 126)
    (ho : ∀ i, i < n → lv i % 2 = 1 → o ≤ lv i) (ho2 : o % 2 = 1) (ho3 : 0 < o) {p : Nat} (hp : p < n) :
    Dn lv n H (H + 1 - o).toNat p = U lv n 126 p := by
  obtain ⟨h, rfl⟩ := Int.eq_ofNat_of_zero_le hH0
  rw [U_above hH (by omega) hp]
  by_cases hle : o ≤ (h : Int)
  · rw [U_Dn h ((h : Int) + 1 - o).toNat (by omega) p]
    have e : h - ((h : Int) + 1 - o).toNat = 2 * ((o.toNat - 1) / 2) := by omega
    rw [e, U_even]
    intro i hi h1
    have := ho i hi h1
    omega
  · have e : ((h : Int) + 1 - o).toNat = 0 := by omega
    rw [e]
    show p = _
    have hev : h % 2 = 0 := by
      rcases hH1 with h1 | ⟨i, hi, h1⟩
      · omega
      · by_cases h2 : lv i % 2 = 1
        · have := ho i hi h2; omega
        · omega
    have e2 : h = 2 * (h / 2) := by omega
    rw [e2, U_even]
    intro i hi h1
    have := ho i hi h1
    omega

theorem Dn_lt {H : Int} {m p : Nat} (hp : p < n) : Dn lv n H m p < n := by
  induction m generalizing p with
  | zero => exact hp
  | succ m ih => exact ih (rho_lt hp)

/-- The levels of places that have been turned round at greater levels are on the same side of a level. -/
theorem Dn_keeps {H M : Int} {m : Nat} (hM : M ≤ H - m + 1) (p : Nat) : M ≤ lv (Dn lv n H m p) ↔ M ≤ lv p := by
  induction m generalizing p with
  | zero => exact Iff.rfl
  | succ m ih =>
    show M ≤ lv (Dn lv n H m (rho lv n (H - m) p)) ↔ _
    rw [ih (by omega), rho_keeps (by omega)]

end Go.Proofs.YtkocpijloiamcaaDoor.Ord
