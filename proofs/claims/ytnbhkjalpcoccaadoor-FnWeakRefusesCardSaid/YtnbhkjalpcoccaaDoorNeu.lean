/- N1 and N2 in plain Lean. No program in sight. -/
namespace Go.Proofs.YtnbhkjalpcoccaaDoor

/-- The last that is not neutral ahead of a place, as a side; sos if there is none. -/
def bef (N : Nat → Bool) (st : Nat → Int) (sos : Int) : Nat → Int
  | 0 => sos
  | i + 1 => if N i = true then bef N st sos i else st i

/-- The first that is not neutral from a place on, as a side; eos if there is none. The first number counts the places that are left. -/
def beh (N : Nat → Bool) (st : Nat → Int) (eos : Int) : Nat → Nat → Int
  | 0, _ => eos
  | f + 1, i => if N i = true then beh N st eos f (i + 1) else st i

/-- Where the run of neutrals from a place on ends. -/
def nxt (N : Nat → Bool) : Nat → Nat → Nat
  | 0, i => i
  | f + 1, i => if N i = true then nxt N f (i + 1) else i

/-- N1 and N2. -/
def nout (N : Nat → Bool) (st : Nat → Int) (sos eos e : Int) (n : Nat) (c : Nat → Int) (i : Nat) : Int :=
  if N i = true then (if bef N st sos i = beh N st eos (n - i) i then bef N st sos i else e) else c i

variable {N : Nat → Bool} {st : Nat → Int} {sos eos e : Int} {n : Nat} {c : Nat → Int}

theorem bef_succ_neu {i : Nat} (h : N i = true) : bef N st sos (i + 1) = bef N st sos i := by rw [bef, if_pos h]
theorem bef_succ_not {i : Nat} (h : N i = false) : bef N st sos (i + 1) = st i := by rw [bef, if_neg (by rw [h]; decide)]
theorem beh_neu {i : Nat} (hi : i < n) (h : N i = true) : beh N st eos (n - i) i = beh N st eos (n - (i + 1)) (i + 1) := by
  rw [show n - i = n - (i + 1) + 1 by omega, beh, if_pos h]
theorem beh_not {i : Nat} (hi : i < n) (h : N i = false) : beh N st eos (n - i) i = st i := by
  rw [show n - i = n - (i + 1) + 1 by omega, beh, if_neg (by rw [h]; decide)]
theorem beh_end {i : Nat} (hi : n ≤ i) : beh N st eos (n - i) i = eos := by rw [show n - i = 0 by omega, beh]

theorem nxt_neu {i : Nat} (hi : i < n) (h : N i = true) : nxt N (n - i) i = nxt N (n - (i + 1)) (i + 1) := by
  rw [show n - i = n - (i + 1) + 1 by omega, nxt, if_pos h]
theorem nxt_not {i : Nat} (hi : i < n) (h : N i = false) : nxt N (n - i) i = i := by
  rw [show n - i = n - (i + 1) + 1 by omega, nxt, if_neg (by rw [h]; decide)]
theorem nxt_end {i : Nat} (hi : n ≤ i) : nxt N (n - i) i = i := by rw [show n - i = 0 by omega, nxt]

theorem nxt_ge : ∀ f i, i ≤ nxt N f i
  | 0, _ => Nat.le_refl _
  | f + 1, i => by
    rw [nxt]
    split
    · have := nxt_ge f (i + 1); omega
    · omega

theorem nxt_le : ∀ f i, nxt N f i ≤ i + f
  | 0, _ => Nat.le_refl _
  | f + 1, i => by
    rw [nxt]
    split
    · have := nxt_le f (i + 1); omega
    · omega

theorem nxt_at : ∀ f i, nxt N f i < i + f → N (nxt N f i) = false
  | 0, i, h => by rw [nxt] at h; omega
  | f + 1, i, h => by
    rw [nxt] at h ⊢
    split
    · next h1 => rw [if_pos h1] at h; exact nxt_at f (i + 1) (by omega)
    · next h1 => simpa using h1

theorem nxt_in : ∀ f i j, i ≤ j → j < nxt N f i → N j = true
  | 0, i, j, h1, h2 => by rw [nxt] at h2; omega
  | f + 1, i, j, h1, h2 => by
    rw [nxt] at h2
    split at h2
    · next h => by_cases e : j = i
                · rw [e]; exact h
                · exact nxt_in f (i + 1) j (by omega) h2
    · omega

/-- Within a run of neutrals both sides are the same. -/
theorem run_bef {i j : Nat} (hij : i ≤ j) (h : ∀ k, i ≤ k → k < j → N k = true) : bef N st sos j = bef N st sos i := by
  induction j with
  | zero => rw [show i = 0 by omega]
  | succ j ih =>
    by_cases e : i = j + 1
    · rw [e]
    · rw [bef_succ_neu (h j (by omega) (by omega))]; exact ih (by omega) (fun k h1 h2 => h k h1 (by omega))

theorem run_beh {i j : Nat} (hij : i ≤ j) (hj : j ≤ n) (h : ∀ k, i ≤ k → k < j → N k = true) : beh N st eos (n - i) i = beh N st eos (n - j) j := by
  induction j with
  | zero => rw [show i = 0 by omega]
  | succ j ih =>
    by_cases e : i = j + 1
    · rw [e]
    · rw [ih (by omega) (by omega) (fun k h1 h2 => h k h1 (by omega)), beh_neu (by omega) (h j (by omega) (by omega))]

theorem nout_not {i : Nat} (h : N i = false) : nout N st sos eos e n c i = c i := by unfold nout; rw [if_neg (by rw [h]; decide)]

/-- The whole run that begins at a place gets one type. -/
theorem nout_run {i j : Nat} (hi : i < n) (h1 : i ≤ j) (h2 : j < nxt N (n - i) i) : nout N st sos eos e n c j = if bef N st sos i = beh N st eos (n - nxt N (n - i) i) (nxt N (n - i) i) then bef N st sos i else e := by
  have hle := nxt_le (N := N) (n - i) i
  have hN := fun k h1 h2 => nxt_in (N := N) (n - i) i k h1 h2
  unfold nout
  rw [if_pos (hN j h1 h2), run_bef h1 (fun k a b => hN k a (by omega)), ← run_beh (i := j) (j := nxt N (n - i) i) (by omega) (by omega) (fun k a b => hN k (by omega) b)]

theorem bef_side (hs : sos = 0 ∨ sos = 1) (hst : ∀ i, i < n → N i = false → st i = 0 ∨ st i = 1) : ∀ i, i ≤ n → bef N st sos i = 0 ∨ bef N st sos i = 1
  | 0, _ => hs
  | i + 1, h => by
    by_cases hN : N i = true
    · rw [bef_succ_neu hN]; exact bef_side hs hst i (by omega)
    · rw [bef_succ_not (by simpa using hN)]; exact hst i (by omega) (by simpa using hN)

/-- A neutral becomes a side. -/
theorem nout_side (hs : sos = 0 ∨ sos = 1) (he : e = 0 ∨ e = 1) (hst : ∀ i, i < n → N i = false → st i = 0 ∨ st i = 1) {i : Nat} (hi : i < n) (h : N i = true) : nout N st sos eos e n c i = 0 ∨ nout N st sos eos e n c i = 1 := by
  unfold nout
  rw [if_pos h]
  split
  · exact bef_side hs hst i (by omega)
  · exact he

theorem bef_congr {N' : Nat → Bool} {st' : Nat → Int} (h1 : ∀ i, i < n → N i = N' i) (h2 : ∀ i, i < n → N i = false → st i = st' i) : ∀ i, i ≤ n → bef N st sos i = bef N' st' sos i
  | 0, _ => rfl
  | i + 1, h => by
    have hN := h1 i (by omega)
    by_cases hc : N i = true
    · rw [bef_succ_neu hc, bef_succ_neu (hN ▸ hc)]; exact bef_congr h1 h2 i (by omega)
    · have hc' : N i = false := by simpa using hc
      rw [bef_succ_not hc', bef_succ_not (hN ▸ hc')]; exact h2 i (by omega) hc'

theorem beh_congr {N' : Nat → Bool} {st' : Nat → Int} (h1 : ∀ i, i < n → N i = N' i) (h2 : ∀ i, i < n → N i = false → st i = st' i) : ∀ f i, i + f = n → beh N st eos f i = beh N' st' eos f i
  | 0, _, _ => rfl
  | f + 1, i, h => by
    have hN := h1 i (by omega)
    rw [beh, beh, ← hN, beh_congr h1 h2 f (i + 1) (by omega)]
    split
    · rfl
    · next hc => exact h2 i (by omega) (by simpa using hc)

theorem nout_congr {N' : Nat → Bool} {st' : Nat → Int} {c' : Nat → Int} (g : Int → Int) (h1 : ∀ i, i < n → N i = N' i) (h2 : ∀ i, i < n → N i = false → st i = st' i) (h3 : ∀ i, i < n → c i = g (c' i)) (hs : sos = 0 ∨ sos = 1) (he : e = 0 ∨ e = 1) (hst : ∀ i, i < n → N i = false → st i = 0 ∨ st i = 1)
    (g0 : g 0 = 0) (g1 : g 1 = 1) {i : Nat} (hi : i < n) : nout N st sos eos e n c i = g (nout N' st' sos eos e n c' i) := by
  have hN := h1 i hi
  by_cases h : N i = true
  · have hsd := nout_side (eos := eos) (c := c) hs he hst hi h
    have heq : nout N st sos eos e n c i = nout N' st' sos eos e n c' i := by
      unfold nout
      rw [bef_congr h1 h2 i (by omega), beh_congr h1 h2 (n - i) i (by omega), ← hN]
      rw [if_pos h, if_pos h]
    rw [← heq]
    rcases hsd with q | q <;> rw [q]
    · exact g0.symm
    · exact g1.symm
  · have h' : N i = false := by simpa using h
    rw [nout_not h', nout_not (hN ▸ h'), h3 i hi]

end Go.Proofs.YtnbhkjalpcoccaaDoor
