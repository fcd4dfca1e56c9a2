/- More on BD9 in plain Lean: isolates are nested; and P2, P3: the first strong character outside of isolates. No program in sight. -/
import Derived.Test.YtjelgbfgciaapaaDoorIso
namespace Go.Proofs.YtjelgbfgciaapaaDoor
variable {ini pdi : Nat → Bool} {n : Nat}

/-- A greater depth is closed later. -/
theorem scan_deeper : ∀ (f q a d : Nat), q + f ≤ n → 1 ≤ a → scan ini pdi n f q a ≤ scan ini pdi n f q (a + d) ∧ (1 ≤ d → scan ini pdi n f q a < n → scan ini pdi n f q a < scan ini pdi n f q (a + d))
  | 0, _, _, _, _, _ => ⟨Nat.le_refl _, fun _ h => absurd h (by rw [scan]; omega)⟩
  | f + 1, q, a, d, h, ha => by
    have ih := fun a => scan_deeper f (q + 1) a d (by omega)
    by_cases h1 : ini q = true
    · rw [scan_ini h1, scan_ini h1, show a + d + 1 = a + 1 + d by omega]; exact ih (a + 1) (by omega)
    · have h1' : ini q = false := by simpa using h1
      by_cases h2 : pdi q = true
      · by_cases h3 : a = 1
        · subst h3
          rw [scan_hit h1' h2]
          by_cases h4 : d = 0
          · subst h4; rw [Nat.add_zero, scan_hit h1' h2]; exact ⟨Nat.le_refl _, fun h => by omega⟩
          · rw [scan_pdi h1' h2 (by omega)]
            have := scan_ge (ini := ini) (pdi := pdi) (n := n) f (q + 1) (1 + d - 1) (by omega)
            exact ⟨by omega, fun _ _ => by omega⟩
        · rw [scan_pdi h1' h2 h3, scan_pdi h1' h2 (by omega), show a + d - 1 = a - 1 + d by omega]; exact ih (a - 1) (by omega)
      · have h2' : pdi q = false := by simpa using h2
        rw [scan_other h1' h2', scan_other h1' h2']; exact ih a ha

/-- The scan of an initiator comes by each place up to its end, at a depth of at least 1. -/
theorem mat_passes {i : Nat} (hi : i < n) : ∀ q, i + 1 ≤ q → q ≤ mat ini pdi n i → ∃ d, 1 ≤ d ∧ mat ini pdi n i = scan ini pdi n (n - q) q d := by
  intro q hq
  induction q with
  | zero => omega
  | succ q ih =>
    intro hle
    by_cases e : q = i
    · subst e; exact ⟨1, Nat.le_refl _, rfl⟩
    · obtain ⟨d, hd, hm⟩ := ih (by omega) (by omega)
      have hle2 := mat_le (ini := ini) (pdi := pdi) hi
      rw [show n - q = n - (q + 1) + 1 by omega] at hm
      by_cases h1 : ini q = true
      · rw [scan_ini h1] at hm; exact ⟨d + 1, by omega, hm⟩
      · have h1' : ini q = false := by simpa using h1
        by_cases h2 : pdi q = true
        · by_cases h3 : d = 1
          · subst h3; rw [scan_hit h1' h2] at hm; omega
          · rw [scan_pdi h1' h2 h3] at hm; exact ⟨d - 1, by omega, hm⟩
        · have h2' : pdi q = false := by simpa using h2
          rw [scan_other h1' h2'] at hm; exact ⟨d, hd, hm⟩

theorem mat_nested {i j : Nat} (hij : i < j) (hj : j < mat ini pdi n i) (hn : j < n) (h : ini j = true) : mat ini pdi n j ≤ mat ini pdi n i ∧ (mat ini pdi n i < n → mat ini pdi n j < mat ini pdi n i) := by
  obtain ⟨d, hd, hm⟩ := mat_passes (ini := ini) (pdi := pdi) (show i < n by omega) j (by omega) (by omega)
  rw [show n - j = n - (j + 1) + 1 by omega, scan_ini h] at hm
  have h2 := scan_deeper (ini := ini) (pdi := pdi) (n := n) (n - (j + 1)) (j + 1) 1 d (by omega) (Nat.le_refl _)
  rw [Nat.add_comm 1 d, ← hm] at h2
  refine ⟨h2.1, fun hlt => h2.2 hd ?_⟩
  have := h2.1
  omega

theorem scan_at : ∀ f j d, j + f ≤ n → scan ini pdi n f j d < n → pdi (scan ini pdi n f j d) = true
  | 0, _, _, _, h => absurd h (by rw [scan]; omega)
  | f + 1, j, d, h, hlt => by
    have ih := fun d => scan_at f (j + 1) d (by omega)
    by_cases h1 : ini j = true
    · rw [scan_ini h1] at hlt ⊢; exact ih _ hlt
    · have h1' : ini j = false := by simpa using h1
      by_cases h2 : pdi j = true
      · by_cases h3 : d = 1
        · subst h3; rw [scan_hit h1' h2]; exact h2
        · rw [scan_pdi h1' h2 h3] at hlt ⊢; exact ih _ hlt
      · have h2' : pdi j = false := by simpa using h2
        rw [scan_other h1' h2'] at hlt ⊢; exact ih _ hlt

theorem mat_pdi {i : Nat} (hi : i < n) (h : mat ini pdi n i < n) : pdi (mat ini pdi n i) = true := scan_at _ _ _ (by omega) h

theorem mat_inj {i j : Nat} (hi : i < n) (hj : j < n) (h1 : ini i = true) (h2 : ini j = true) (he : mat ini pdi n i = mat ini pdi n j) (hlt : mat ini pdi n i < n) : i = j := by
  have key : ∀ {i j : Nat}, i < n → j < n → ini j = true → mat ini pdi n i = mat ini pdi n j → mat ini pdi n i < n → ¬ i < j := by
    intro i j hi hj h2 he hlt hij
    by_cases hb : j < mat ini pdi n i
    · have := (mat_nested hij hb hj h2).2 hlt; omega
    · have := mat_gt (ini := ini) (pdi := pdi) hj; omega
  rcases Nat.lt_trichotomy i j with h | h | h
  · exact absurd h (key hi hj h2 he hlt)
  · exact h
  · exact absurd h (key hj hi h1 he.symm (by omega))

/-- What the list of matching initiators holds. -/
theorem bg_some {k j : Nat} (hk : k ≤ n) (h : 0 ≤ bg ini pdi n k j) : ∃ m, m < k ∧ ini m = true ∧ mat ini pdi n m = j ∧ j < n ∧ bg ini pdi n k j = m := by
  induction k with
  | zero => rw [bg] at h; omega
  | succ k ih =>
    by_cases hc : ini k = true ∧ mat ini pdi n k < n ∧ j = mat ini pdi n k
    · exact ⟨k, by omega, hc.1, hc.2.2.symm, by omega, by rw [bg, if_pos hc]⟩
    · rw [bg, if_neg hc] at h
      obtain ⟨m, h1, h2, h3, h4, h5⟩ := ih (by omega) h
      exact ⟨m, by omega, h2, h3, h4, by rw [bg, if_neg hc]; exact h5⟩

theorem bg_of {m : Nat} (hm : ini m = true) (hlt : mat ini pdi n m < n) (hmn : m < n) : ∀ k, m < k → k ≤ n → bg ini pdi n k (mat ini pdi n m) = m := by
  intro k hk hkn
  induction k with
  | zero => omega
  | succ k ih =>
    by_cases e : k = m
    · subst e; rw [bg, if_pos ⟨hm, hlt, rfl⟩]
    · rw [bg, if_neg, ih (by omega) (by omega)]
      rintro ⟨h1, h2, h3⟩
      exact e (mat_inj (by omega) hmn h1 hm h3.symm h2)

/-- P2 and P3 from a place on, up to another one: 0 at L, 1 at R or AL, d where there is none. The first number bounds the steps. -/
def fsr (sL sR : Nat → Bool) (jmp : Nat → Nat) (d : Int) (to : Nat) : Nat → Nat → Int
  | 0, _ => d
  | f + 1, i => if to ≤ i then d else if sL i = true then 0 else if sR i = true then 1 else fsr sL sR jmp d to f (jmp i)

def jmp (ini pdi : Nat → Bool) (n i : Nat) : Nat := if ini i = true then mat ini pdi n i + 1 else i + 1

section
variable {sL sR : Nat → Bool} {jm : Nat → Nat} {d : Int} {to : Nat}
theorem fsr_end {f i : Nat} (h : to ≤ i) : fsr sL sR jm d to f i = d := by cases f with
  | zero => rfl
  | succ f => rw [fsr, if_pos h]
theorem fsr_L {f i : Nat} (h : i < to) (h1 : sL i = true) : fsr sL sR jm d to (f + 1) i = 0 := by rw [fsr, if_neg (by omega), if_pos h1]
theorem fsr_R {f i : Nat} (h : i < to) (h1 : sL i = false) (h2 : sR i = true) : fsr sL sR jm d to (f + 1) i = 1 := by rw [fsr, if_neg (by omega), if_neg (by rw [h1]; decide), if_pos h2]
theorem fsr_next {f i : Nat} (h : i < to) (h1 : sL i = false) (h2 : sR i = false) : fsr sL sR jm d to (f + 1) i = fsr sL sR jm d to f (jm i) := by rw [fsr, if_neg (by omega), if_neg (by rw [h1]; decide), if_neg (by rw [h2]; decide)]

/-- More fuel than places changes nothing. -/
theorem fsr_fuel (hj : ∀ i, i < jm i) : ∀ f g i, to ≤ i + f → to ≤ i + g → fsr sL sR jm d to f i = fsr sL sR jm d to g i
  | 0, g, i, h, _ => by rw [fsr_end (f := g) (by omega)]; rfl
  | f + 1, 0, i, _, h => by rw [fsr_end (f := f + 1) (by omega)]; rfl
  | f + 1, g + 1, i, h1, h2 => by
    have := hj i
    rw [fsr, fsr, fsr_fuel hj f g (jm i) (by omega) (by omega)]
end

theorem fsr_congr {sL sR sL' sR' : Nat → Bool} {jm jm' : Nat → Nat} {d : Int} {to : Nat} (h1 : ∀ i, i < to → sL i = sL' i) (h2 : ∀ i, i < to → sR i = sR' i) (h3 : ∀ i, i < to → jm i = jm' i) : ∀ f i, fsr sL sR jm d to f i = fsr sL' sR' jm' d to f i
  | 0, _ => rfl
  | f + 1, i => by
    by_cases h : to ≤ i
    · rw [fsr_end h, fsr_end h]
    · rw [fsr, fsr, h1 i (by omega), h2 i (by omega), h3 i (by omega), fsr_congr h1 h2 h3 f]

end Go.Proofs.YtjelgbfgciaapaaDoor
