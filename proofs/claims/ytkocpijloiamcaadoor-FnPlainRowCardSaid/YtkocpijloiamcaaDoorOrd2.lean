/- More on rule L2 in plain Lean: what FnReorderPlaces, FnReorderNeighbours, FnReorderOneLevel, FnReorderRaised and FnReorderCut say. No program in sight. -/
import Derived.Test.YtkocpijloiamcaaDoorOrd
namespace Go.Proofs.YtkocpijloiamcaaDoor.Ord
variable {lv : Nat → Int} {n : Nat} {L : Int}

/-- The other way round: where a place comes to stand. -/
def V (lv : Nat → Int) (n : Nat) : Nat → Nat → Nat
  | 0, p => p
  | m + 1, p => V lv n m (rho lv n ((m + 1 : Nat) : Int) p)

theorem V_U (m p : Nat) : V lv n m (U lv n m p) = p := by
  induction m with
  | zero => rfl
  | succ m ih =>
    show V lv n m (rho lv n _ (rho lv n _ (U lv n m p))) = p
    rw [rho_rho, ih]

theorem U_V (m p : Nat) : U lv n m (V lv n m p) = p := by
  induction m generalizing p with
  | zero => rfl
  | succ m ih =>
    show rho lv n _ (U lv n m (V lv n m (rho lv n _ p))) = p
    rw [ih, rho_rho]

theorem V_lt {m p : Nat} (hp : p < n) : V lv n m p < n := by
  induction m generalizing p with
  | zero => exact hp
  | succ m ih => exact ih (rho_lt hp)

theorem V_above {l m p : Nat} (hl : lv p = (l : Int)) (hm : l ≤ m) : V lv n m p = V lv n l p := by
  induction m with
  | zero => have : l = 0 := by omega
            subst this; rfl
  | succ m ih =>
    by_cases e : l = m + 1
    · subst e; rfl
    · show V lv n m (rho lv n _ p) = _
      rw [rho_low (by omega)]
      exact ih (by omega)

/-- Neighbours at level m or above stay neighbours, and change sides m times. -/
theorem V_near (m : Nat) : ∀ p q : Nat, (q = p + 1 ∨ p = q + 1) → p < n → q < n → (m : Int) ≤ lv p → (m : Int) ≤ lv q →
    (m % 2 = 0 → (V lv n m q : Int) - V lv n m p = (q : Int) - p) ∧ (m % 2 = 1 → (V lv n m q : Int) - V lv n m p = (p : Int) - q) := by
  induction m with
  | zero => intro p q _ _ _ _ _; exact ⟨fun _ => rfl, fun h => by omega⟩
  | succ m ih =>
    intro p q hpq hp hq h1 h2
    obtain ⟨s, t, hr, a, b⟩ := run_of (L := ((m + 1 : Nat) : Int)) hp h1
    have hq' : s ≤ q ∧ q < t := by
      rcases hpq with e | e
      · refine ⟨by omega, ?_⟩
        rcases Nat.lt_or_ge q t with h | h
        · exact h
        · have e2 : t = q := by omega
          rcases hr.2.2.2.2 with h3 | h3
          · omega
          · rw [e2] at h3; omega
      · refine ⟨?_, by omega⟩
        rcases Nat.lt_or_ge q s with h | h
        · have e2 : s - 1 = q := by omega
          rcases hr.2.2.2.1 with h3 | h3
          · omega
          · rw [e2] at h3; omega
        · exact h
    have e1 := rho_run hr a b
    have e2 := rho_run hr hq'.1 hq'.2
    have k1 := (rho_keeps (lv := lv) (n := n) (L := ((m + 1 : Nat) : Int)) (Int.le_refl _) p).2 h1
    have k2 := (rho_keeps (lv := lv) (n := n) (L := ((m + 1 : Nat) : Int)) (Int.le_refl _) q).2 h2
    have i1 := ih (rho lv n ((m + 1 : Nat) : Int) p) (rho lv n ((m + 1 : Nat) : Int) q) (by rw [e1, e2]; omega) (rho_lt hp) (rho_lt hq) (by omega) (by omega)
    show ((m + 1) % 2 = 0 → (V lv n m (rho lv n _ q) : Int) - V lv n m (rho lv n _ p) = _) ∧ ((m + 1) % 2 = 1 → (V lv n m (rho lv n _ q) : Int) - V lv n m (rho lv n _ p) = _)
    have e3 : ((rho lv n ((m + 1 : Nat) : Int) q : Nat) : Int) - (rho lv n ((m + 1 : Nat) : Int) p : Nat) = (p : Int) - q := by rw [e1, e2]; omega
    constructor
    · intro hm; rw [i1.2 (by omega)]; omega
    · intro hm; rw [i1.1 (by omega)]; omega

theorem V_side {i : Nat} {m : Nat} (h0 : 1 ≤ i) (h1 : i < n) (he : lv i = lv (i - 1)) (hl0 : 0 ≤ lv i) (hl1 : lv i ≤ (m : Int)) :
    (lv i % 2 = 0 → V lv n m i = V lv n m (i - 1) + 1) ∧ (lv i % 2 = 1 → V lv n m i + 1 = V lv n m (i - 1)) := by
  obtain ⟨l, hl⟩ := Int.eq_ofNat_of_zero_le hl0
  rw [V_above hl (by omega), V_above (he.symm.trans hl) (by omega)]
  have h := V_near (lv := lv) (n := n) l (i - 1) i (by omega) (by omega) h1 (by omega) (by omega)
  constructor
  · intro hm; have := h.1 (by omega); omega
  · intro hm; have := h.2 (by omega); omega

/-- A line on one level. -/
theorem U_flat {l : Nat} (hc : ∀ i, i < n → lv i = (l : Int)) {m : Nat} (hm : m ≤ l) {p : Nat} (hp : p < n) : U lv n m p = if m % 2 = 0 then p else n - 1 - p := by
  induction m with
  | zero => rfl
  | succ m ih =>
    show rho lv n _ (U lv n m p) = _
    have hr : Run lv n ((m + 1 : Nat) : Int) 0 n := ⟨by omega, Nat.le_refl _, fun j _ hj => by rw [hc j hj]; omega, .inl rfl, .inl rfl⟩
    rw [rho_run hr (Nat.zero_le _) (U_lt hp), ih (by omega)]
    by_cases h : m % 2 = 0
    · rw [if_pos h, if_neg (by omega)]; omega
    · rw [if_neg h, if_pos (by omega)]; omega

/-- The order of a line on one level. -/
def flat (l n p : Nat) : Nat := if l % 2 = 0 then p else n - 1 - p

theorem flat_even {l : Nat} (h : l % 2 = 0) (n p : Nat) : flat l n p = p := if_pos h
theorem flat_odd {l : Nat} (h : l % 2 = 1) (n p : Nat) : flat l n p = n - 1 - p := if_neg (by omega)

theorem U_one {l : Nat} (hc : ∀ i, i < n → lv i = (l : Int)) (hl : l ≤ 126) {p : Nat} (hp : p < n) : U lv n 126 p = flat l n p := by
  rw [flat, U_above (H := l) (fun i hi => by rw [hc i hi]; exact Int.le_refl _) hl hp, U_flat hc (Nat.le_refl _) hp]

/-- Levels greater by 1. -/
theorem U_raise (h0 : ∀ i, i < n → 0 ≤ lv i) (m : Nat) {p : Nat} (hp : p < n) : U (fun i => lv i + 1) n (m + 1) p = U lv n m (n - 1 - p) := by
  induction m with
  | zero =>
    have hr : Run (fun i => lv i + 1) n ((0 + 1 : Nat) : Int) 0 n := ⟨by omega, Nat.le_refl _, fun j _ hj => by have := h0 j hj; show _ ≤ lv j + 1; omega, .inl rfl, .inl rfl⟩
    show rho _ n _ p = n - 1 - p
    rw [rho_run hr (Nat.zero_le _) hp]; omega
  | succ m ih =>
    show rho _ n ((m + 1 + 1 : Nat) : Int) (U _ n (m + 1) p) = rho lv n ((m + 1 : Nat) : Int) (U lv n m (n - 1 - p))
    rw [ih]
    exact rho_congr (fun i _ => by show ((m + 1 + 1 : Nat) : Int) ≤ lv i + 1 ↔ _; omega) _

theorem U_raise1 (h0 : ∀ i, i < n → 0 ≤ lv i) (h1 : ∀ i, i < n → lv i ≤ 125) {p : Nat} (hp : p < n) : U (fun i => lv i + 1) n 126 p = U lv n 126 (n - 1 - p) := by
  rw [U_raise h0 125 hp, U_above (H := 125) (m := 126) h1 (by omega) (by omega)]

theorem U_raise2 (h0 : ∀ i, i < n → 0 ≤ lv i) (h1 : ∀ i, i < n → lv i ≤ 124) {p : Nat} (hp : p < n) : U (fun i => lv i + 2) n 126 p = U lv n 126 p := by
  have e : U (fun i => lv i + 2) n 126 p = U (fun i => (fun i => lv i + 1) i + 1) n 126 p := U_congr (fun i _ => by show lv i + 2 = lv i + 1 + 1; omega) _ _
  rw [e, U_raise (lv := fun i => lv i + 1) (fun i hi => by have := h0 i hi; show 0 ≤ lv i + 1; omega) 125 hp, U_raise h0 124 (by omega), U_above (H := 124) (m := 126) h1 (by omega) hp]
  congr 1; omega

/-- A line that is cut ahead of place a, where the place ahead is below the level. -/
theorem rho_left {lv1 : Nat → Int} {a : Nat} (ha : 0 < a) (han : a ≤ n) (h : ∀ i, i < a → lv i = lv1 i) (hb : lv1 (a - 1) < L) {p : Nat} (hp : p < a) : rho lv n L p = rho lv1 a L p := by
  by_cases hL : L ≤ lv1 p
  · obtain ⟨s, t, hr, x, y⟩ := run_of hp hL
    obtain ⟨r1, r2, r3, r4, r5⟩ := id hr
    have hta : t < a := by
      rcases Nat.lt_or_ge t a with h1 | h1
      · exact h1
      · have := r3 (a - 1) (by omega) (by omega); omega
    have hr' : Run lv n L s t := by
      refine ⟨r1, by omega, fun j c d => by rw [h j (by omega)]; exact r3 j c d, ?_, ?_⟩
      · rcases r4 with r4 | r4
        · exact .inl r4
        · right; rw [h (s - 1) (by omega)]; exact r4
      · rcases r5 with r5 | r5
        · omega
        · right; rw [h t hta]; exact r5
    rw [rho_run hr x y, rho_run hr' x y]
  · rw [rho_low (lv := lv1) (by omega), rho_low (by rw [h p hp]; omega)]

theorem rho_right {lv2 : Nat → Int} {a b : Nat} (hn : n = a + b) (h : ∀ i, i < b → lv (a + i) = lv2 i) (hb : lv2 0 < L) {p : Nat} (hp : p < b) : rho lv n L (a + p) = a + rho lv2 b L p := by
  by_cases hL : L ≤ lv2 p
  · obtain ⟨s, t, hr, x, y⟩ := run_of hp hL
    obtain ⟨r1, r2, r3, r4, r5⟩ := id hr
    have hs0 : 0 < s := by
      rcases Nat.lt_or_ge 0 s with h1 | h1
      · exact h1
      · have := r3 0 (by omega) (by omega); omega
    have hr' : Run lv n L (a + s) (a + t) := by
      refine ⟨by omega, by omega, fun j c d => ?_, ?_, ?_⟩
      · have e : j = a + (j - a) := by omega
        rw [e, h (j - a) (by omega)]; exact r3 _ (by omega) (by omega)
      · rcases r4 with r4 | r4
        · omega
        · right
          have e : a + s - 1 = a + (s - 1) := by omega
          rw [e, h (s - 1) (by omega)]; exact r4
      · by_cases e : t = b
        · left; omega
        · rcases r5 with r5 | r5
          · exact absurd r5 e
          · right; rw [h t (by omega)]; exact r5
    rw [rho_run hr x y, rho_run hr' (by omega) (by omega)]; omega
  · rw [rho_low (lv := lv2) (by omega), rho_low (by rw [h p hp]; omega)]

theorem U_left {lv1 : Nat → Int} {a : Nat} (ha : 0 < a) (han : a ≤ n) (h : ∀ i, i < a → lv i = lv1 i) (hb : lv1 (a - 1) ≤ 0) (m : Nat) {p : Nat} (hp : p < a) : U lv n m p = U lv1 a m p := by
  induction m with
  | zero => rfl
  | succ m ih =>
    show rho lv n _ (U lv n m p) = rho lv1 a _ (U lv1 a m p)
    rw [ih, rho_left ha han h (by omega) (U_lt hp)]

theorem U_right {lv2 : Nat → Int} {a b : Nat} (hn : n = a + b) (h : ∀ i, i < b → lv (a + i) = lv2 i) (hb : lv2 0 ≤ 0) (m : Nat) {p : Nat} (hp : p < b) : U lv n m (a + p) = a + U lv2 b m p := by
  induction m with
  | zero => rfl
  | succ m ih =>
    show rho lv n _ (U lv n m (a + p)) = a + rho lv2 b _ (U lv2 b m p)
    rw [ih, rho_right hn h (by omega) (U_lt hp)]

end Go.Proofs.YtkocpijloiamcaaDoor.Ord
namespace Go.Proofs.YtkocpijloiamcaaDoor

/-- Is place j among the first k of the order? -/
def seenB (x : Nat → Int) (n k j : Nat) : Bool := decide (∃ i, i < k ∧ Ord.U x n 126 i = j)

theorem seenB_zero (x : Nat → Int) (n j : Nat) : seenB x n 0 j = false := by
  unfold seenB; rw [decide_eq_false_iff_not]; rintro ⟨i, hi, _⟩; omega

theorem seenB_new (x : Nat → Int) (n k : Nat) : seenB x n k (Ord.U x n 126 k) = false := by
  unfold seenB; rw [decide_eq_false_iff_not]; rintro ⟨i, hi, h⟩
  have := Ord.U_inj h; omega

theorem seenB_succ (x : Nat → Int) (n k j : Nat) : seenB x n (k + 1) j = (if j = Ord.U x n 126 k then true else seenB x n k j) := by
  unfold seenB
  split
  · rename_i h; subst h; rw [decide_eq_true_eq]; exact ⟨k, by omega, rfl⟩
  · rename_i h
    rw [decide_eq_decide]
    constructor
    · rintro ⟨i, hi, e⟩
      refine ⟨i, ?_, e⟩
      rcases Nat.lt_succ_iff_lt_or_eq.1 hi with h1 | h1
      · exact h1
      · subst h1; exact absurd e.symm h
    · rintro ⟨i, hi, e⟩
      exact ⟨i, by omega, e⟩

end Go.Proofs.YtkocpijloiamcaaDoor
