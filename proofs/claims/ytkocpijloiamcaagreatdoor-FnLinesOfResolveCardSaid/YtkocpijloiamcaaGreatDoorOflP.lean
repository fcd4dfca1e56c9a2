/- FnLinesOfResolve in plain Lean: the levels of lines by L1 as they are said, and as the package has them. No program in sight. -/
import Derived.Test.YtkocpijloiamcaaGreatDoorGetL
import Derived.Test.YtkocpijloiamcaaGreatDoorLns
namespace Go.Proofs.YtkocpijloiamcaaGreatDoor
set_option linter.unusedVariables false

def sepS (v : Int) : Bool := decide (v = 7 ∨ v = 8)
def spcS (v : Int) : Bool := decide (v = 9 ∨ v = 19 ∨ v = 20 ∨ v = 21 ∨ v = 22)
/-- What is told of the end of a line behind its last d characters. -/
def En (x : Nat → Int) (tt : Nat) : Nat → Bool
  | 0 => true
  | d + 1 => sepS (x (tt - (d + 1))) || ((spcS (x (tt - (d + 1))) || remN (x (tt - (d + 1)))) && En x tt d)
/-- The level of a character of the line that ends at a place. -/
def olv (x lv : Nat → Int) (base : Int) (tt i : Nat) : Int := if (sepS (x i) || (spcS (x i) && En x tt (tt - (i + 1)))) = true then base else lv i
/-- A line while it is gone through from its end. -/
def olD (x lv : Nat → Int) (base : Int) (tt d i : Nat) : Int := if tt - d ≤ i then olv x lv base tt i else lv i
/-- The first k lines. -/
def llv (x lv : Nat → Int) (base : Int) (br : Nat → Nat) : Nat → Nat → Int
  | 0, _ => 0
  | k + 1, i => if st br k ≤ i ∧ i < br k then olv x lv base (br k) i else llv x lv base br k i

section
variable {x lv fl : Nat → Int} {base : Int} {br : Nat → Nat} {N nb tt : Nat}

theorem olD_zero {i : Nat} (h : i < tt) : olD x lv base tt 0 i = lv i := if_neg (by omega)
theorem olD_end {i : Nat} {from_ : Nat} (h : from_ ≤ i) (hft : from_ ≤ tt) : olD x lv base tt (tt - from_) i = olv x lv base tt i := if_pos (by omega)
theorem olD_step {d : Nat} (hd : d < tt) (i : Nat) : olD x lv base tt (d + 1) i = if i = tt - (d + 1) then (if (sepS (x (tt - (d + 1))) || (spcS (x (tt - (d + 1))) && En x tt d)) = true then base else lv (tt - (d + 1))) else olD x lv base tt d i := by
  unfold olD
  by_cases e : i = tt - (d + 1)
  · rw [if_pos e, if_pos (by omega), e]
    unfold olv
    rw [show tt - (tt - (d + 1) + 1) = d by omega]
  · rw [if_neg e]
    by_cases h : tt - d ≤ i
    · rw [if_pos h, if_pos (by omega)]
    · rw [if_neg h, if_neg (by omega)]

theorem olD_r {r : Nat} (h : r < tt) (i : Nat) : olD x lv base tt (tt - r) i = if i = r then (if (sepS (x r) || (spcS (x r) && En x tt (tt - (r + 1)))) = true then base else lv r) else olD x lv base tt (tt - (r + 1)) i := by
  have := olD_step (x := x) (lv := lv) (base := base) (tt := tt) (d := tt - (r + 1)) (by omega) i
  rw [show tt - (r + 1) + 1 = tt - r by omega, show tt - (tt - r) = r by omega] at this
  exact this
theorem olD_keep {r : Nat} (h : r < tt) (hq : (sepS (x r) || (spcS (x r) && En x tt (tt - (r + 1)))) = false) (i : Nat) : olD x lv base tt (tt - r) i = olD x lv base tt (tt - (r + 1)) i := by
  rw [olD_r h]
  by_cases e : i = r
  · rw [if_pos e, hq, if_neg (by decide), e]
    unfold olD
    rw [if_neg (by omega)]
  · rw [if_neg e]
theorem olD_set {r : Nat} (h : r < tt) (hq : (sepS (x r) || (spcS (x r) && En x tt (tt - (r + 1)))) = true) (i : Nat) : olD x lv base tt (tt - r) i = if i = r then base else olD x lv base tt (tt - (r + 1)) i := by
  rw [olD_r h, hq, if_pos rfl]
theorem En_r {r : Nat} (h : r < tt) : En x tt (tt - r) = (sepS (x r) || ((spcS (x r) || remN (x r)) && En x tt (tt - (r + 1)))) := by
  rw [show tt - r = tt - (r + 1) + 1 by omega, En, show tt - (tt - (r + 1) + 1) = r by omega]

theorem wsX_iff {t : Nat} (h : clsOk (x t)) : wsX x t = true ↔ (spcS (x t) = true ∨ remN (x t) = true) := by
  unfold clsOk at h
  unfold wsX
  obtain ⟨k, hk⟩ := Int.eq_ofNat_of_zero_le h.1
  rw [hk]
  have hk2 : k < 23 := by omega
  have key : ∀ j : Fin 23, memB wsL (cls (j.val : Int)) = true ↔ (spcS (j.val : Int) = true ∨ remN (j.val : Int) = true) := by decide
  exact key ⟨k, hk2⟩
theorem sepX_eq {t : Nat} (h : clsOk (x t)) : sepX x t = sepS (x t) := by
  unfold clsOk at h
  unfold sepX
  obtain ⟨k, hk⟩ := Int.eq_ofNat_of_zero_le h.1
  rw [hk]
  have hk2 : k < 23 := by omega
  have key : ∀ j : Fin 23, memB [7, 8] (cls (j.val : Int)) = sepS (j.val : Int) := by decide
  exact key ⟨k, hk2⟩

theorem En_iff (hok : ∀ i, i < tt → clsOk (x i)) : ∀ d, d ≤ tt → (En x tt d = true ↔ ∃ m, tt - d ≤ m ∧ m ≤ tt ∧ (m = tt ∨ (m < tt ∧ sepS (x m) = true)) ∧ ∀ t, tt - d ≤ t → t < m → wsX x t = true)
  | 0, _ => ⟨fun _ => ⟨tt, by omega, Nat.le_refl _, .inl rfl, fun t h1 h2 => by omega⟩, fun _ => rfl⟩
  | d + 1, hd => by
    have ih := En_iff hok d (by omega)
    obtain ⟨i, hi⟩ : ∃ i, i = tt - (d + 1) := ⟨_, rfl⟩
    have hii : tt - d = i + 1 := by omega
    have hit : i < tt := by omega
    have hw := wsX_iff (hok i hit)
    rw [hii] at ih
    rw [En, ← hi, Bool.or_eq_true, Bool.and_eq_true, Bool.or_eq_true, ih, ← hw]
    constructor
    · rintro (h | ⟨h1, m, h2, h3, h4, h5⟩)
      · exact ⟨i, Nat.le_refl _, by omega, .inr ⟨hit, h⟩, fun t a b => by omega⟩
      · refine ⟨m, by omega, h3, h4, fun t a b => ?_⟩
        by_cases e : t = i
        · rw [e]; exact h1
        · exact h5 t (by omega) b
    · rintro ⟨m, h1, h2, h3, h4⟩
      by_cases e : m = i
      · subst e
        rcases h3 with h3 | h3
        · omega
        · exact .inl h3.2
      · exact .inr ⟨h4 i (Nat.le_refl _) (by omega), m, by omega, h2, h3, fun t a b => h4 t (by omega) b⟩

theorem Brk.line (h : Brk br nb N) {i : Nat} (hi : i < N) : ∃ l, l < nb ∧ st br l ≤ i ∧ i < br l := by
  have key : ∀ k, k ≤ nb → i < st br k → ∃ l, l < k ∧ st br l ≤ i ∧ i < br l := by
    intro k
    induction k with
    | zero => intro _ h2; rw [st_zero] at h2; omega
    | succ k ih =>
      intro h1 h2
      rw [st_succ] at h2
      by_cases q : i < st br k
      · obtain ⟨l, a, b⟩ := ih (by omega) q
        exact ⟨l, by omega, b⟩
      · exact ⟨k, by omega, by omega, h2⟩
  exact key nb (Nat.le_refl _) (by rw [h.st_end]; exact hi)

theorem Brk.mono (h : Brk br nb N) : ∀ k l, l < k → k ≤ nb → br l ≤ st br k
  | 0, l, h1, _ => by omega
  | k + 1, l, h1, h2 => by
    rw [st_succ]
    by_cases e : l = k
    · rw [e]; exact Nat.le_refl _
    · have a := Brk.mono h k l (by omega) (by omega)
      have b := h.asc k (by omega)
      omega

theorem Brk.one (h : Brk br nb N) {i l m : Nat} (hl : l < nb) (hm : m < nb) (h1 : st br l ≤ i ∧ i < br l) (h2 : st br m ≤ i ∧ i < br m) : l = m := by
  rcases Nat.lt_trichotomy l m with q | q | q
  · have := h.mono m l q (by omega); omega
  · exact q
  · have := h.mono l m q (by omega); omega

theorem llv_line (h : Brk br nb N) {i l : Nat} (hl : l < nb) (h1 : st br l ≤ i ∧ i < br l) : ∀ k, l < k → k ≤ nb → llv x lv base br k i = olv x lv base (br l) i
  | 0, a, _ => by omega
  | k + 1, a, b => by
    rw [llv]
    by_cases e : l = k
    · rw [if_pos (by rw [← e]; exact h1), e]
    · rw [if_neg (fun q => e (h.one hl (by omega) h1 q)), llv_line h hl h1 k (by omega) (by omega)]

/-- L1 as it is said is L1 as the package has it, where a character is not removed. -/
theorem line_levels (hok : ∀ i, i < N → clsOk (x i)) (h : Brk br nb N) {i : Nat} (hi : i < N) (hr : remN (x i) = false) (hlv : lv i = fl i) : llv x lv base br nb i = g2 x fl base br N nb i := by
  obtain ⟨l, hl, h1, h2⟩ := h.line hi
  have hle := h.le l hl
  rw [llv_line h hl ⟨h1, h2⟩ nb hl (Nat.le_refl _)]
  obtain ⟨tt, hto⟩ : ∃ tt, tt = br l := ⟨_, rfl⟩
  rw [← hto] at h2 hle
  rw [← hto]
  have hE := En_iff (x := x) (tt := tt) (fun i hi => hok i (by omega)) (tt - i) (by omega)
  rw [show tt - (tt - i) = i by omega] at hE
  have hEd : En x tt (tt - i) = (sepS (x i) || (spcS (x i) && En x tt (tt - (i + 1)))) := by
    rw [show tt - i = tt - (i + 1) + 1 by omega, En, show tt - (tt - (i + 1) + 1) = i by omega, hr, Bool.or_false]
  have key : (sepS (x i) || (spcS (x i) && En x tt (tt - (i + 1)))) = true ↔ (e2 x br nb i = true ∨ e1 x N i = true) := by
    rw [← hEd, hE]
    unfold e1 e2
    rw [decide_eq_true_iff, decide_eq_true_iff]
    constructor
    · rintro ⟨m, a1, a2, a3, a4⟩
      rcases a3 with a3 | ⟨a3, a5⟩
      · exact .inl ⟨l, hl, h1, by omega, fun t b1 b2 => a4 t b2 (by omega)⟩
      · exact .inr ⟨m, by omega, by rw [sepX_eq (hok m (by omega))]; exact a5, a1, fun t b1 b2 => a4 t b2 b1⟩
    · rintro (⟨m, a1, a2, a3, a4⟩ | ⟨m, a1, a2, a3, a4⟩)
      · obtain rfl := h.one hl a1 ⟨h1, by omega⟩ ⟨a2, a3⟩
        exact ⟨tt, by omega, Nat.le_refl _, .inl rfl, fun t b1 b2 => a4 t (by omega) b1⟩
      · by_cases q : m < tt
        · exact ⟨m, a3, by omega, .inr ⟨q, by rw [← sepX_eq (hok m (by omega))]; exact a2⟩, fun t b1 b2 => a4 t b2 b1⟩
        · exact ⟨tt, by omega, Nat.le_refl _, .inl rfl, fun t b1 b2 => a4 t (by omega) b1⟩
  unfold olv g2 g1
  by_cases q : (sepS (x i) || (spcS (x i) && En x tt (tt - (i + 1)))) = true
  · rw [if_pos q]
    rcases key.1 q with q2 | q2
    · rw [if_pos q2]
    · by_cases q3 : e2 x br nb i = true
      · rw [if_pos q3]
      · rw [if_neg q3, if_pos q2]
  · rw [if_neg q, if_neg (fun z => q (key.2 (.inl z))), if_neg (fun z => q (key.2 (.inr z)))]
    exact hlv
end

/-- The levels while those of removed characters are struck out. -/
def rlv (x fl : Nat → Int) (k i : Nat) : Int := if i < k ∧ remN (x i) = true then -1 else fl i
section
variable {x fl : Nat → Int} {k i : Nat}
theorem rlv_zero : rlv x fl 0 i = fl i := if_neg (fun h => absurd h.1 (Nat.not_lt_zero _))
theorem rlv_keep (h : remN (x k) = false) (i : Nat) : rlv x fl (k + 1) i = rlv x fl k i := by
  unfold rlv
  by_cases q : i < k ∧ remN (x i) = true
  · rw [if_pos q, if_pos ⟨by omega, q.2⟩]
  · rw [if_neg q, if_neg]
    rintro ⟨a, b⟩
    by_cases e : i = k
    · subst e; rw [h] at b; cases b
    · exact q ⟨by omega, b⟩
theorem rlv_set (h : remN (x k) = true) (i : Nat) : rlv x fl (k + 1) i = if i = k then -1 else rlv x fl k i := by
  unfold rlv
  by_cases e : i = k
  · subst e; rw [if_pos rfl, if_pos ⟨by omega, h⟩]
  · rw [if_neg e]
    by_cases q : i < k ∧ remN (x i) = true
    · rw [if_pos q, if_pos ⟨by omega, q.2⟩]
    · rw [if_neg q, if_neg (fun z => q ⟨by omega, z.2⟩)]
theorem rlv_of (hi : i < k) (h : rlv x fl k i ≠ -1) : remN (x i) = false ∧ rlv x fl k i = fl i := by
  unfold rlv at *
  by_cases q : remN (x i) = true
  · rw [if_pos ⟨hi, q⟩] at h; exact absurd rfl h
  · exact ⟨by simpa using q, if_neg (fun z => q z.2)⟩
end
end Go.Proofs.YtkocpijloiamcaaGreatDoor
