/- N0 in plain Lean: the brackets of a pair, and the marks behind them, get one type. No program in sight. -/
import Derived.Test.YtmaieenphcnefaaDoorPr2
import Derived.Test.YtmaieenphcnefaaDoorCls
namespace Go.Proofs.YtmaieenphcnefaaDoor
set_option linter.unusedVariables false
set_option linter.unusedSimpArgs false

/-- Is there a place between two places where g is v? -/
def hasS (g : Nat → Int) (o cl : Nat) (v : Int) : Bool := decide (∃ i, i < cl ∧ o < i ∧ g i = v)

/-- The last strong value ahead of a place, s if there is none. -/
def bfr (g : Nat → Int) (s : Int) : Nat → Int
  | 0 => s
  | k + 1 => if g k ≠ 10 then g k else bfr g s k

/-- Is a place a bracket of the pair, or a mark behind one? -/
def mkB (m : Nat → Bool) (o cl i : Nat) : Bool := decide (i = o ∨ i = cl ∨ (o < i ∧ i < cl ∧ ∀ k, k < i + 1 → o < k → m k = true) ∨ (cl < i ∧ ∀ k, k < i + 1 → cl < k → m k = true))

def setB (m : Nat → Bool) (o cl : Nat) (v : Int) (c : Nat → Int) (i : Nat) : Int := if mkB m o cl i = true then v else c i

/-- N0 for one pair: g the strong value of a type (0, 1, and 10 for none), e the embedding direction. -/
def n0 (g : Int → Int) (m : Nat → Bool) (sos e : Int) (c : Nat → Int) (p : Nat × Nat) : Nat → Int :=
  if hasS (fun i => g (c i)) p.1 p.2 e = true then setB m p.1 p.2 e c
  else if hasS (fun i => g (c i)) p.1 p.2 (1 - e) = true then setB m p.1 p.2 (bfr (fun i => g (c i)) sos p.1) c
  else c

def n0s (g : Int → Int) (m : Nat → Bool) (sos e : Int) (c : Nat → Int) (l : List (Nat × Nat)) : Nat → Int := l.foldl (n0 g m sos e) c

/-- The strong value of a class, of a number. -/
def gs (v : Int) : Int := if v = 2 ∨ v = 5 ∨ v = 13 ∨ v = 1 then 1 else if v = 0 then 0 else 10

theorem gs_cases (v : Int) : gs v = 0 ∨ gs v = 1 ∨ gs v = 10 := by
  unfold gs
  split
  · exact .inr (.inl rfl)
  · split
    · exact .inl rfl
    · exact .inr (.inr rfl)

theorem bfr_side {g : Nat → Int} {s : Int} (hs : s = 0 ∨ s = 1) (hg : ∀ i, g i = 0 ∨ g i = 1 ∨ g i = 10) : ∀ k, bfr g s k = 0 ∨ bfr g s k = 1
  | 0 => hs
  | k + 1 => by
    show (if g k ≠ 10 then g k else bfr g s k) = 0 ∨ (if g k ≠ 10 then g k else bfr g s k) = 1
    have := hg k
    by_cases h : g k ≠ 10
    · rw [if_pos h]; omega
    · rw [if_neg h]; exact bfr_side hs hg k

theorem hasS_of {g : Nat → Int} {o cl i : Nat} {v : Int} (h1 : i < cl) (h2 : o < i) (h3 : g i = v) : hasS g o cl v = true := decide_eq_true ⟨i, h1, h2, h3⟩
theorem hasS_no {g : Nat → Int} {o cl : Nat} {v : Int} (h : ∀ i, o < i → i < cl → g i ≠ v) : hasS g o cl v = false := decide_eq_false (fun ⟨i, h1, h2, h3⟩ => h i h2 h1 h3)

theorem mkB_o {m : Nat → Bool} {o cl : Nat} : mkB m o cl o = true := decide_eq_true (.inl rfl)
theorem mkB_c {m : Nat → Bool} {o cl : Nat} : mkB m o cl cl = true := decide_eq_true (.inr (.inl rfl))

/-- Marks behind the opener up to k, those behind the closer up to l. -/
def prB (o cl k l i : Nat) : Bool := decide (i = o ∨ i = cl ∨ (o < i ∧ i < k) ∨ (cl < i ∧ i < l))

theorem prB_mk {m : Nat → Bool} {o cl k l n i : Nat} (hi : i < n) (hko : o < k) (hkc : k ≤ cl) (hm1 : ∀ i, o < i → i < k → m i = true) (he1 : k = cl ∨ m k = false) (hlc : cl < l) (hm2 : ∀ i, cl < i → i < l → m i = true) (he2 : l = n ∨ m l = false) :
    prB o cl k l i = mkB m o cl i := by
  unfold prB mkB
  rw [Bool.eq_iff_iff, decide_eq_true_iff, decide_eq_true_iff]
  constructor
  · rintro (h | h | ⟨h1, h2⟩ | ⟨h1, h2⟩)
    · exact .inl h
    · exact .inr (.inl h)
    · exact .inr (.inr (.inl ⟨h1, by omega, fun j hj hj2 => hm1 j hj2 (by omega)⟩))
    · exact .inr (.inr (.inr ⟨h1, fun j hj hj2 => hm2 j hj2 (by omega)⟩))
  · rintro (h | h | ⟨h1, h2, h3⟩ | ⟨h1, h2⟩)
    · exact .inl h
    · exact .inr (.inl h)
    · refine .inr (.inr (.inl ⟨h1, ?_⟩))
      rcases he1 with e | e
      · omega
      · apply Classical.byContradiction
        intro hc
        have := h3 k (by omega) hko
        rw [e] at this; cases this
    · refine .inr (.inr (.inr ⟨h1, ?_⟩))
      rcases he2 with e | e
      · omega
      · apply Classical.byContradiction
        intro hc
        have := h2 l (by omega) hlc
        rw [e] at this; cases this

theorem prB_start {o cl i : Nat} : prB o cl (o + 1) (cl + 1) i = decide (i = o ∨ i = cl) := by
  unfold prB
  rw [Bool.eq_iff_iff, decide_eq_true_iff, decide_eq_true_iff]
  omega

theorem prB_k {o cl k l i : Nat} (h1 : o < k) (h2 : i ≠ k) : prB o cl (k + 1) l i = prB o cl k l i := by
  unfold prB
  rw [Bool.eq_iff_iff, decide_eq_true_iff, decide_eq_true_iff]
  omega
theorem prB_kk {o cl k l : Nat} (h1 : o < k) : prB o cl (k + 1) l k = true := by
  unfold prB
  rw [decide_eq_true_iff]; omega
theorem prB_l {o cl k l i : Nat} (h1 : cl < l) (h2 : i ≠ l) : prB o cl k (l + 1) i = prB o cl k l i := by
  unfold prB
  rw [Bool.eq_iff_iff, decide_eq_true_iff, decide_eq_true_iff]
  omega
theorem prB_ll {o cl k l : Nat} (h1 : cl < l) : prB o cl k (l + 1) l = true := by
  unfold prB
  rw [decide_eq_true_iff]; omega
end Go.Proofs.YtmaieenphcnefaaDoor
