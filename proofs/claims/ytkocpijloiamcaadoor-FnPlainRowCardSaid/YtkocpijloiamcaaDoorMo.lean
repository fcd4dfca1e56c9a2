/- The order of several lines in plain Lean. No program in sight. -/
import Derived.Test.YtkocpijloiamcaaDoorOrd
namespace Go.Proofs.YtkocpijloiamcaaDoor

/-- Where line k begins. -/
def st (br : Nat → Nat) (k : Nat) : Nat := if k = 0 then 0 else br (k - 1)

theorem st_zero (br : Nat → Nat) : st br 0 = 0 := rfl
theorem st_succ (br : Nat → Nat) (k : Nat) : st br (k + 1) = br k := rfl

/-- The order of the first k lines, and of j places of the next one. -/
def mo2 (prev : Nat → Nat) (lv : Nat → Int) (s m j p : Nat) : Nat := if s ≤ p ∧ p < s + j then s + Ord.U (fun i => lv (s + i)) m 126 (p - s) else prev p

def mo (lv : Nat → Int) (br : Nat → Nat) : Nat → Nat → Nat
  | 0, _ => 0
  | k + 1, p => mo2 (mo lv br k) lv (st br k) (br k - st br k) (br k - st br k) p

theorem mo2_zero (prev : Nat → Nat) (lv : Nat → Int) (s m p : Nat) : mo2 prev lv s m 0 p = prev p := if_neg (by omega)

theorem mo2_succ (prev : Nat → Nat) (lv : Nat → Int) (s m j p : Nat) : mo2 prev lv s m (j + 1) p = if p = s + j then s + Ord.U (fun i => lv (s + i)) m 126 j else mo2 prev lv s m j p := by
  unfold mo2
  by_cases e : p = s + j
  · subst e; rw [if_pos (by omega), if_pos rfl, Nat.add_sub_cancel_left]
  · rw [if_neg e]
    by_cases h : s ≤ p ∧ p < s + j
    · rw [if_pos h, if_pos (by omega)]
    · rw [if_neg h, if_neg (by omega)]

/-- The ends of lines: greater than 0, ascending, the last one the end. -/
structure Brk (br : Nat → Nat) (nb n : Nat) : Prop where
  pos : 0 < nb
  asc : ∀ i, i < nb → st br i < br i
  le : ∀ i, i < nb → br i ≤ n
  last : br (nb - 1) = n

def lastY (y : Nat → Int) (k : Nat) : Int := if k = 0 then 0 else y (k - 1)

def breaksB (nb : Nat) (y : Nat → Int) (n : Int) : Bool := decide (0 < nb ∧ (∀ i, i < nb → lastY y i < y i ∧ y i ≤ n) ∧ lastY y nb = n)

theorem lastY_succ (y : Nat → Int) (k : Nat) : lastY y (k + 1) = y k := rfl

theorem brk_of {nb n : Nat} {y : Nat → Int} (h : breaksB nb y (n : Int) = true) : ∃ br : Nat → Nat, Brk br nb n ∧ ∀ i, i < nb → y i = (br i : Int) := by
  obtain ⟨h1, h2, h3⟩ := of_decide_eq_true h
  have hpos : ∀ i, i < nb → 0 < y i := by
    intro i
    induction i with
    | zero => intro hi; have := (h2 0 hi).1; simpa [lastY] using this
    | succ i ih => intro hi; have a := ih (by omega); have b := (h2 (i + 1) hi).1; rw [lastY_succ] at b; omega
  refine ⟨fun i => (y i).toNat, ⟨h1, fun i hi => ?_, fun i hi => ?_, ?_⟩, fun i hi => ?_⟩
  · have a := (h2 i hi).1
    have b := hpos i hi
    unfold st
    unfold lastY at a
    split
    · rename_i h0; rw [if_pos h0] at a; show 0 < (y i).toNat; omega
    · rename_i h0; rw [if_neg h0] at a; have := hpos (i - 1) (by omega); show (y (i - 1)).toNat < (y i).toNat; omega
  · have := (h2 i hi).2; have := hpos i hi; show (y i).toNat ≤ n; omega
  · have a := h3
    unfold lastY at a
    rw [if_neg (by omega)] at a
    have := hpos (nb - 1) (by omega)
    show (y (nb - 1)).toNat = n
    omega
  · have := hpos i hi; show y i = ((y i).toNat : Int); omega

theorem Brk.st_le {br : Nat → Nat} {nb n : Nat} (h : Brk br nb n) {k : Nat} (hk : k ≤ nb) : st br k ≤ n := by
  unfold st
  split
  · omega
  · exact h.le _ (by omega)

theorem Brk.st_end {br : Nat → Nat} {nb n : Nat} (h : Brk br nb n) : st br nb = n := by
  have := h.pos
  unfold st
  rw [if_neg (by omega)]; exact h.last

end Go.Proofs.YtkocpijloiamcaaDoor
