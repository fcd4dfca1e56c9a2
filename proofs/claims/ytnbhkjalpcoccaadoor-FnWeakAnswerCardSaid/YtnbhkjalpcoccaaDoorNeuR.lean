/- (*isolatingRunSequence).resolveNeutralTypes (N1, N2). -/
import Derived.Test.YtnbhkjalpcoccaaDoorNeuI
import Derived.Deep.DeepCutAuto
import Derived.Deep.CutBlock
import Derived.Deep.QuietTactic
import Derived.BigQuiet
import Derived.StillTailTactics
namespace Go.Proofs.YtnbhkjalpcoccaaDoor
open Go.RowKit

def neuL : List Int := [7, 8, 9, 10, 22, 21, 23, 24]
def NB (x : Int) : Bool := memB neuL x
/-- The side that a class counts as. -/
def sd (x : Int) : Int := if x = 5 ∨ x = 2 then 1 else x

theorem sd_num {x : Int} (h : memB [5, 2] x = true) : sd x = 1 := by
  have := memB_iff.1 h
  simp only [List.mem_cons, List.not_mem_nil, or_false] at this
  unfold sd; rw [if_pos this]
theorem sd_not {x : Int} (h : memB [5, 2] x = false) : sd x = x := by
  have := memB_not.1 h
  simp only [List.mem_cons, List.not_mem_nil, or_false] at this
  unfold sd; rw [if_neg this]

/-- N1 and N2 over classes. -/
def neu (sos eos e : Int) (n : Nat) (c : Nat → Int) (i : Nat) : Int := nout (fun j => NB (c j)) (fun j => sd (c j)) sos eos e n c i

/-- How far the rules have come. -/
def NSt (sos eos e : Int) (n : Nat) (c : Nat → Int) (k : Nat) (cur : Nat → Int) : Prop :=
  ∃ m, k ≤ m ∧ m ≤ n ∧ (∀ j, j < m → cur j = neu sos eos e n c j) ∧ (∀ j, m ≤ j → j < n → cur j = c j) ∧ (0 < m → m < n → NB (c m) = true → NB (c (m - 1)) = false)

variable {sos eos e : Int} {n : Nat} {c cur : Nat → Int} {k : Nat}

theorem NSt.start : NSt sos eos e n c 0 c := ⟨0, by omega, by omega, fun j hj => absurd hj (Nat.not_lt_zero _), fun _ _ _ => rfl, fun h => absurd h (Nat.lt_irrefl _)⟩

theorem NSt.fin (h : NSt sos eos e n c n cur) {j : Nat} (hj : j < n) : cur j = neu sos eos e n c j := by
  obtain ⟨m, h1, h2, h3, _⟩ := h
  exact h3 j (by omega)

theorem NSt.skip (h : NSt sos eos e n c k cur) (hk : k < n) (hN : NB (cur k) = false) : NSt sos eos e n c (k + 1) cur := by
  obtain ⟨m, h1, h2, h3, h4, h5⟩ := h
  by_cases he : m = k
  · subst he
    have hc := h4 m (by omega) hk
    rw [hc] at hN
    refine ⟨m + 1, by omega, by omega, fun j hj => ?_, fun j a b => h4 j (by omega) b, fun _ _ _ => by rw [Nat.add_sub_cancel]; exact hN⟩
    rcases Nat.lt_succ_iff_lt_or_eq.1 hj with q | q
    · exact h3 j q
    · subst q; rw [hc]; unfold neu; rw [nout_not hN]
  · exact ⟨m, by omega, h2, h3, h4, h5⟩

theorem nb_side {x : Int} (h : x = 0 ∨ x = 1) : NB x = false := by rcases h with rfl | rfl <;> decide

/-- A class that the rules meet. -/
theorem sd_side {x : Int} (h : memB [0, 1, 2, 5, 7, 8, 9, 10, 22, 21, 23, 24] x = true) (hN : NB x = false) : sd x = 0 ∨ sd x = 1 := by
  have h1 := memB_iff.1 h
  have h2 := memB_not.1 hN
  unfold neuL at h2
  simp only [List.mem_cons, List.not_mem_nil, or_false] at h1 h2
  unfold sd
  split <;> omega

theorem neu_nb (hs : sos = 0 ∨ sos = 1) (he : e = 0 ∨ e = 1) (hall : ∀ i, i < n → memB [0, 1, 2, 5, 7, 8, 9, 10, 22, 21, 23, 24] (c i) = true) {i : Nat} (hi : i < n) : NB (neu sos eos e n c i) = false := by
  unfold neu
  by_cases h : NB (c i) = true
  · exact nb_side (nout_side (N := fun j => NB (c j)) hs he (fun i hi hN => sd_side (hall i hi) hN) hi h)
  · have h' : NB (c i) = false := by simpa using h
    rw [nout_not (N := fun j => NB (c j)) h']; exact h'

theorem nxt_congr {N N' : Nat → Bool} : ∀ f i, (∀ j, i ≤ j → j < i + f → N j = N' j) → nxt N f i = nxt N' f i
  | 0, _, _ => rfl
  | f + 1, i, h => by
    rw [nxt, nxt, h i (Nat.le_refl _) (by omega), nxt_congr f (i + 1) (fun j a b => h j (by omega) (by omega))]

/-- At a neutral: the place is the first of its run; the sides that are looked up are those of the text. -/
theorem NSt.run (h : NSt sos eos e n c k cur) (hs : sos = 0 ∨ sos = 1) (he : e = 0 ∨ e = 1) (hall : ∀ i, i < n → memB [0, 1, 2, 5, 7, 8, 9, 10, 22, 21, 23, 24] (c i) = true) (hk : k < n) (hN : NB (cur k) = true)
    {E : Nat} (hE : E = nxt (fun j => NB (cur j)) (n - k) k) {ld tr : Int} (hld : ld = if k = 0 then sos else sd (cur (k - 1))) (htr : tr = if E = n then eos else sd (cur E)) {cur' : Nat → Int}
    (hcur : ∀ j, j < n → cur' j = if k ≤ j ∧ j < E then (if ld = tr then ld else e) else cur j) : NSt sos eos e n c (k + 1) cur' := by
  obtain ⟨m, h1, h2, h3, h4, h5⟩ := h
  have hmk : m = k := by
    rcases Nat.lt_or_ge k m with q | q
    · have := neu_nb (eos := eos) hs he hall hk
      rw [← h3 k q, hN] at this; cases this
    · omega
  subst hmk
  have hc : ∀ j, m ≤ j → j < n → cur j = c j := h4
  have hE' : E = nxt (fun j => NB (c j)) (n - m) m := by
    rw [hE]; exact nxt_congr _ _ (fun j a b => by rw [hc j a (by omega)])
  have hle := nxt_le (N := fun j => NB (c j)) (n - m) m
  rw [← hE'] at hle
  have hNc : NB (c m) = true := by rw [← hc m (Nat.le_refl _) hk]; exact hN
  have hge : m + 1 ≤ E := by
    rw [hE', nxt_neu (N := fun j => NB (c j)) hk hNc]; exact nxt_ge _ _
  have hEn : E < n → NB (c E) = false := fun q => by
    have := nxt_at (N := fun j => NB (c j)) (n - m) m (by rw [← hE']; omega)
    rw [← hE'] at this; exact this
  have hbef : ld = bef (fun j => NB (c j)) (fun j => sd (c j)) sos m := by
    rw [hld]
    by_cases z : m = 0
    · subst z; rw [if_pos rfl]; rfl
    · have hp := h5 (by omega) hk hNc
      rw [if_neg z, h3 (m - 1) (by omega)]
      unfold neu
      rw [nout_not (N := fun j => NB (c j)) hp]
      obtain ⟨r, rfl⟩ : ∃ r, m = r + 1 := ⟨m - 1, by omega⟩
      rw [Nat.add_sub_cancel] at hp ⊢
      rw [bef_succ_not (N := fun j => NB (c j)) hp]
  have hbeh : tr = beh (fun j => NB (c j)) (fun j => sd (c j)) eos (n - E) E := by
    rw [htr]
    by_cases z : E = n
    · rw [if_pos z, beh_end (N := fun j => NB (c j)) (by omega)]
    · rw [if_neg z, hc E (by omega) (by omega), beh_not (N := fun j => NB (c j)) (by omega) (hEn (by omega))]
  refine ⟨E, by omega, by omega, fun j hj => ?_, fun j a b => ?_, fun _ q hq => ?_⟩
  · rw [hcur j (by omega)]
    by_cases z : m ≤ j
    · rw [if_pos ⟨z, hj⟩]
      unfold neu
      rw [nout_run (N := fun j => NB (c j)) hk z (by rw [← hE']; exact hj), ← hE', ← hbef, ← hbeh]
    · rw [if_neg (by omega), h3 j (by omega)]
  · rw [hcur j b, if_neg (by omega), hc j (by omega) b]
  · rw [hEn q] at hq; cases hq

end Go.Proofs.YtnbhkjalpcoccaaDoor
