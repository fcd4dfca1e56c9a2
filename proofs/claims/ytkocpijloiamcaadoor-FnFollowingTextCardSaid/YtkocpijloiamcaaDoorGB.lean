/- Level runs in plain Lean: what is in them. No program in sight. -/
import Derived.Test.YtkocpijloiamcaaDoorGA
namespace Go.Proofs.YtkocpijloiamcaaDoor
set_option linter.unusedVariables false

def hd (l : List Nat) : Nat := l.getD 0 0

/-- A row of one level, of places below k. -/
structure RowOk (lv : Nat → Int) (k : Nat) (r : List Nat) : Prop where
  ne : r ≠ []
  lt : ∀ i, i ∈ r → i < k
  lvl : ∀ i, i ∈ r → lv i = lv (hd r)
  nr : lv (hd r) ≠ -1

theorem RowOk.mono {lv : Nat → Int} {k : Nat} {r : List Nat} (h : RowOk lv k r) : RowOk lv (k + 1) r := ⟨h.ne, fun i hi => by have := h.lt i hi; omega, h.lvl, h.nr⟩

theorem hd_snoc {r : List Nat} (h : r ≠ []) (k : Nat) : hd (r ++ [k]) = hd r := by
  unfold hd
  cases r with
  | nil => exact absurd rfl h
  | cons a l => rfl

/-- The rows of the first k characters. -/
theorem rs_ok {lv : Nat → Int} : ∀ k, (∀ r, r ∈ (rs lv k).1 → RowOk lv k r) ∧ (lastL lv k ≠ -1 → RowOk lv k (rs lv k).2 ∧ lv (hd (rs lv k).2) = lastL lv k)
  | 0 => ⟨fun r hr => (by cases hr), fun h => absurd rfl h⟩
  | k + 1 => by
    obtain ⟨h1, h2⟩ := rs_ok k
    by_cases e : lv k = -1
    · rw [(rs_rem e).1, (rs_rem e).2]
      exact ⟨fun r hr => (h1 r hr).mono, fun h => ⟨(h2 h).1.mono, (h2 h).2⟩⟩
    · rw [lastL_of e]
      by_cases e2 : lv k = lastL lv k
      · rw [rs_same e e2]
        have h3 := h2 (by rw [← e2]; exact e)
        refine ⟨fun r hr => (h1 r hr).mono, fun _ => ⟨⟨by simp, fun i hi => ?_, fun i hi => ?_, ?_⟩, ?_⟩⟩
        · rcases List.mem_append.1 hi with h | h
          · have := h3.1.lt i h; omega
          · have : i = k := by simpa using h
            omega
        · show lv i = lv (hd ((rs lv k).2 ++ [k]))
          rw [hd_snoc h3.1.ne]
          rcases List.mem_append.1 hi with h | h
          · exact h3.1.lvl i h
          · have : i = k := by simpa using h
            rw [this, h3.2]; exact e2
        · show lv (hd ((rs lv k).2 ++ [k])) ≠ -1
          rw [hd_snoc h3.1.ne]; exact h3.1.nr
        · show lv (hd ((rs lv k).2 ++ [k])) = lv k
          rw [hd_snoc h3.1.ne, h3.2]; exact e2.symm
      · rw [rs_new e e2]
        refine ⟨fun r hr => ?_, fun _ => ⟨⟨by simp, fun i hi => ?_, fun i hi => ?_, ?_⟩, ?_⟩⟩
        · by_cases e3 : lastL lv k = -1
          · rw [if_pos e3] at hr; exact (h1 r hr).mono
          · rw [if_neg e3] at hr
            rcases List.mem_append.1 hr with h | h
            · exact (h1 r h).mono
            · have : r = (rs lv k).2 := by simpa using h
              rw [this]; exact (h2 e3).1.mono
        · have : i = k := by simpa using hi
          omega
        · have : i = k := by simpa using hi
          rw [this]; rfl
        · exact e
        · rfl

theorem runs_ok {lv : Nat → Int} {n : Nat} : ∀ r, r ∈ runs lv n → RowOk lv n r := fun r hr => by
  obtain ⟨h1, h2⟩ := rs_ok (lv := lv) n
  unfold runs at hr
  split at hr
  · exact h1 r hr
  · next e =>
    rcases List.mem_append.1 hr with h | h
    · exact h1 r h
    · have : r = (rs lv n).2 := by simpa using h
      rw [this]; exact (h2 e).1

theorem runs_at {lv : Nat → Int} {n j : Nat} (hj : j < (runs lv n).length) : RowOk lv n ((runs lv n).getD j []) := by
  refine runs_ok _ ?_
  rw [List.getD_eq_getElem?_getD, List.getElem?_eq_getElem hj]
  exact List.getElem_mem hj

/-- All that is not removed, in order. -/
theorem rs_flat {lv : Nat → Int} : ∀ k, (rs lv k).1.flatten ++ (rs lv k).2 = (List.range k).filter (fun i => decide (lv i ≠ -1))
  | 0 => rfl
  | k + 1 => by
    have ih := rs_flat (lv := lv) k
    rw [List.range_succ, List.filter_append]
    by_cases e : lv k = -1
    · rw [(rs_rem e).1, ih]; simp [e]
    · have hk : [k].filter (fun i => decide (lv i ≠ -1)) = [k] := by simp [e]
      rw [hk, ← ih]
      by_cases e2 : lv k = lastL lv k
      · rw [rs_same e e2]; simp
      · rw [rs_new e e2]
        by_cases e3 : lastL lv k = -1
        · rw [if_pos e3, rs_empty k e3]; rfl
        · rw [if_neg e3]; simp

theorem runs_flat (lv : Nat → Int) (n : Nat) : (runs lv n).flatten = (List.range n).filter (fun i => decide (lv i ≠ -1)) := by
  rw [← rs_flat n]
  unfold runs
  by_cases e3 : lastL lv n = -1
  · rw [if_pos e3, rs_empty n e3]; rfl
  · rw [if_neg e3]; simp

theorem rs_row_len {lv : Nat → Int} : ∀ k, (∀ r, r ∈ (rs lv k).1 → r.length ≤ k) ∧ (rs lv k).2.length ≤ k
  | 0 => ⟨fun r hr => (by cases hr), Nat.le_refl _⟩
  | k + 1 => by
    obtain ⟨h1, h2⟩ := rs_row_len (lv := lv) k
    by_cases e : lv k = -1
    · rw [(rs_rem e).1]; exact ⟨fun r hr => by have := h1 r hr; omega, by omega⟩
    · by_cases e2 : lv k = lastL lv k
      · rw [rs_same e e2]; exact ⟨fun r hr => by have := h1 r hr; omega, by simp; omega⟩
      · rw [rs_new e e2]
        refine ⟨fun r hr => ?_, by simp⟩
        by_cases e3 : lastL lv k = -1
        · rw [if_pos e3] at hr; have := h1 r hr; omega
        · rw [if_neg e3] at hr
          rcases List.mem_append.1 hr with h | h
          · have := h1 r h; omega
          · have : r = (rs lv k).2 := by simpa using h
            rw [this]; omega

theorem runs_row_len {lv : Nat → Int} {n j : Nat} (hj : j < (runs lv n).length) : ((runs lv n).getD j []).length ≤ n := by
  have key : ∀ r, r ∈ runs lv n → r.length ≤ n := fun r hr => by
    obtain ⟨h1, h2⟩ := rs_row_len (lv := lv) n
    unfold runs at hr
    split at hr
    · exact h1 r hr
    · rcases List.mem_append.1 hr with h | h
      · exact h1 r h
      · have : r = (rs lv n).2 := by simpa using h
        rw [this]; exact h2
  refine key _ ?_
  rw [List.getD_eq_getElem?_getD, List.getElem?_eq_getElem hj]
  exact List.getElem_mem hj

/-- Rows side by side lie on different levels. -/
def Dif (lv : Nat → Int) (R : List (List Nat)) : Prop := ∀ j, j < R.length → lv (hd (R.getD j [])) ≠ if j = 0 then -1 else lv (hd (R.getD (j - 1) []))

theorem Dif.snoc {lv : Nat → Int} {R : List (List Nat)} {r : List Nat} (h : Dif lv R) (hr : lv (hd r) ≠ if R.length = 0 then -1 else lv (hd (R.getD (R.length - 1) []))) : Dif lv (R ++ [r]) := by
  intro j hj
  have hl : (R ++ [r]).length = R.length + 1 := by simp
  rw [hl] at hj
  rw [getD_snoc]
  by_cases e : j = R.length
  · rw [if_pos e]
    subst e
    by_cases h0 : R.length = 0
    · rw [if_pos h0] at hr ⊢; exact hr
    · rw [if_neg h0] at hr ⊢
      rw [getD_snoc, if_neg (by omega)]; exact hr
  · rw [if_neg e]
    have := h j (by omega)
    by_cases h0 : j = 0
    · rw [if_pos h0] at this ⊢; exact this
    · rw [if_neg h0] at this ⊢
      rw [getD_snoc, if_neg (by omega)]; exact this

theorem rs_dif {lv : Nat → Int} : ∀ k, Dif lv (rs lv k).1 ∧ (lastL lv k ≠ -1 → Dif lv ((rs lv k).1 ++ [(rs lv k).2]))
  | 0 => ⟨fun j hj => absurd hj (Nat.not_lt_zero _), fun h => absurd rfl h⟩
  | k + 1 => by
    obtain ⟨h1, h2⟩ := rs_dif (lv := lv) k
    by_cases e : lv k = -1
    · rw [(rs_rem e).1, (rs_rem e).2]; exact ⟨h1, h2⟩
    · rw [lastL_of e]
      by_cases e2 : lv k = lastL lv k
      · rw [rs_same e e2]
        have hl : lastL lv k ≠ -1 := by rw [← e2]; exact e
        have h3 := ((rs_ok (lv := lv) k).2 hl).1
        refine ⟨h1, fun _ => h1.snoc ?_⟩
        rw [hd_snoc h3.ne]
        have := h2 hl (rs lv k).1.length (by simp)
        rw [getD_snoc, if_pos rfl] at this
        by_cases h0 : (rs lv k).1.length = 0
        · rw [if_pos h0] at this ⊢; exact this
        · rw [if_neg h0] at this ⊢
          rw [getD_snoc, if_neg (by omega)] at this; exact this
      · rw [rs_new e e2]
        by_cases e3 : lastL lv k = -1
        · rw [if_pos e3, rs_empty k e3]
          refine ⟨fun j hj => absurd hj (Nat.not_lt_zero _), fun _ => ?_⟩
          intro j hj
          have : j = 0 := by simp at hj; omega
          subst this
          rw [if_pos rfl]; exact e
        · rw [if_neg e3]
          refine ⟨h2 e3, fun _ => (h2 e3).snoc ?_⟩
          have hl : ((rs lv k).1 ++ [(rs lv k).2]).length = (rs lv k).1.length + 1 := by simp
          rw [hl, if_neg (by omega), getD_snoc, if_pos (by omega), ((rs_ok (lv := lv) k).2 e3).2]
          exact e2

theorem runs_dif (lv : Nat → Int) (n : Nat) : Dif lv (runs lv n) := by
  unfold runs
  by_cases e3 : lastL lv n = -1
  · rw [if_pos e3]; exact (rs_dif n).1
  · rw [if_neg e3]; exact (rs_dif n).2 e3

end Go.Proofs.YtkocpijloiamcaaDoor

/- X1 to X8 in plain Lean: a stack of levels, the three counts, and the steps. No program in sight. -/
namespace Go.Proofs.YtkocpijloiamcaaDoor

/-- The state of X1 to X8: the stack (d entries: level, override: -1, 0 or 1, isolate), overflow isolates, overflow embeddings, valid isolates. -/
structure Mst where
  d : Nat
  lv : Nat → Int
  ov : Nat → Int
  iso : Nat → Bool
  oi : Nat
  oe : Nat
  vi : Nat

namespace Mst
def up {α : Type} (f : Nat → α) (d : Nat) (v : α) : Nat → α := fun j => if j = d then v else f j
theorem up_at {α : Type} (f : Nat → α) (d : Nat) (v : α) : up f d v d = v := if_pos rfl
theorem up_ne {α : Type} (f : Nat → α) {d j : Nat} (v : α) (h : j ≠ d) : up f d v j = f j := if_neg h

def top (m : Mst) : Int := m.lv (m.d - 1)
def tov (m : Mst) : Int := m.ov (m.d - 1)
def tiso (m : Mst) : Bool := m.iso (m.d - 1)
/-- The least level of a parity above the last one. -/
def next (m : Mst) (odd : Int) : Int := if (m.top + 1) % 2 = odd then m.top + 1 else m.top + 2
def room (m : Mst) (odd : Int) : Prop := m.next odd ≤ 125 ∧ m.oi = 0 ∧ m.oe = 0
instance (m : Mst) (odd : Int) : Decidable (m.room odd) := by unfold room; infer_instance
def push (m : Mst) (l o : Int) (b : Bool) : Mst := { m with d := m.d + 1, lv := up m.lv m.d l, ov := up m.ov m.d o, iso := up m.iso m.d b }
/-- X2 to X5. -/
def embed (m : Mst) (odd asv : Int) : Mst := if m.room odd then m.push (m.next odd) asv false else if m.oi = 0 then { m with oe := m.oe + 1 } else m
/-- X5a to X5c. -/
def begin_ (m : Mst) (odd : Int) : Mst := if m.room odd then { m.push (m.next odd) (-1) true with vi := m.vi + 1 } else { m with oi := m.oi + 1 }
/-- How many entries lie below the last isolate. -/
def below (iso : Nat → Bool) : Nat → Nat
  | 0 => 0
  | d + 1 => if iso d = true then d else below iso d
/-- X6a. -/
def close (m : Mst) : Mst := if 0 < m.oi then { m with oi := m.oi - 1 } else if 0 < m.vi then { m with oe := 0, d := below m.iso m.d, vi := m.vi - 1 } else m
/-- X7. -/
def pop (m : Mst) : Mst := if 0 < m.oi then m else if 0 < m.oe then { m with oe := m.oe - 1 } else if m.tiso = false ∧ 1 < m.d then { m with d := m.d - 1 } else m
/-- One character: its number, and the side of an FSI. -/
def step (m : Mst) (t fs : Int) : Mst :=
  if t = 17 then m.embed 1 (-1) else if t = 16 then m.embed 0 (-1) else if t = 15 then m.embed 1 1 else if t = 14 then m.embed 0 0 else if t = 18 then m.pop
  else if t = 20 then m.begin_ 1 else if t = 19 then m.begin_ 0 else if t = 21 then m.begin_ fs else if t = 22 then m.close else m

def start (base : Int) : Mst := ⟨1, fun _ => base, fun _ => -1, fun _ => false, 0, 0, 0⟩

def cnt (iso : Nat → Bool) : Nat → Nat
  | 0 => 0
  | d + 1 => cnt iso d + (if iso d = true then 1 else 0)

/-- What holds of the state ahead of character i. -/
structure Ok (base : Int) (i : Nat) (m : Mst) : Prop where
  d1 : 1 ≤ m.d
  lv0 : m.lv 0 = base
  up : ∀ j, j + 1 < m.d → m.lv j + 1 ≤ m.lv (j + 1)
  le : ∀ j, j < m.d → m.lv j ≤ 125
  ov : ∀ j, j < m.d → m.ov j = -1 ∨ m.ov j = 0 ∨ m.ov j = 1
  i0 : m.iso 0 = false
  vi : m.vi = cnt m.iso m.d
  oi : m.oi ≤ i
  oe : m.oe ≤ i

theorem cnt_le (iso : Nat → Bool) : ∀ d, cnt iso d ≤ d
  | 0 => Nat.le_refl _
  | d + 1 => by have := cnt_le iso d; rw [cnt]; split <;> omega

theorem cnt_up {iso : Nat → Bool} {v : Bool} : ∀ d k, d ≤ k → cnt (Mst.up iso k v) d = cnt iso d
  | 0, _, _ => rfl
  | d + 1, k, h => by rw [cnt, cnt, cnt_up d k (by omega), Mst.up_ne _ _ (by omega)]

theorem below_le (iso : Nat → Bool) : ∀ d, below iso d ≤ d
  | 0 => Nat.le_refl _
  | d + 1 => by have := below_le iso d; rw [below]; split <;> omega

theorem below_cnt {iso : Nat → Bool} : ∀ d, 0 < cnt iso d → below iso d < d ∧ iso (below iso d) = true ∧ cnt iso d = cnt iso (below iso d) + 1
  | 0, h => absurd h (Nat.lt_irrefl _)
  | d + 1, h => by
    rw [cnt] at h ⊢
    rw [below]
    by_cases q : iso d = true
    · rw [if_pos q, if_pos q]; exact ⟨by omega, q, rfl⟩
    · rw [if_neg q] at h ⊢
      rw [if_neg q]
      have := below_cnt d (by omega)
      exact ⟨by omega, this.2.1, by omega⟩

namespace Ok
variable {base : Int} {i : Nat} {m : Mst}

theorem ge (h : Ok base i m) (hb : 0 ≤ base) : ∀ j, j < m.d → (j : Int) ≤ m.lv j ∧ base ≤ m.lv j
  | 0, _ => by rw [h.lv0]; omega
  | j + 1, hj => by have := h.ge hb j (by omega); have := h.up j hj; omega

theorem top_ge (h : Ok base i m) (hb : 0 ≤ base) : base ≤ m.top ∧ ((m.d : Int) - 1 ≤ m.top) := by
  have := h.ge hb (m.d - 1) (by have := h.d1; omega)
  have := h.d1
  unfold Mst.top; omega
theorem top_le (h : Ok base i m) : m.top ≤ 125 := h.le _ (by have := h.d1; omega)
theorem d_le (h : Ok base i m) (hb : 0 ≤ base) : m.d ≤ 126 := by
  have := h.top_ge hb
  have := h.top_le
  omega

theorem next_gt (m : Mst) (odd : Int) : m.top + 1 ≤ m.next odd := by unfold Mst.next; split <;> omega

theorem start (base : Int) (hb : base ≤ 125) : Ok base 0 (Mst.start base) := by
  refine ⟨by show 1 ≤ 1; omega, rfl, fun j hj => ?_, fun j hj => hb, fun j _ => .inl rfl, rfl, rfl, Nat.le_refl _, Nat.le_refl _⟩
  have : j + 1 < 1 := hj
  omega

theorem mono (h : Ok base i m) : Ok base (i + 1) m := ⟨h.d1, h.lv0, h.up, h.le, h.ov, h.i0, h.vi, by have := h.oi; omega, by have := h.oe; omega⟩

theorem push (h : Ok base i m) {l o : Int} (hl : m.top + 1 ≤ l) (hl2 : l ≤ 125) (ho : o = -1 ∨ o = 0 ∨ o = 1) (b : Bool) :
    Ok base (i + 1) { m.push l o b with vi := m.vi + (if b = true then 1 else 0) } := by
  have hd := h.d1
  refine ⟨?_, ?_, fun j hj => ?_, fun j hj => ?_, fun j hj => ?_, ?_, ?_, ?_, ?_⟩
  · show 1 ≤ m.d + 1; omega
  · show Mst.up m.lv m.d l 0 = base
    rw [up_ne _ _ (by omega)]; exact h.lv0
  · show Mst.up m.lv m.d l j + 1 ≤ Mst.up m.lv m.d l (j + 1)
    have hj' : j + 1 < m.d + 1 := hj
    by_cases e : j + 1 = m.d
    · rw [up_ne _ _ (by omega), e, up_at]
      unfold Mst.top at hl
      rw [show m.d - 1 = j by omega] at hl
      exact hl
    · rw [up_ne _ _ (by omega), up_ne _ _ e]; exact h.up j (by omega)
  · show Mst.up m.lv m.d l j ≤ 125
    have hj' : j < m.d + 1 := hj
    by_cases e : j = m.d
    · rw [e, up_at]; exact hl2
    · rw [up_ne _ _ e]; exact h.le j (by omega)
  · show Mst.up m.ov m.d o j = -1 ∨ Mst.up m.ov m.d o j = 0 ∨ Mst.up m.ov m.d o j = 1
    have hj' : j < m.d + 1 := hj
    by_cases e : j = m.d
    · rw [e, up_at]; exact ho
    · rw [up_ne _ _ e]; exact h.ov j (by omega)
  · show Mst.up m.iso m.d b 0 = false
    rw [up_ne _ _ (by omega)]; exact h.i0
  · show m.vi + (if b = true then 1 else 0) = cnt (Mst.up m.iso m.d b) (m.d + 1)
    rw [cnt, cnt_up m.d m.d (Nat.le_refl _), up_at, h.vi]
  · show m.oi ≤ i + 1
    have := h.oi; omega
  · show m.oe ≤ i + 1
    have := h.oe; omega

theorem embed (h : Ok base i m) {odd asv : Int} (ha : asv = -1 ∨ asv = 0 ∨ asv = 1) : Ok base (i + 1) (m.embed odd asv) := by
  unfold Mst.embed
  split
  · next q => exact h.push (b := false) (next_gt m odd) q.1 ha
  · split
    · exact ⟨h.d1, h.lv0, h.up, h.le, h.ov, h.i0, h.vi, by have := h.oi; show m.oi ≤ i + 1; omega, by have := h.oe; show m.oe + 1 ≤ i + 1; omega⟩
    · exact h.mono

theorem begin_ (h : Ok base i m) {odd : Int} : Ok base (i + 1) (m.begin_ odd) := by
  unfold Mst.begin_
  split
  · next q => exact h.push (b := true) (next_gt m odd) q.1 (.inl rfl)
  · exact ⟨h.d1, h.lv0, h.up, h.le, h.ov, h.i0, h.vi, by have := h.oi; show m.oi + 1 ≤ i + 1; omega, by have := h.oe; show m.oe ≤ i + 1; omega⟩

theorem below_pos (h : Ok base i m) (hv : 0 < m.vi) : 1 ≤ below m.iso m.d ∧ below m.iso m.d < m.d := by
  have := below_cnt m.d (by rw [← h.vi]; exact hv)
  refine ⟨?_, this.1⟩
  rcases Nat.eq_zero_or_pos (below m.iso m.d) with e | e
  · rw [e, h.i0] at this; exact absurd this.2.1 (by decide)
  · exact e

theorem close (h : Ok base i m) : Ok base (i + 1) m.close := by
  unfold Mst.close
  split
  · exact ⟨h.d1, h.lv0, h.up, h.le, h.ov, h.i0, h.vi, by have := h.oi; show m.oi - 1 ≤ i + 1; omega, by have := h.oe; show m.oe ≤ i + 1; omega⟩
  · split
    · next q =>
      have hp := h.below_pos q
      have hc := below_cnt m.d (by rw [← h.vi]; exact q)
      exact ⟨hp.1, h.lv0, fun j hj => h.up j (by have : j + 1 < below m.iso m.d := hj; omega), fun j hj => h.le j (by have : j < below m.iso m.d := hj; omega), fun j hj => h.ov j (by have : j < below m.iso m.d := hj; omega), h.i0,
        by show m.vi - 1 = cnt m.iso (below m.iso m.d); rw [h.vi]; omega, by have := h.oi; show m.oi ≤ i + 1; omega, by show 0 ≤ i + 1; omega⟩
    · exact h.mono

theorem pop (h : Ok base i m) : Ok base (i + 1) m.pop := by
  unfold Mst.pop
  split
  · exact h.mono
  · split
    · exact ⟨h.d1, h.lv0, h.up, h.le, h.ov, h.i0, h.vi, by have := h.oi; show m.oi ≤ i + 1; omega, by have := h.oe; show m.oe - 1 ≤ i + 1; omega⟩
    · split
      · next q =>
        refine ⟨by show 1 ≤ m.d - 1; omega, h.lv0, fun j hj => h.up j (by have : j + 1 < m.d - 1 := hj; omega), fun j hj => h.le j (by have : j < m.d - 1 := hj; omega), fun j hj => h.ov j (by have : j < m.d - 1 := hj; omega), h.i0, ?_, by have := h.oi; show m.oi ≤ i + 1; omega, by have := h.oe; show m.oe ≤ i + 1; omega⟩
        show m.vi = cnt m.iso (m.d - 1)
        rw [h.vi]
        obtain ⟨r, hr⟩ : ∃ r, m.d = r + 1 := ⟨m.d - 1, by omega⟩
        have q1 := q.1
        unfold Mst.tiso at q1
        rw [hr, Nat.add_sub_cancel] at q1
        rw [hr, Nat.add_sub_cancel, cnt, if_neg (by rw [q1]; decide)]; rfl
      · exact h.mono

theorem step (h : Ok base i m) (t fs : Int) : Ok base (i + 1) (m.step t fs) := by
  unfold Mst.step
  repeat' split
  · exact h.embed (by omega)
  · exact h.embed (by omega)
  · exact h.embed (by omega)
  · exact h.embed (by omega)
  · exact h.pop
  · exact h.begin_
  · exact h.begin_
  · exact h.begin_
  · exact h.close
  · exact h.mono
end Ok
end Mst

/-- The state ahead of character i. -/
def mst (x : Nat → Int) (fs : Nat → Int) (base : Int) : Nat → Mst
  | 0 => Mst.start base
  | i + 1 => (mst x fs base i).step (x i) (fs i)

theorem mst_ok {x fs : Nat → Int} {base : Int} (hb : base ≤ 125) : ∀ i, Mst.Ok base i (mst x fs base i)
  | 0 => Mst.Ok.start base hb
  | i + 1 => (mst_ok hb i).step _ _

/-- Does X9 remove it? -/
def remN (t : Int) : Bool := decide (t = 14 ∨ t = 15 ∨ t = 16 ∨ t = 17 ∨ t = 18 ∨ t = 11)

/-- The level of a character that is not removed. -/
def lvl (x : Nat → Int) (fs : Nat → Int) (base : Int) (i : Nat) : Int :=
  if x i = 22 then (mst x fs base i).close.top else if x i = 7 then base else (mst x fs base i).top

theorem lvl_range {x fs : Nat → Int} {base : Int} (h0 : 0 ≤ base) (hb : base ≤ 125) (i : Nat) : base ≤ lvl x fs base i ∧ lvl x fs base i ≤ 125 := by
  have h := mst_ok (x := x) (fs := fs) hb i
  unfold lvl
  split
  · exact ⟨(h.close.top_ge h0).1, h.close.top_le⟩
  · split
    · omega
    · exact ⟨(h.top_ge h0).1, h.top_le⟩

end Go.Proofs.YtkocpijloiamcaaDoor

/- BD9 in plain Lean: the matching PDI of an isolate initiator, over two rows of Booleans (initiator? PDI?). No program in sight. -/
namespace Go.Proofs.YtkocpijloiamcaaDoor
variable (ini pdi : Nat → Bool) (n : Nat)

/-- From place j on, at a depth: the place at which the depth falls to 0, n if there is none. The first number bounds the places that are left. -/
def scan : Nat → Nat → Nat → Nat
  | 0, _, _ => n
  | f + 1, j, d => if ini j = true then scan f (j + 1) (d + 1) else if pdi j = true then (if d = 1 then j else scan f (j + 1) (d - 1)) else scan f (j + 1) d

def mat (i : Nat) : Nat := scan ini pdi n (n - (i + 1)) (i + 1) 1

/-- What the list of matching PDIs holds. -/
def mt (i : Nat) : Int := if ini i = true then (mat ini pdi n i : Int) else -1

/-- What the list of matching initiators holds behind the first k places. -/
def bg : Nat → Nat → Int
  | 0, _ => -1
  | k + 1, j => if ini k = true ∧ mat ini pdi n k < n ∧ j = mat ini pdi n k then (k : Int) else bg k j

variable {ini pdi : Nat → Bool} {n : Nat}

theorem scan_ini {f j d : Nat} (h : ini j = true) : scan ini pdi n (f + 1) j d = scan ini pdi n f (j + 1) (d + 1) := by rw [scan, if_pos h]
theorem scan_pdi {f j d : Nat} (h : ini j = false) (hp : pdi j = true) (hd : d ≠ 1) : scan ini pdi n (f + 1) j d = scan ini pdi n f (j + 1) (d - 1) := by
  rw [scan, if_neg (by rw [h]; decide), if_pos hp, if_neg hd]
theorem scan_hit {f j : Nat} (h : ini j = false) (hp : pdi j = true) : scan ini pdi n (f + 1) j 1 = j := by
  rw [scan, if_neg (by rw [h]; decide), if_pos hp, if_pos rfl]
theorem scan_other {f j d : Nat} (h : ini j = false) (hp : pdi j = false) : scan ini pdi n (f + 1) j d = scan ini pdi n f (j + 1) d := by
  rw [scan, if_neg (by rw [h]; decide), if_neg (by rw [hp]; decide)]
theorem scan_none (j d : Nat) : scan ini pdi n 0 j d = n := rfl

theorem scan_ge : ∀ f j d, j + f ≤ n → j ≤ scan ini pdi n f j d
  | 0, j, d, h => by simpa [scan] using h
  | f + 1, j, d, h => by
    have a := fun d => scan_ge f (j + 1) d (by omega)
    rw [scan]
    split
    · have := a (d + 1); omega
    · split
      · split
        · omega
        · have := a (d - 1); omega
      · have := a d; omega

theorem scan_le : ∀ f j d, j + f ≤ n → scan ini pdi n f j d ≤ n
  | 0, _, _, _ => Nat.le_refl _
  | f + 1, j, d, h => by
    have a := fun d => scan_le f (j + 1) d (by omega)
    rw [scan]
    split
    · exact a _
    · split
      · split
        · omega
        · exact a _
      · exact a _

theorem mat_gt {i : Nat} (hi : i < n) : i < mat ini pdi n i := by
  have := scan_ge (ini := ini) (pdi := pdi) (n := n) (n - (i + 1)) (i + 1) 1 (by omega)
  unfold mat; omega

theorem mat_le {i : Nat} (hi : i < n) : mat ini pdi n i ≤ n := scan_le _ _ _ (by omega)

theorem mt_ini {i : Nat} (h : ini i = true) : mt ini pdi n i = (mat ini pdi n i : Int) := if_pos h
theorem mt_not {i : Nat} (h : ini i = false) : mt ini pdi n i = -1 := if_neg (by rw [h]; decide)

theorem bg_not {k : Nat} (h : ini k = false) (j : Nat) : bg ini pdi n (k + 1) j = bg ini pdi n k j := by rw [bg, if_neg (by rw [h]; simp)]
theorem bg_none {k : Nat} (h : mat ini pdi n k = n) (j : Nat) : bg ini pdi n (k + 1) j = bg ini pdi n k j := by rw [bg, if_neg (by rw [h]; omega)]
theorem bg_hit {k q : Nat} (h : ini k = true) (hm : mat ini pdi n k = q) (hq : q < n) (j : Nat) : bg ini pdi n (k + 1) j = if j = q then (k : Int) else bg ini pdi n k j := by
  rw [bg, hm]
  by_cases e : j = q
  · rw [if_pos ⟨h, hq, e⟩, if_pos e]
  · rw [if_neg (fun x => e x.2.2), if_neg e]

/-- Rows that agree below n give the same. -/
theorem scan_congr {ini' pdi' : Nat → Bool} (h1 : ∀ i, i < n → ini i = ini' i) (h2 : ∀ i, i < n → pdi i = pdi' i) : ∀ f j d, j + f ≤ n → scan ini pdi n f j d = scan ini' pdi' n f j d
  | 0, _, _, _ => rfl
  | f + 1, j, d, h => by
    have a := fun d => scan_congr h1 h2 f (j + 1) d (by omega)
    rw [scan, scan, h1 j (by omega), h2 j (by omega), a, a, a]

theorem mat_congr {ini' pdi' : Nat → Bool} (h1 : ∀ i, i < n → ini i = ini' i) (h2 : ∀ i, i < n → pdi i = pdi' i) {i : Nat} (hi : i < n) : mat ini pdi n i = mat ini' pdi' n i := scan_congr h1 h2 _ _ _ (by omega)

theorem mt_congr {ini' pdi' : Nat → Bool} (h1 : ∀ i, i < n → ini i = ini' i) (h2 : ∀ i, i < n → pdi i = pdi' i) {i : Nat} (hi : i < n) : mt ini pdi n i = mt ini' pdi' n i := by
  unfold mt; rw [h1 i hi, mat_congr h1 h2 hi]

theorem bg_congr {ini' pdi' : Nat → Bool} (h1 : ∀ i, i < n → ini i = ini' i) (h2 : ∀ i, i < n → pdi i = pdi' i) : ∀ k, k ≤ n → ∀ j, bg ini pdi n k j = bg ini' pdi' n k j
  | 0, _, _ => rfl
  | k + 1, hk, j => by rw [bg, bg, bg_congr h1 h2 k (by omega), mat_congr h1 h2 (by omega), h1 k (by omega)]

end Go.Proofs.YtkocpijloiamcaaDoor

/- Classes by their numbers: the numbers 0 to 22 of the thin package and the values of the package. No program in sight. -/
namespace Go.Proofs.YtkocpijloiamcaaDoor

/-- The class with a number; ON for a number that is none. -/
def cls (n : Int) : Int := if n < 0 ∨ 23 ≤ n then 10 else if n ≤ 13 then n else n + 2

/-- Is a value one of a list? -/
def memB (l : List Int) (c : Int) : Bool := l.contains c

theorem memB_iff {l : List Int} {c : Int} : memB l c = true ↔ c ∈ l := by unfold memB; simp
theorem memB_not {l : List Int} {c : Int} : memB l c = false ↔ ¬ c ∈ l := by unfold memB; simp

def iniB (n : Int) : Bool := decide (n = 19 ∨ n = 20 ∨ n = 21)
def pdiB (n : Int) : Bool := decide (n = 22)
def clsOk (n : Int) : Prop := 0 ≤ n ∧ n < 23

theorem cls_ini {n : Int} (h : clsOk n) : memB [21, 22, 23] (cls n) = iniB n := by
  unfold clsOk at h
  rw [Bool.eq_iff_iff, memB_iff]
  unfold iniB cls
  rw [if_neg (by omega), decide_eq_true_eq]
  simp only [List.mem_cons, List.not_mem_nil, or_false]
  split <;> omega

theorem cls_pdi {n : Int} (h : clsOk n) : (cls n == 24) = pdiB n := by
  unfold clsOk at h
  rw [Bool.eq_iff_iff]
  unfold pdiB cls
  rw [if_neg (by omega), decide_eq_true_eq, beq_iff_eq]
  split <;> omega

theorem cls_range (n : Int) : 0 ≤ cls n ∧ cls n ≤ 24 := by
  unfold cls
  split
  · omega
  · split <;> omega

/-- A paragraph: classes, at least one, B nowhere but at its end. -/
def paraB (n : Nat) (x : Nat → Int) : Bool := decide (0 < n ∧ ∀ i, i < n → 0 ≤ x i ∧ x i < 23 ∧ (x i = 7 → n ≤ i + 1))

end Go.Proofs.YtkocpijloiamcaaDoor

/- Initiators and PDIs by the numbers of classes. No program in sight. -/
namespace Go.Proofs.YtkocpijloiamcaaDoor

/-- Initiators and PDIs of a text of numbers. -/
def iniN (x : Nat → Int) (i : Nat) : Bool := iniB (x i)
def pdiN (x : Nat → Int) (i : Nat) : Bool := x i == 22

end Go.Proofs.YtkocpijloiamcaaDoor

/- What stands between an isolate initiator and its matching PDI leaves the state of X1 to X8 as it was. No program in sight. -/
namespace Go.Proofs.YtkocpijloiamcaaDoor
set_option linter.unusedVariables false
namespace Mst

/-- Alike as far as it counts. -/
structure Eqv (a b : Mst) : Prop where
  d : a.d = b.d
  lv : ∀ j, j < a.d → a.lv j = b.lv j
  ov : ∀ j, j < a.d → a.ov j = b.ov j
  iso : ∀ j, j < a.d → a.iso j = b.iso j
  oi : a.oi = b.oi
  oe : a.oe = b.oe
  vi : a.vi = b.vi

theorem cnt_congr {f g : Nat → Bool} : ∀ d, (∀ j, j < d → f j = g j) → cnt f d = cnt g d
  | 0, _ => rfl
  | d + 1, h => by rw [cnt, cnt, cnt_congr d (fun j hj => h j (by omega)), h d (by omega)]

theorem cnt_mono (f : Nat → Bool) {k : Nat} : ∀ d, k ≤ d → cnt f k ≤ cnt f d
  | 0, h => by have : k = 0 := by omega
               subst this; exact Nat.le_refl _
  | d + 1, h => by
    by_cases e : k = d + 1
    · subst e; exact Nat.le_refl _
    · have := cnt_mono f (k := k) d (by omega)
      rw [cnt]; omega

theorem below_ge {f : Nat → Bool} {k : Nat} (hk : f k = true) : ∀ d, k < d → k ≤ below f d
  | 0, h => absurd h (Nat.not_lt_zero _)
  | d + 1, h => by
    rw [below]
    by_cases q : f d = true
    · rw [if_pos q]; omega
    · rw [if_neg q]
      by_cases e : k = d
      · subst e; exact absurd hk q
      · exact below_ge hk d (by omega)

/-- Inside a valid isolate that was begun at a, at a depth. -/
structure InV (a : Mst) (l : Int) (D : Nat) (b : Mst) : Prop where
  d : a.d < b.d
  lv : ∀ j, j < a.d → b.lv j = a.lv j
  ov : ∀ j, j < a.d → b.ov j = a.ov j
  iso : ∀ j, j < a.d → b.iso j = a.iso j
  at_ : b.iso a.d = true
  lvl : b.lv a.d = l
  c : cnt b.iso b.d + b.oi = cnt a.iso a.d + D
  vi : b.vi = cnt b.iso b.d

/-- Inside an isolate that was too deep. -/
structure InO (a : Mst) (D : Nat) (b : Mst) : Prop where
  e : b = { a with oi := a.oi + D }

namespace InV
variable {a b : Mst} {l : Int} {D : Nat}

theorem cnt_at (h : InV a l D b) : cnt b.iso (a.d + 1) = cnt a.iso a.d + 1 := by
  rw [cnt, if_pos h.at_, cnt_congr a.d h.iso]

theorem cnt_ge (h : InV a l D b) : cnt a.iso a.d + 1 ≤ cnt b.iso b.d := by
  have := cnt_mono b.iso (k := a.d + 1) b.d h.d
  rw [h.cnt_at] at this; exact this

theorem begin_ (h : InV a l D b) (odd : Int) : InV a l (D + 1) (b.begin_ odd) := by
  unfold Mst.begin_
  have hd := h.d
  split
  · refine ⟨?_, fun j hj => ?_, fun j hj => ?_, fun j hj => ?_, ?_, ?_, ?_, ?_⟩
    · show a.d < b.d + 1; omega
    · show up b.lv b.d _ j = _; rw [up_ne _ _ (by omega)]; exact h.lv j hj
    · show up b.ov b.d _ j = _; rw [up_ne _ _ (by omega)]; exact h.ov j hj
    · show up b.iso b.d _ j = _; rw [up_ne _ _ (by omega)]; exact h.iso j hj
    · show up b.iso b.d _ a.d = _; rw [up_ne _ _ (by omega)]; exact h.at_
    · show up b.lv b.d _ a.d = _; rw [up_ne _ _ (by omega)]; exact h.lvl
    · show cnt (up b.iso b.d true) (b.d + 1) + b.oi = _
      have := h.c
      rw [cnt, cnt_up b.d b.d (Nat.le_refl _), up_at, if_pos rfl]; omega
    · show b.vi + 1 = cnt (up b.iso b.d true) (b.d + 1)
      have := h.vi
      rw [cnt, cnt_up b.d b.d (Nat.le_refl _), up_at, if_pos rfl]; omega
  · exact ⟨hd, h.lv, h.ov, h.iso, h.at_, h.lvl, by show cnt b.iso b.d + (b.oi + 1) = _; have := h.c; omega, h.vi⟩

theorem embed (h : InV a l D b) (odd av : Int) : InV a l D (b.embed odd av) := by
  unfold Mst.embed
  have hd := h.d
  split
  · refine ⟨?_, fun j hj => ?_, fun j hj => ?_, fun j hj => ?_, ?_, ?_, ?_, ?_⟩
    · show a.d < b.d + 1; omega
    · show up b.lv b.d _ j = _; rw [up_ne _ _ (by omega)]; exact h.lv j hj
    · show up b.ov b.d _ j = _; rw [up_ne _ _ (by omega)]; exact h.ov j hj
    · show up b.iso b.d _ j = _; rw [up_ne _ _ (by omega)]; exact h.iso j hj
    · show up b.iso b.d _ a.d = _; rw [up_ne _ _ (by omega)]; exact h.at_
    · show up b.lv b.d _ a.d = _; rw [up_ne _ _ (by omega)]; exact h.lvl
    · show cnt (up b.iso b.d false) (b.d + 1) + b.oi = _
      have := h.c
      rw [cnt, cnt_up b.d b.d (Nat.le_refl _), up_at, if_neg (by decide)]; omega
    · show b.vi = cnt (up b.iso b.d false) (b.d + 1)
      have := h.vi
      rw [cnt, cnt_up b.d b.d (Nat.le_refl _), up_at, if_neg (by decide)]; omega
  · split
    · exact ⟨hd, h.lv, h.ov, h.iso, h.at_, h.lvl, h.c, h.vi⟩
    · exact h

theorem pop (h : InV a l D b) : InV a l D b.pop := by
  unfold Mst.pop
  have hd := h.d
  split
  · exact h
  · split
    · exact ⟨hd, h.lv, h.ov, h.iso, h.at_, h.lvl, h.c, h.vi⟩
    · split
      · next q =>
        have q1 := q.1
        unfold Mst.tiso at q1
        have hne : a.d ≠ b.d - 1 := fun e => by rw [← e, h.at_] at q1; exact absurd q1 (by decide)
        obtain ⟨r, hr⟩ : ∃ r, b.d = r + 1 := ⟨b.d - 1, by omega⟩
        have hc := h.c
        have hv := h.vi
        rw [hr, Nat.add_sub_cancel] at q1
        have e1 : cnt b.iso b.d = cnt b.iso (b.d - 1) := by rw [hr, Nat.add_sub_cancel, cnt, if_neg (by rw [q1]; decide)]; rfl
        exact ⟨by show a.d < b.d - 1; omega, h.lv, h.ov, h.iso, h.at_, h.lvl, by show cnt b.iso (b.d - 1) + b.oi = _; omega, by show b.vi = cnt b.iso (b.d - 1); omega⟩
      · exact h

theorem close (h : InV a l (D + 1) b) (hD : 1 ≤ D) : InV a l D b.close := by
  unfold Mst.close
  have hd := h.d
  have hc := h.c
  have hv := h.vi
  have hg := h.cnt_ge
  split
  · exact ⟨hd, h.lv, h.ov, h.iso, h.at_, h.lvl, by show cnt b.iso b.d + (b.oi - 1) = _; omega, h.vi⟩
  · split
    · have hb := below_cnt (iso := b.iso) b.d (by omega)
      have hlt : a.d < below b.iso b.d := by
        rcases Nat.lt_or_ge a.d (below b.iso b.d) with h1 | h1
        · exact h1
        · have := cnt_mono b.iso (k := below b.iso b.d) a.d h1
          rw [cnt_congr a.d h.iso] at this
          omega
      exact ⟨hlt, h.lv, h.ov, h.iso, h.at_, h.lvl, by show cnt b.iso (below b.iso b.d) + b.oi = _; omega, by show b.vi - 1 = cnt b.iso (below b.iso b.d); omega⟩
    · omega

theorem last (h : InV a l 1 b) : b.oi = 0 ∧ 0 < b.vi ∧ below b.iso b.d = a.d := by
  have hd := h.d
  have hc := h.c
  have hv := h.vi
  have hg := h.cnt_ge
  refine ⟨by omega, by omega, ?_⟩
  have hb := below_cnt (iso := b.iso) b.d (by omega)
  have h1 := below_ge (f := b.iso) h.at_ b.d hd
  rcases Nat.lt_or_ge a.d (below b.iso b.d) with h2 | h2
  · have := cnt_mono b.iso (k := a.d + 1) (below b.iso b.d) h2
    rw [h.cnt_at] at this; omega
  · omega

theorem closed (h : InV a l 1 b) (h0 : a.oi = 0) (h1 : a.oe = 0) (h2 : a.vi = cnt a.iso a.d) : Eqv b.close a := by
  obtain ⟨q0, q1, q2⟩ := h.last
  have e : b.close = { b with oe := 0, d := below b.iso b.d, vi := b.vi - 1 } := by unfold Mst.close; rw [if_neg (by omega), if_pos q1]
  have hc := h.c
  have hv := h.vi
  rw [e]
  refine ⟨q2, fun j hj => h.lv j (by rw [← q2]; exact hj), fun j hj => h.ov j (by rw [← q2]; exact hj), fun j hj => h.iso j (by rw [← q2]; exact hj), by show b.oi = a.oi; omega, h1.symm, by show b.vi - 1 = a.vi; omega⟩
end InV

namespace InO
variable {a b : Mst} {D : Nat}
theorem begin_ (h : InO a D b) (hD : 1 ≤ D) (odd : Int) : InO a (D + 1) (b.begin_ odd) := by
  obtain ⟨rfl⟩ := h
  refine ⟨?_⟩
  unfold Mst.begin_
  rw [if_neg (fun r => by have := r.2.1; dsimp only at this; omega)]
  simp only [Nat.add_assoc]
theorem embed (h : InO a D b) (hD : 1 ≤ D) (odd av : Int) : InO a D (b.embed odd av) := by
  obtain ⟨rfl⟩ := h
  refine ⟨?_⟩
  unfold Mst.embed
  rw [if_neg (fun r => by have := r.2.1; dsimp only at this; omega), if_neg (by dsimp only; omega)]
theorem pop (h : InO a D b) (hD : 1 ≤ D) : InO a D b.pop := by
  obtain ⟨rfl⟩ := h
  refine ⟨?_⟩
  unfold Mst.pop
  rw [if_pos (by dsimp only; omega)]
theorem close (h : InO a (D + 1) b) : InO a D b.close := by
  obtain ⟨rfl⟩ := h
  refine ⟨?_⟩
  unfold Mst.close
  rw [if_pos (by dsimp only; omega)]
  simp only [show a.oi + (D + 1) - 1 = a.oi + D by omega]
end InO

/-- Inside of the isolate that an initiator of a parity begins at a. -/
def In (a : Mst) (odd : Int) (D : Nat) (b : Mst) : Prop := (a.room odd ∧ InV a (a.next odd) D b) ∨ (¬ a.room odd ∧ InO a D b)

theorem In.start {a : Mst} (hv : a.vi = cnt a.iso a.d) (odd : Int) : In a odd 1 (a.begin_ odd) := by
  unfold In Mst.begin_
  by_cases r : a.room odd
  · rw [if_pos r]
    refine .inl ⟨r, ?_, fun j hj => ?_, fun j hj => ?_, fun j hj => ?_, ?_, ?_, ?_, ?_⟩
    · show a.d < a.d + 1; omega
    · show up a.lv a.d _ j = _; rw [up_ne _ _ (by omega)]
    · show up a.ov a.d _ j = _; rw [up_ne _ _ (by omega)]
    · show up a.iso a.d _ j = _; rw [up_ne _ _ (by omega)]
    · show up a.iso a.d _ a.d = _; rw [up_at]
    · show up a.lv a.d _ a.d = _; rw [up_at]
    · show cnt (up a.iso a.d true) (a.d + 1) + a.oi = _
      rw [cnt, cnt_up a.d a.d (Nat.le_refl _), up_at, if_pos rfl, r.2.1]
    · show a.vi + 1 = cnt (up a.iso a.d true) (a.d + 1)
      rw [cnt, cnt_up a.d a.d (Nat.le_refl _), up_at, if_pos rfl, hv]
  · rw [if_neg r]
    exact .inr ⟨r, ⟨rfl⟩⟩

theorem In.step {a b : Mst} {odd : Int} {D : Nat} (h : In a odd D b) (hD : 1 ≤ D) (t fs : Int) :
    (iniB t = true → In a odd (D + 1) (b.step t fs)) ∧ (t = 22 → 2 ≤ D → In a odd (D - 1) (b.step t fs)) ∧ (iniB t = false → t ≠ 22 → In a odd D (b.step t fs)) := by
  have hI : iniB t = decide (t = 19 ∨ t = 20 ∨ t = 21) := rfl
  refine ⟨fun hi => ?_, fun ht h2 => ?_, fun hi ht => ?_⟩
  · rw [hI, decide_eq_true_eq] at hi
    have hb : ∀ o, In a odd (D + 1) (b.begin_ o) := fun o => by
      rcases h with ⟨r, h⟩ | ⟨r, h⟩
      · exact .inl ⟨r, h.begin_ o⟩
      · exact .inr ⟨r, h.begin_ hD o⟩
    unfold Mst.step
    rw [if_neg (by omega), if_neg (by omega), if_neg (by omega), if_neg (by omega), if_neg (by omega)]
    rcases hi with rfl | rfl | rfl
    · rw [if_neg (by omega), if_pos rfl]; exact hb _
    · rw [if_pos rfl]; exact hb _
    · rw [if_neg (by omega), if_neg (by omega), if_pos rfl]; exact hb _
  · subst ht
    have e : b.step 22 fs = b.close := by
      unfold Mst.step
      rw [if_neg (by omega), if_neg (by omega), if_neg (by omega), if_neg (by omega), if_neg (by omega), if_neg (by omega), if_neg (by omega), if_neg (by omega), if_pos rfl]
    rw [e]
    obtain ⟨D', rfl⟩ : ∃ D', D = D' + 1 := ⟨D - 1, by omega⟩
    rcases h with ⟨r, h⟩ | ⟨r, h⟩
    · exact .inl ⟨r, h.close (by omega)⟩
    · exact .inr ⟨r, h.close⟩
  · rw [hI, decide_eq_false_iff_not] at hi
    have he : ∀ o s, In a odd D (b.embed o s) := fun o s => by
      rcases h with ⟨r, h⟩ | ⟨r, h⟩
      · exact .inl ⟨r, h.embed o s⟩
      · exact .inr ⟨r, h.embed hD o s⟩
    unfold Mst.step
    split
    · exact he _ _
    · split
      · exact he _ _
      · split
        · exact he _ _
        · split
          · exact he _ _
          · split
            · rcases h with ⟨r, h⟩ | ⟨r, h⟩
              · exact .inl ⟨r, h.pop⟩
              · exact .inr ⟨r, h.pop hD⟩
            · repeat rw [if_neg (by omega)]
              exact h

theorem In.closed {a b : Mst} {odd : Int} (h : In a odd 1 b) (h2 : a.vi = cnt a.iso a.d) : Eqv b.close a := by
  rcases h with ⟨r, h⟩ | ⟨r, h⟩
  · exact h.closed r.2.1 r.2.2 h2
  · have : b.close = a := (h.close (D := 0)).e
    rw [this]
    exact ⟨rfl, fun _ _ => rfl, fun _ _ => rfl, fun _ _ => rfl, rfl, rfl, rfl⟩
end Mst

section
variable {x fs : Nat → Int} {base : Int} {n : Nat}

/-- The parity that an initiator asks for. -/
def oddOf (t fs : Int) : Int := if t = 20 then 1 else if t = 19 then 0 else fs

theorem step_ini {m : Mst} {t f : Int} (h : iniB t = true) : m.step t f = m.begin_ (oddOf t f) := by
  unfold iniB at h
  rw [decide_eq_true_eq] at h
  unfold Mst.step oddOf
  rw [if_neg (by omega), if_neg (by omega), if_neg (by omega), if_neg (by omega), if_neg (by omega)]
  rcases h with rfl | rfl | rfl
  · rw [if_neg (by omega), if_pos rfl, if_neg (by omega), if_pos rfl]
  · rw [if_pos rfl, if_pos rfl]
  · rw [if_neg (by omega), if_neg (by omega), if_pos rfl, if_neg (by omega), if_neg (by omega)]

theorem step_pdi {m : Mst} {f : Int} : m.step 22 f = m.close := by
  unfold Mst.step
  rw [if_neg (by omega), if_neg (by omega), if_neg (by omega), if_neg (by omega), if_neg (by omega), if_neg (by omega), if_neg (by omega), if_neg (by omega), if_pos rfl]

/-- Along a scan. -/
theorem in_scan {a : Mst} {odd : Int} (hv : a.vi = Mst.cnt a.iso a.d) : ∀ (f j D : Nat), j + f = n → 1 ≤ D → Mst.In a odd D (mst x fs base j) →
    (∀ k, j ≤ k → k ≤ scan (iniN x) (pdiN x) n f j D → ∃ D', 1 ≤ D' ∧ Mst.In a odd D' (mst x fs base k)) ∧ (scan (iniN x) (pdiN x) n f j D < n → x (scan (iniN x) (pdiN x) n f j D) = 22 ∧ Mst.In a odd 1 (mst x fs base (scan (iniN x) (pdiN x) n f j D)))
  | 0, j, D, hj, hD, h => ⟨fun k h1 h2 => by
      rw [scan_none] at h2
      obtain rfl : k = j := by omega
      exact ⟨D, hD, h⟩, fun h => by rw [scan_none] at h; omega⟩
  | f + 1, j, D, hj, hD, h => by
    have hs := h.step hD (x j) (fs j)
    have hm : mst x fs base (j + 1) = (mst x fs base j).step (x j) (fs j) := rfl
    rw [← hm] at hs
    have go : ∀ D', 1 ≤ D' → Mst.In a odd D' (mst x fs base (j + 1)) → scan (iniN x) (pdiN x) n (f + 1) j D = scan (iniN x) (pdiN x) n f (j + 1) D' →
        (∀ k, j ≤ k → k ≤ scan (iniN x) (pdiN x) n (f + 1) j D → ∃ D', 1 ≤ D' ∧ Mst.In a odd D' (mst x fs base k)) ∧ (scan (iniN x) (pdiN x) n (f + 1) j D < n → x (scan (iniN x) (pdiN x) n (f + 1) j D) = 22 ∧ Mst.In a odd 1 (mst x fs base (scan (iniN x) (pdiN x) n (f + 1) j D))) := fun D' hD' hI e => by
      rw [e]
      obtain ⟨r1, r2⟩ := in_scan hv f (j + 1) D' (by omega) hD' hI
      refine ⟨fun k h1 h2 => ?_, r2⟩
      by_cases ek : k = j
      · subst ek; exact ⟨D, hD, h⟩
      · exact r1 k (by omega) h2
    by_cases h1 : iniN x j = true
    · exact go (D + 1) (by omega) (hs.1 h1) (scan_ini h1)
    · have h1' : iniN x j = false := by simpa using h1
      by_cases h2 : pdiN x j = true
      · have h22 : x j = 22 := by unfold pdiN at h2; simpa using h2
        by_cases h3 : D = 1
        · subst h3
          rw [scan_hit h1' h2]
          refine ⟨fun k q1 q2 => ?_, fun _ => ⟨h22, h⟩⟩
          obtain rfl : k = j := by omega
          exact ⟨1, hD, h⟩
        · exact go (D - 1) (by omega) (hs.2.1 h22 (by omega)) (scan_pdi h1' h2 h3)
      · have h2' : pdiN x j = false := by simpa using h2
        have h22 : x j ≠ 22 := fun e => by unfold pdiN at h2'; rw [e] at h2'; exact absurd h2' (by decide)
        exact go D hD (hs.2.2 h1' h22) (scan_other h1' h2')

/-- From an initiator on up to its end. -/
theorem in_isolate (hb : base ≤ 125) {i : Nat} (hi : i < n) (h : iniN x i = true) :
    (∀ k, i < k → k ≤ mat (iniN x) (pdiN x) n i → ∃ D, 1 ≤ D ∧ Mst.In (mst x fs base i) (oddOf (x i) (fs i)) D (mst x fs base k)) ∧
    (mat (iniN x) (pdiN x) n i < n → x (mat (iniN x) (pdiN x) n i) = 22 ∧ Mst.Eqv (mst x fs base (mat (iniN x) (pdiN x) n i)).close (mst x fs base i)) := by
  have ok := mst_ok (x := x) (fs := fs) hb i
  have e : mst x fs base (i + 1) = (mst x fs base i).begin_ (oddOf (x i) (fs i)) := step_ini h
  have h1 : Mst.In (mst x fs base i) (oddOf (x i) (fs i)) 1 (mst x fs base (i + 1)) := by rw [e]; exact Mst.In.start ok.vi _
  have := in_scan (x := x) (fs := fs) (base := base) (n := n) ok.vi (n - (i + 1)) (i + 1) 1 (by omega) (Nat.le_refl _) h1
  exact ⟨fun k hk hk2 => this.1 k hk hk2, fun hm => ⟨(this.2 hm).1, (this.2 hm).2.closed ok.vi⟩⟩

theorem Mst.Eqv.top {a b : Mst} (h : Mst.Eqv a b) (h1 : 1 ≤ a.d) : a.top = b.top := by
  unfold Mst.top
  rw [h.lv _ (by omega), h.d]

/-- A matching PDI lies on the level of its initiator. -/
theorem lvl_match (hb : base ≤ 125) {i : Nat} (hi : i < n) (h : iniN x i = true) (hm : mat (iniN x) (pdiN x) n i < n) : lvl x fs base (mat (iniN x) (pdiN x) n i) = lvl x fs base i := by
  obtain ⟨h22, he⟩ := (in_isolate (fs := fs) hb hi h).2 hm
  have hi' : x i = 19 ∨ x i = 20 ∨ x i = 21 := by unfold iniN iniB at h; simpa using h
  have ok := mst_ok (x := x) (fs := fs) hb i
  unfold lvl
  rw [if_pos h22, if_neg (by omega), if_neg (by omega), he.top (by rw [he.d]; exact ok.d1)]

/-- Inside of an isolate all lies higher, or all lies on the level of its initiator. -/
theorem lvl_inside (h0 : 0 ≤ base) (hb : base ≤ 125) {i : Nat} (hi : i < n) (h : iniN x i = true) :
    (∀ k, i < k → k < mat (iniN x) (pdiN x) n i → x k ≠ 7 → lvl x fs base i < lvl x fs base k) ∨ (∀ k, i < k → k < mat (iniN x) (pdiN x) n i → x k ≠ 7 → lvl x fs base k = lvl x fs base i) := by
  obtain ⟨hin, _⟩ := in_isolate (fs := fs) hb hi h
  have hi' : x i = 19 ∨ x i = 20 ∨ x i = 21 := by unfold iniN iniB at h; simpa using h
  have el : lvl x fs base i = (mst x fs base i).top := by unfold lvl; rw [if_neg (by omega), if_neg (by omega)]
  -- the state by which the level of k is told
  have key : ∀ k, i < k → k < mat (iniN x) (pdiN x) n i → x k ≠ 7 → ∃ (b : Mst) (q D : Nat), Mst.Ok base q b ∧ Mst.In (mst x fs base i) (oddOf (x i) (fs i)) D b ∧ lvl x fs base k = b.top := fun k h1 h2 h7 => by
    by_cases e : x k = 22
    · obtain ⟨D, hD, hI⟩ := hin (k + 1) (by omega) (by omega)
      have e2 : mst x fs base (k + 1) = (mst x fs base k).close := by show (mst x fs base k).step (x k) (fs k) = _; rw [e, step_pdi]
      rw [e2] at hI
      exact ⟨_, k + 1, D, (mst_ok (x := x) (fs := fs) hb k).close, hI, by unfold lvl; rw [if_pos e]⟩
    · obtain ⟨D, hD, hI⟩ := hin k h1 (by omega)
      exact ⟨_, k, D, mst_ok hb k, hI, by unfold lvl; rw [if_neg e, if_neg h7]⟩
  by_cases r : (mst x fs base i).room (oddOf (x i) (fs i))
  · left
    intro k h1 h2 h7
    obtain ⟨b, q, D, ok, hI, hk⟩ := key k h1 h2 h7
    rcases hI with ⟨_, hI⟩ | ⟨r', _⟩
    · rw [hk, el]
      have hd := hI.d
      have hg := Mst.Ok.next_gt (mst x fs base i) (oddOf (x i) (fs i))
      have hup : ∀ j, (mst x fs base i).d ≤ j → j < b.d → b.lv (mst x fs base i).d ≤ b.lv j := by
        intro j hj
        induction j with
        | zero => intro _; have : (mst x fs base i).d = 0 := by omega
                  rw [this]; exact Int.le_refl _
        | succ j ih =>
          intro hlt
          by_cases e : (mst x fs base i).d = j + 1
          · rw [e]; exact Int.le_refl _
          · have := ih (by omega) (by omega)
            have := ok.up j hlt
            omega
      have := hup (b.d - 1) (by omega) (by omega)
      have hl := hI.lvl
      unfold Mst.top at hg ⊢
      omega
    · exact absurd r r'
  · right
    intro k h1 h2 h7
    obtain ⟨b, q, D, ok, hI, hk⟩ := key k h1 h2 h7
    rcases hI with ⟨r', _⟩ | ⟨_, hI⟩
    · exact absurd r' r
    · rw [hk, el, hI.e]; rfl
end

end Go.Proofs.YtkocpijloiamcaaDoor

/- More on BD9 in plain Lean: isolates are nested; and P2, P3: the first strong character outside of isolates. No program in sight. -/
namespace Go.Proofs.YtkocpijloiamcaaDoor
variable {ini pdi : Nat → Bool} {n : Nat}

/-- A greater depth is closed later. -/
theorem scan_deeper : ∀ (f q a d : Nat), q + f ≤ n → 1 ≤ a → scan ini pdi n f q a ≤ scan ini pdi n f q (a + d) ∧ (1 ≤ d → scan ini pdi n f q a < n → scan ini pdi n f q a < scan ini pdi n f q (a + d))
  | 0, _, _, _, _, _ => ⟨Nat.le_refl _, fun _ h => absurd h (by rw [scan]; omega)⟩
  | f + 1, q, a, d, h, ha => by
    have ih := fun a => scan_deeper f (q + 1) a d (by omega)
    by_cases h1 : ini q = true
    · rw [scan_ini h1, scan_ini h1, show a + d + 1 = a + 1 + d by omega]; exact ih (a + 1) (by omega)
    · have h1' : ini q = false := by simpa using h1
      by_cases h2 : pdi q = true
      · by_cases h3 : a = 1
        · subst h3
          rw [scan_hit h1' h2]
          by_cases h4 : d = 0
          · subst h4; rw [Nat.add_zero, scan_hit h1' h2]; exact ⟨Nat.le_refl _, fun h => by omega⟩
          · rw [scan_pdi h1' h2 (by omega)]
            have := scan_ge (ini := ini) (pdi := pdi) (n := n) f (q + 1) (1 + d - 1) (by omega)
            exact ⟨by omega, fun _ _ => by omega⟩
        · rw [scan_pdi h1' h2 h3, scan_pdi h1' h2 (by omega), show a + d - 1 = a - 1 + d by omega]; exact ih (a - 1) (by omega)
      · have h2' : pdi q = false := by simpa using h2
        rw [scan_other h1' h2', scan_other h1' h2']; exact ih a ha

/-- The scan of an initiator comes by each place up to its end, at a depth of at least 1. -/
theorem mat_passes {i : Nat} (hi : i < n) : ∀ q, i + 1 ≤ q → q ≤ mat ini pdi n i → ∃ d, 1 ≤ d ∧ mat ini pdi n i = scan ini pdi n (n - q) q d := by
  intro q hq
  induction q with
  | zero => omega
  | succ q ih =>
    intro hle
    by_cases e : q = i
    · subst e; exact ⟨1, Nat.le_refl _, rfl⟩
    · obtain ⟨d, hd, hm⟩ := ih (by omega) (by omega)
      have hle2 := mat_le (ini := ini) (pdi := pdi) hi
      rw [show n - q = n - (q + 1) + 1 by omega] at hm
      by_cases h1 : ini q = true
      · rw [scan_ini h1] at hm; exact ⟨d + 1, by omega, hm⟩
      · have h1' : ini q = false := by simpa using h1
        by_cases h2 : pdi q = true
        · by_cases h3 : d = 1
          · subst h3; rw [scan_hit h1' h2] at hm; omega
          · rw [scan_pdi h1' h2 h3] at hm; exact ⟨d - 1, by omega, hm⟩
        · have h2' : pdi q = false := by simpa using h2
          rw [scan_other h1' h2'] at hm; exact ⟨d, hd, hm⟩

theorem mat_nested {i j : Nat} (hij : i < j) (hj : j < mat ini pdi n i) (hn : j < n) (h : ini j = true) : mat ini pdi n j ≤ mat ini pdi n i ∧ (mat ini pdi n i < n → mat ini pdi n j < mat ini pdi n i) := by
  obtain ⟨d, hd, hm⟩ := mat_passes (ini := ini) (pdi := pdi) (show i < n by omega) j (by omega) (by omega)
  rw [show n - j = n - (j + 1) + 1 by omega, scan_ini h] at hm
  have h2 := scan_deeper (ini := ini) (pdi := pdi) (n := n) (n - (j + 1)) (j + 1) 1 d (by omega) (Nat.le_refl _)
  rw [Nat.add_comm 1 d, ← hm] at h2
  refine ⟨h2.1, fun hlt => h2.2 hd ?_⟩
  have := h2.1
  omega

theorem scan_at : ∀ f j d, j + f ≤ n → scan ini pdi n f j d < n → pdi (scan ini pdi n f j d) = true
  | 0, _, _, _, h => absurd h (by rw [scan]; omega)
  | f + 1, j, d, h, hlt => by
    have ih := fun d => scan_at f (j + 1) d (by omega)
    by_cases h1 : ini j = true
    · rw [scan_ini h1] at hlt ⊢; exact ih _ hlt
    · have h1' : ini j = false := by simpa using h1
      by_cases h2 : pdi j = true
      · by_cases h3 : d = 1
        · subst h3; rw [scan_hit h1' h2]; exact h2
        · rw [scan_pdi h1' h2 h3] at hlt ⊢; exact ih _ hlt
      · have h2' : pdi j = false := by simpa using h2
        rw [scan_other h1' h2'] at hlt ⊢; exact ih _ hlt

theorem mat_pdi {i : Nat} (hi : i < n) (h : mat ini pdi n i < n) : pdi (mat ini pdi n i) = true := scan_at _ _ _ (by omega) h

theorem mat_inj {i j : Nat} (hi : i < n) (hj : j < n) (h1 : ini i = true) (h2 : ini j = true) (he : mat ini pdi n i = mat ini pdi n j) (hlt : mat ini pdi n i < n) : i = j := by
  have key : ∀ {i j : Nat}, i < n → j < n → ini j = true → mat ini pdi n i = mat ini pdi n j → mat ini pdi n i < n → ¬ i < j := by
    intro i j hi hj h2 he hlt hij
    by_cases hb : j < mat ini pdi n i
    · have := (mat_nested hij hb hj h2).2 hlt; omega
    · have := mat_gt (ini := ini) (pdi := pdi) hj; omega
  rcases Nat.lt_trichotomy i j with h | h | h
  · exact absurd h (key hi hj h2 he hlt)
  · exact h
  · exact absurd h (key hj hi h1 he.symm (by omega))

/-- What the list of matching initiators holds. -/
theorem bg_some {k j : Nat} (hk : k ≤ n) (h : 0 ≤ bg ini pdi n k j) : ∃ m, m < k ∧ ini m = true ∧ mat ini pdi n m = j ∧ j < n ∧ bg ini pdi n k j = m := by
  induction k with
  | zero => rw [bg] at h; omega
  | succ k ih =>
    by_cases hc : ini k = true ∧ mat ini pdi n k < n ∧ j = mat ini pdi n k
    · exact ⟨k, by omega, hc.1, hc.2.2.symm, by omega, by rw [bg, if_pos hc]⟩
    · rw [bg, if_neg hc] at h
      obtain ⟨m, h1, h2, h3, h4, h5⟩ := ih (by omega) h
      exact ⟨m, by omega, h2, h3, h4, by rw [bg, if_neg hc]; exact h5⟩

theorem bg_of {m : Nat} (hm : ini m = true) (hlt : mat ini pdi n m < n) (hmn : m < n) : ∀ k, m < k → k ≤ n → bg ini pdi n k (mat ini pdi n m) = m := by
  intro k hk hkn
  induction k with
  | zero => omega
  | succ k ih =>
    by_cases e : k = m
    · subst e; rw [bg, if_pos ⟨hm, hlt, rfl⟩]
    · rw [bg, if_neg, ih (by omega) (by omega)]
      rintro ⟨h1, h2, h3⟩
      exact e (mat_inj (by omega) hmn h1 hm h3.symm h2)

/-- P2 and P3 from a place on, up to another one: 0 at L, 1 at R or AL, d where there is none. The first number bounds the steps. -/
def fsr (sL sR : Nat → Bool) (jmp : Nat → Nat) (d : Int) (to : Nat) : Nat → Nat → Int
  | 0, _ => d
  | f + 1, i => if to ≤ i then d else if sL i = true then 0 else if sR i = true then 1 else fsr sL sR jmp d to f (jmp i)

def jmp (ini pdi : Nat → Bool) (n i : Nat) : Nat := if ini i = true then mat ini pdi n i + 1 else i + 1

section
variable {sL sR : Nat → Bool} {jm : Nat → Nat} {d : Int} {to : Nat}
theorem fsr_end {f i : Nat} (h : to ≤ i) : fsr sL sR jm d to f i = d := by cases f with
  | zero => rfl
  | succ f => rw [fsr, if_pos h]
theorem fsr_L {f i : Nat} (h : i < to) (h1 : sL i = true) : fsr sL sR jm d to (f + 1) i = 0 := by rw [fsr, if_neg (by omega), if_pos h1]
theorem fsr_R {f i : Nat} (h : i < to) (h1 : sL i = false) (h2 : sR i = true) : fsr sL sR jm d to (f + 1) i = 1 := by rw [fsr, if_neg (by omega), if_neg (by rw [h1]; decide), if_pos h2]
theorem fsr_next {f i : Nat} (h : i < to) (h1 : sL i = false) (h2 : sR i = false) : fsr sL sR jm d to (f + 1) i = fsr sL sR jm d to f (jm i) := by rw [fsr, if_neg (by omega), if_neg (by rw [h1]; decide), if_neg (by rw [h2]; decide)]

/-- More fuel than places changes nothing. -/
theorem fsr_fuel (hj : ∀ i, i < jm i) : ∀ f g i, to ≤ i + f → to ≤ i + g → fsr sL sR jm d to f i = fsr sL sR jm d to g i
  | 0, g, i, h, _ => by rw [fsr_end (f := g) (by omega)]; rfl
  | f + 1, 0, i, _, h => by rw [fsr_end (f := f + 1) (by omega)]; rfl
  | f + 1, g + 1, i, h1, h2 => by
    have := hj i
    rw [fsr, fsr, fsr_fuel hj f g (jm i) (by omega) (by omega)]
end

theorem fsr_congr {sL sR sL' sR' : Nat → Bool} {jm jm' : Nat → Nat} {d : Int} {to : Nat} (h1 : ∀ i, i < to → sL i = sL' i) (h2 : ∀ i, i < to → sR i = sR' i) (h3 : ∀ i, i < to → jm i = jm' i) : ∀ f i, fsr sL sR jm d to f i = fsr sL' sR' jm' d to f i
  | 0, _ => rfl
  | f + 1, i => by
    by_cases h : to ≤ i
    · rw [fsr_end h, fsr_end h]
    · rw [fsr, fsr, h1 i (by omega), h2 i (by omega), h3 i (by omega), fsr_congr h1 h2 h3 f]

end Go.Proofs.YtkocpijloiamcaaDoor

/- Runs that are put together, in plain Lean: chains of runs over a successor, and how the reference finds them. No program in sight. -/
namespace Go.Proofs.YtkocpijloiamcaaDoor

/-- The chain from run r on, of runs below q. -/
def chT (R : List (List Nat)) (nx : Nat → Option Nat) (q : Nat) : Nat → Nat → List Nat
  | 0, r => R.getD r []
  | f + 1, r => R.getD r [] ++ (match nx r with
    | some r' => if r' < q then chT R nx q f r' else []
    | none => [])

/-- Its last run. -/
def endT (nx : Nat → Option Nat) (q : Nat) : Nat → Nat → Nat
  | 0, r => r
  | f + 1, r => match nx r with
    | some r' => if r' < q then endT nx q f r' else r
    | none => r

structure Succ (m : Nat) (nx : Nat → Option Nat) : Prop where
  lt : ∀ r r', nx r = some r' → r < r' ∧ r' < m
  inj : ∀ r1 r2 q, nx r1 = some q → nx r2 = some q → r1 = r2

section
variable {R : List (List Nat)} {nx : Nat → Option Nat} {m : Nat}

theorem endT_spec (H : Succ m nx) (q : Nat) : ∀ f r, r < q → q ≤ r + f → (∀ r', nx (endT nx q f r) = some r' → q ≤ r') ∧ endT nx q f r < q ∧ r ≤ endT nx q f r
  | 0, r, h1, h2 => by omega
  | f + 1, r, h1, h2 => by
    unfold endT
    cases e : nx r with
    | none => exact ⟨fun r' h => (by rw [e] at h; cases h), h1, Nat.le_refl _⟩
    | some r' =>
      have hl := H.lt r r' e
      by_cases h : r' < q
      · simp only [if_pos h]
        have := endT_spec H q f r' h (by omega)
        exact ⟨this.1, this.2.1, by omega⟩
      · simp only [if_neg h]
        exact ⟨fun r2 h2 => by rw [e] at h2; cases h2; omega, h1, Nat.le_refl _⟩

/-- One more run. -/
theorem chT_step (H : Succ m nx) (q : Nat) : ∀ f r, r < q → q ≤ r + f → chT R nx (q + 1) (f + 1) r = chT R nx q f r ++ (if nx (endT nx q f r) = some q then R.getD q [] else [])
  | 0, r, h1, h2 => by omega
  | f + 1, r, h1, h2 => by
    rw [chT, chT, endT]
    cases e : nx r with
    | none => simp [e]
    | some r' =>
      have hl := H.lt r r' e
      by_cases h : r' < q
      · simp only [if_pos h, if_pos (show r' < q + 1 by omega)]
        rw [chT_step H q f r' h (by omega), List.append_assoc]
      · simp only [if_neg h]
        by_cases h2 : r' = q
        · subst h2
          rw [if_pos (by omega), if_pos e, List.append_nil]
          congr 1
          rw [chT]
          cases e2 : nx r' with
          | none => simp
          | some r2 =>
            have := (H.lt r' r2 e2).1
            simp only [if_neg (show ¬ r2 < r' + 1 by omega), List.append_nil]
        · rw [if_neg (show ¬ r' < q + 1 by omega), if_neg (by rw [e]; intro h3; cases h3; exact h2 rfl)]; simp

/-- Enough is enough. -/
theorem chT_fuel (H : Succ m nx) (q : Nat) : ∀ f g r, q ≤ r + f → q ≤ r + g → r < q → chT R nx q f r = chT R nx q g r
  | 0, g, r, h1, _, h3 => by omega
  | f + 1, 0, r, _, h2, h3 => by omega
  | f + 1, g + 1, r, h1, h2, h3 => by
    rw [chT, chT]
    cases e : nx r with
    | none => rfl
    | some r' =>
      have hl := H.lt r r' e
      by_cases h : r' < q
      · simp only [if_pos h]
        rw [chT_fuel H q f g r' (by omega) (by omega) h]
      · simp only [if_neg h]

theorem endT_fuel (H : Succ m nx) (q : Nat) : ∀ f g r, q ≤ r + f → q ≤ r + g → r < q → endT nx q f r = endT nx q g r
  | 0, g, r, h1, _, h3 => by omega
  | f + 1, 0, r, _, h2, h3 => by omega
  | f + 1, g + 1, r, h1, h2, h3 => by
    rw [endT, endT]
    cases e : nx r with
    | none => rfl
    | some r' =>
      have hl := H.lt r r' e
      by_cases h : r' < q
      · simp only [if_pos h]
        rw [endT_fuel H q f g r' (by omega) (by omega) h]
      · simp only [if_neg h]

/-- The chain of runs below q from r on. -/
def chn (R : List (List Nat)) (nx : Nat → Option Nat) (q r : Nat) : List Nat := chT R nx q q r
def chE (nx : Nat → Option Nat) (q r : Nat) : Nat := endT nx q q r

theorem chn_step (H : Succ m nx) {q r : Nat} (h : r < q) : chn R nx (q + 1) r = chn R nx q r ++ (if nx (chE nx q r) = some q then R.getD q [] else []) := by
  unfold chn chE
  exact chT_step H q q r h (by omega)

theorem chn_new (H : Succ m nx) (q : Nat) : chn R nx (q + 1) q = R.getD q [] := by
  unfold chn
  rw [chT]
  cases e : nx q with
  | none => simp
  | some r2 =>
    have := (H.lt q r2 e).1
    simp only [if_neg (show ¬ r2 < q + 1 by omega), List.append_nil]

theorem chE_spec (H : Succ m nx) {q r : Nat} (h : r < q) : (∀ r', nx (chE nx q r) = some r' → q ≤ r') ∧ chE nx q r < q ∧ r ≤ chE nx q r := endT_spec H q q r h (by omega)

/-- The last place of a chain is that of its last run. -/
theorem chT_last (H : Succ m nx) (hne : ∀ r, r < m → R.getD r [] ≠ []) (q : Nat) (hq : q ≤ m) : ∀ f r, r < q → q ≤ r + f → (chT R nx q f r).getLast? = (R.getD (endT nx q f r) []).getLast?
  | 0, r, h1, h2 => by omega
  | f + 1, r, h1, h2 => by
    rw [chT, endT]
    cases e : nx r with
    | none => simp
    | some r' =>
      have hl := H.lt r r' e
      by_cases h : r' < q
      · simp only [if_pos h]
        have ih := chT_last H hne q hq f r' h (by omega)
        have hn := hne (endT nx q f r') (by have := (endT_spec H q f r' h (by omega)).2.1; omega)
        rw [List.getLast?_append, ih]
        cases e2 : (R.getD (endT nx q f r') []).getLast? with
        | none => exact absurd (List.getLast?_eq_none_iff.1 e2) hn
        | some y => rfl
      · simp only [if_neg h, List.append_nil]

theorem chn_last (H : Succ m nx) (hne : ∀ r, r < m → R.getD r [] ≠ []) {q r : Nat} (hq : q ≤ m) (h : r < q) : (chn R nx q r).getLast? = (R.getD (chE nx q r) []).getLast? := chT_last H hne q hq q r h (by omega)

/-- The run ahead of a run: nx turned round. -/
structure Pred (nx pd : Nat → Option Nat) : Prop where
  iff : ∀ r q, nx r = some q ↔ pd q = some r

def headB (pd : Nat → Option Nat) (q : Nat) : Bool := (pd q).isNone

/-- The first run of the chain on which a run lies. -/
def root (pd : Nat → Option Nat) : Nat → Nat → Nat
  | 0, r => r
  | f + 1, r => match pd r with
    | some p => root pd f p
    | none => r

variable {pd : Nat → Option Nat}

theorem root_fuel (H : Succ m nx) (Q : Pred nx pd) : ∀ f g r, r ≤ f → r ≤ g → root pd f r = root pd g r
  | 0, 0, _, _, _ => rfl
  | 0, g + 1, r, h1, _ => by
    rw [root, root]
    cases e : pd r with
    | none => rfl
    | some p => have := (H.lt p r ((Q.iff p r).2 e)).1; omega
  | f + 1, 0, r, _, h2 => by
    rw [root, root]
    cases e : pd r with
    | none => rfl
    | some p => have := (H.lt p r ((Q.iff p r).2 e)).1; omega
  | f + 1, g + 1, r, h1, h2 => by
    rw [root, root]
    cases e : pd r with
    | none => rfl
    | some p =>
      have := (H.lt p r ((Q.iff p r).2 e)).1
      exact root_fuel H Q f g p (by omega) (by omega)

theorem root_next (H : Succ m nx) (Q : Pred nx pd) {r r' : Nat} (h : nx r = some r') : root pd r' r' = root pd r r := by
  have hl := (H.lt r r' h).1
  obtain ⟨k, rfl⟩ : ∃ k, r' = k + 1 := ⟨r' - 1, by omega⟩
  have e : pd (k + 1) = some r := (Q.iff r (k + 1)).1 h
  rw [root, e]
  exact root_fuel H Q k r r (by omega) (Nat.le_refl _)

theorem root_end (H : Succ m nx) (Q : Pred nx pd) (q : Nat) : ∀ f r, root pd (endT nx q f r) (endT nx q f r) = root pd r r
  | 0, _ => rfl
  | f + 1, r => by
    rw [endT]
    cases e : nx r with
    | none => rfl
    | some r' =>
      by_cases h : r' < q
      · simp only [if_pos h]
        rw [root_end H Q q f r', root_next H Q e]
      · simp only [if_neg h]

theorem root_head {r : Nat} (h : headB pd r = true) (f : Nat) : root pd f r = r := by
  cases f with
  | zero => rfl
  | succ f =>
    rw [root]
    unfold headB at h
    cases e : pd r with
    | none => rfl
    | some p => rw [e] at h; cases h

/-- Two chains do not end in the same run. -/
theorem chE_inj (H : Succ m nx) (Q : Pred nx pd) {q a b : Nat} (h1 : headB pd a = true) (h2 : headB pd b = true) (e : chE nx q a = chE nx q b) : a = b := by
  have ha := root_end H Q q q a
  have hb := root_end H Q q q b
  unfold chE at e
  rw [e] at ha
  rw [root_head h1] at ha
  rw [root_head h2] at hb
  rw [← ha, hb]

/-- Each run that some run follows from beyond is the end of a chain. -/
theorem head_of (H : Succ m nx) (Q : Pred nx pd) (q : Nat) : ∀ r, r < q → (∀ r', nx r = some r' → q ≤ r') → ∃ h, h ≤ r ∧ headB pd h = true ∧ chE nx q h = r := by
  have key : ∀ r s, s < q → chE nx q s = r → ∃ h, h ≤ s ∧ headB pd h = true ∧ chE nx q h = r := by
    intro r s
    induction s using Nat.strongRecOn with
    | _ s ih =>
      intro hs he
      cases e : pd s with
      | none => exact ⟨s, Nat.le_refl _, by unfold headB; rw [e]; rfl, he⟩
      | some p =>
        have hp := (Q.iff p s).2 e
        have hl := H.lt p s hp
        have hep : chE nx q p = r := by
          rw [← he]
          unfold chE
          obtain ⟨q', rfl⟩ : ∃ q', q = q' + 1 := ⟨q - 1, by omega⟩
          have h1 : endT nx (q' + 1) (q' + 1) p = endT nx (q' + 1) q' s := by
            rw [endT, hp]; simp only [if_pos hs]
          rw [h1]
          exact endT_fuel H (q' + 1) q' (q' + 1) s (by omega) (by omega) hs
        obtain ⟨h, h1, h2, h3⟩ := ih p hl.1 (by omega) hep
        exact ⟨h, by omega, h2, h3⟩
  intro r hr hn
  have he : chE nx q r = r := by
    unfold chE
    obtain ⟨q', rfl⟩ : ∃ q', q = q' + 1 := ⟨q - 1, by omega⟩
    rw [endT]
    cases e : nx r with
    | none => rfl
    | some r' =>
      have := hn r' e
      simp only [if_neg (show ¬ r' < q' + 1 by omega)]
  obtain ⟨h, h1, h2, h3⟩ := key r r hr he
  exact ⟨h, h1, h2, h3⟩

/-- The chains of runs below q, by their first runs. -/
def heads (pd : Nat → Option Nat) (q : Nat) : List Nat := (List.range q).filter (headB pd)
def chains (R : List (List Nat)) (nx pd : Nat → Option Nat) (q : Nat) : List (List Nat) := (heads pd q).map (chn R nx q)

theorem heads_mem {q h : Nat} : h ∈ heads pd q ↔ h < q ∧ headB pd h = true := by unfold heads; simp

theorem chains_step (H : Succ m nx) (q : Nat) : chains R nx pd (q + 1) = (heads pd q).map (fun h => chn R nx q h ++ (if nx (chE nx q h) = some q then R.getD q [] else [])) ++ (if headB pd q = true then [R.getD q []] else []) := by
  unfold chains heads
  rw [List.range_succ, List.filter_append, List.map_append]
  congr 1
  · refine List.map_congr_left fun h hh => ?_
    have := (List.mem_filter.1 hh).1
    exact chn_step H (by simpa using this)
  · by_cases e : headB pd q = true
    · rw [if_pos e]; simp [e, chn_new H q]
    · rw [if_neg e]; simp [e]

/-- A run that begins no chain goes to the end of one. -/
theorem some_end (H : Succ m nx) (Q : Pred nx pd) {q : Nat} (h : headB pd q = false) : ∃ a, a ∈ heads pd q ∧ nx (chE nx q a) = some q := by
  unfold headB at h
  cases e : pd q with
  | none => rw [e] at h; cases h
  | some r =>
    have hn := (Q.iff r q).2 e
    have hl := (H.lt r q hn).1
    obtain ⟨a, h1, h2, h3⟩ := head_of H Q q r hl (fun r' hr' => by rw [hn] at hr'; cases hr'; exact Nat.le_refl _)
    exact ⟨a, heads_mem.2 ⟨by omega, h2⟩, by rw [h3]; exact hn⟩

/-- A run that begins a chain goes to the end of none. -/
theorem no_end (Q : Pred nx pd) {q : Nat} (h : headB pd q = true) (r : Nat) : nx r ≠ some q := fun e => by
  have := (Q.iff r q).1 e
  unfold headB at h
  rw [this] at h
  cases h

def total (L : List (List Nat)) : Nat := L.flatten.length

theorem sum_one {l : List Nat} {P : Nat → Prop} [DecidablePred P] {c : Nat} (hnd : l.Nodup) (hu : ∀ a b, a ∈ l → b ∈ l → P a → P b → a = b) (he : ∃ a, a ∈ l ∧ P a) : (l.map (fun h => if P h then c else 0)).sum = c := by
  induction l with
  | nil => obtain ⟨a, ha, _⟩ := he; cases ha
  | cons x xs ih =>
    rw [List.map_cons, List.sum_cons]
    have hnd' := List.nodup_cons.1 hnd
    by_cases hx : P x
    · rw [if_pos hx]
      have : (xs.map (fun h => if P h then c else 0)).sum = 0 := by
        have hz : ∀ y, y ∈ xs → (if P y then c else 0) = 0 := fun y hy => by
          rw [if_neg]
          intro hp
          have := hu x y List.mem_cons_self (List.mem_cons_of_mem _ hy) hx hp
          exact hnd'.1 (this ▸ hy)
        clear ih hnd hu he hnd'
        induction xs with
        | nil => rfl
        | cons y ys ih2 =>
          rw [List.map_cons, List.sum_cons, hz y List.mem_cons_self, ih2 (fun z hz2 => hz z (List.mem_cons_of_mem _ hz2))]
      omega
    · rw [if_neg hx, Nat.zero_add]
      refine ih hnd'.2 (fun a b ha hb => hu a b (List.mem_cons_of_mem _ ha) (List.mem_cons_of_mem _ hb)) ?_
      obtain ⟨a, ha, hp⟩ := he
      rcases List.mem_cons.1 ha with e | h
      · subst e; exact absurd hp hx
      · exact ⟨a, h, hp⟩

/-- The chains have as many places as the runs. -/
theorem chains_total (H : Succ m nx) (Q : Pred nx pd) : ∀ q, q ≤ R.length → total (chains R nx pd q) = total (R.take q)
  | 0, _ => rfl
  | q + 1, hq => by
    have ih := chains_total H Q q (by omega)
    have hr : R.take (q + 1) = R.take q ++ [R.getD q []] := by
      rw [List.take_add_one, List.getElem?_eq_getElem (by omega), List.getD_eq_getElem?_getD, List.getElem?_eq_getElem (by omega)]; rfl
    rw [chains_step H, hr]
    unfold total at ih ⊢
    simp only [List.flatten_append, List.length_append]
    rw [← ih]
    have hm : ((heads pd q).map (fun h => chn R nx q h ++ (if nx (chE nx q h) = some q then R.getD q [] else []))).flatten.length = (chains R nx pd q).flatten.length + ((heads pd q).map (fun h => if nx (chE nx q h) = some q then (R.getD q []).length else 0)).sum := by
      unfold chains
      generalize heads pd q = l
      induction l with
      | nil => rfl
      | cons x xs ih2 =>
        simp only [List.map_cons, List.flatten_cons, List.length_append, List.sum_cons]
        rw [ih2]
        split <;> simp <;> omega
    rw [hm]
    by_cases e : headB pd q = true
    · rw [if_pos e]
      have hz : ((heads pd q).map (fun h => if nx (chE nx q h) = some q then (R.getD q []).length else 0)).sum = 0 := by
        have : (heads pd q).map (fun h => if nx (chE nx q h) = some q then (R.getD q []).length else 0) = (heads pd q).map (fun _ => 0) := List.map_congr_left fun h _ => if_neg (no_end Q e _)
        rw [this]
        generalize heads pd q = l
        induction l with
        | nil => rfl
        | cons x xs ih2 => rw [List.map_cons, List.sum_cons, ih2]
      rw [hz]; simp
    · rw [if_neg e]
      have e' : headB pd q = false := by simpa using e
      have hs := sum_one (l := heads pd q) (P := fun h => nx (chE nx q h) = some q) (c := (R.getD q []).length) ((List.nodup_range).filter _) (fun a b ha hb p1 p2 => chE_inj H Q (heads_mem.1 ha).2 (heads_mem.1 hb).2 (H.inj _ _ q p1 p2)) (some_end H Q e')
      rw [hs]; simp
end

end Go.Proofs.YtkocpijloiamcaaDoor

/- Level runs and isolates in plain Lean: a run that ends in an isolate initiator with a matching PDI is followed by the run that this PDI begins. No program in sight. -/
namespace Go.Proofs.YtkocpijloiamcaaDoor
set_option linter.unusedVariables false

/-- Does a run begin there? -/
def newR (lv : Nat → Int) (p : Nat) : Prop := lv p ≠ -1 ∧ lv p ≠ lastL lv p
/-- Does a run of the first n characters end there? -/
def lastR (lv : Nat → Int) (n i : Nat) : Prop := ∀ q, i < q → q < n → lv q ≠ -1 → (∀ j, i < j → j < q → lv j = -1) → lv q ≠ lv i
/-- The run on which a place lies. -/
def rix (lv : Nat → Int) (i : Nat) : Nat := (runs lv (i + 1)).length - 1

section
variable {lv : Nat → Int}

theorem runs_len_step (k : Nat) : (lv k = -1 → (runs lv (k + 1)).length = (runs lv k).length) ∧ (newR lv k → (runs lv (k + 1)).length = (runs lv k).length + 1) ∧ (lv k ≠ -1 → lv k = lastL lv k → (runs lv (k + 1)).length = (runs lv k).length ∧ 1 ≤ (runs lv k).length) := by
  refine ⟨fun h => ?_, fun h => ?_, fun h h2 => ?_⟩
  · rw [runs_step, if_pos h]
  · rw [runs_step, if_neg h.1, if_neg h.2]; simp
  · rw [runs_step, if_neg h, if_pos h2]
    have hl : lastL lv k ≠ -1 := by rw [← h2]; exact h
    unfold runs
    rw [if_neg hl]; simp

theorem runs_len_mono {a b : Nat} (h : a ≤ b) : (runs lv a).length ≤ (runs lv b).length := by
  induction b with
  | zero => have : a = 0 := by omega
            subst this; exact Nat.le_refl _
  | succ b ih =>
    by_cases e : a = b + 1
    · subst e; exact Nat.le_refl _
    · have := ih (by omega)
      have hs := runs_len_step (lv := lv) b
      by_cases e1 : lv b = -1
      · have := hs.1 e1; omega
      · by_cases e2 : lv b = lastL lv b
        · have := (hs.2.2 e1 e2).1; omega
        · have := hs.2.1 ⟨e1, e2⟩; omega

theorem runs_pos {i : Nat} (h : lv i ≠ -1) : 1 ≤ (runs lv (i + 1)).length := by
  have hs := runs_len_step (lv := lv) i
  by_cases e2 : lv i = lastL lv i
  · have := hs.2.2 h e2; omega
  · have := hs.2.1 ⟨h, e2⟩; omega

theorem rix_mono {a b : Nat} (h : a ≤ b) : rix lv a ≤ rix lv b := by
  have := runs_len_mono (lv := lv) (show a + 1 ≤ b + 1 by omega)
  unfold rix; omega

theorem rix_new {a p : Nat} (h : a < p) (ha : lv a ≠ -1) (hp : newR lv p) : rix lv a < rix lv p := by
  have h1 := runs_len_mono (lv := lv) (show a + 1 ≤ p by omega)
  have h2 := (runs_len_step (lv := lv) p).2.1 hp
  have h3 := runs_pos ha
  unfold rix; omega

theorem rix_lt {i n : Nat} (h : lv i ≠ -1) (hi : i < n) : rix lv i < (runs lv n).length := by
  have h1 := runs_len_mono (lv := lv) (show i + 1 ≤ n by omega)
  have h3 := runs_pos h
  unfold rix; omega

/-- The row on which a place lies has it. -/
theorem mem_rix : ∀ k i, i < k → lv i ≠ -1 → i ∈ (runs lv k).getD (rix lv i) [] ∧ (newR lv i → hd ((runs lv k).getD (rix lv i) []) = i)
  | 0, i, h, _ => absurd h (Nat.not_lt_zero _)
  | k + 1, i, hi, hn => by
    have hrl := rix_lt hn hi
    by_cases e : i = k
    · subst e
      have hr : rix lv i = (runs lv (i + 1)).length - 1 := rfl
      rw [hr]
      by_cases e2 : lv i = lastL lv i
      · have hs := (runs_len_step (lv := lv) i).2.2 hn e2
        have e3 : runs lv (i + 1) = (rs lv i).1 ++ [(rs lv i).2 ++ [i]] := by rw [runs_step, if_neg hn, if_pos e2]
        rw [e3]
        simp only [List.length_append, List.length_cons, List.length_nil, Nat.zero_add, Nat.add_sub_cancel]
        rw [getD_snoc, if_pos rfl]
        exact ⟨by simp, fun h => absurd e2 h.2⟩
      · have e3 : runs lv (i + 1) = runs lv i ++ [[i]] := by rw [runs_step, if_neg hn, if_neg e2]
        rw [e3]
        simp only [List.length_append, List.length_cons, List.length_nil, Nat.zero_add, Nat.add_sub_cancel]
        rw [getD_snoc, if_pos rfl]
        exact ⟨by simp, fun _ => rfl⟩
    · have ih := mem_rix k i (by omega) hn
      have hrk := rix_lt (n := k) hn (by omega)
      by_cases e1 : lv k = -1
      · have e3 : runs lv (k + 1) = runs lv k := by rw [runs_step, if_pos e1]
        rw [e3]; exact ih
      · by_cases e2 : lv k = lastL lv k
        · have e3 : runs lv (k + 1) = (rs lv k).1 ++ [(rs lv k).2 ++ [k]] := by rw [runs_step, if_neg e1, if_pos e2]
          have e4 : runs lv k = (rs lv k).1 ++ [(rs lv k).2] := by unfold runs; rw [if_neg (by rw [← e2]; exact e1)]
          rw [e4] at ih
          rw [e3]
          rw [getD_snoc] at ih ⊢
          by_cases e5 : rix lv i = (rs lv k).1.length
          · rw [if_pos e5] at ih ⊢
            have hne : (rs lv k).2 ≠ [] := fun h => by rw [h] at ih; cases ih.1
            exact ⟨List.mem_append_left _ ih.1, fun h => by rw [hd_snoc hne]; exact ih.2 h⟩
          · rw [if_neg e5] at ih ⊢; exact ih
        · have e3 : runs lv (k + 1) = runs lv k ++ [[k]] := by rw [runs_step, if_neg e1, if_neg e2]
          rw [e3, getD_snoc, if_neg (by omega)]; exact ih

/-- .. and no other row has. -/
theorem rix_of_mem : ∀ k j i, j < (runs lv k).length → i ∈ (runs lv k).getD j [] → rix lv i = j ∧ i < k ∧ lv i ≠ -1
  | 0, j, i, hj, _ => by have : (runs lv 0).length = 0 := rfl
                         omega
  | k + 1, j, i, hj, hm => by
    by_cases e1 : lv k = -1
    · have e3 : runs lv (k + 1) = runs lv k := by rw [runs_step, if_pos e1]
      rw [e3] at hj hm
      have := rix_of_mem k j i hj hm
      exact ⟨this.1, by omega, this.2.2⟩
    · by_cases e2 : lv k = lastL lv k
      · have e3 : runs lv (k + 1) = (rs lv k).1 ++ [(rs lv k).2 ++ [k]] := by rw [runs_step, if_neg e1, if_pos e2]
        have e4 : runs lv k = (rs lv k).1 ++ [(rs lv k).2] := by unfold runs; rw [if_neg (by rw [← e2]; exact e1)]
        have hl := ((runs_len_step (lv := lv) k).2.2 e1 e2).1
        rw [hl] at hj
        rw [e3, getD_snoc] at hm
        by_cases e5 : j = (rs lv k).1.length
        · rw [if_pos e5] at hm
          rcases List.mem_append.1 hm with h | h
          · have := rix_of_mem k j i hj (by rw [e4, getD_snoc, if_pos e5]; exact h)
            exact ⟨this.1, by omega, this.2.2⟩
          · have hik : i = k := by simpa using h
            rw [hik]
            refine ⟨?_, by omega, e1⟩
            unfold rix
            rw [e3]; simp; exact e5.symm
        · rw [if_neg e5] at hm
          have := rix_of_mem k j i hj (by rw [e4, getD_snoc, if_neg e5]; exact hm)
          exact ⟨this.1, by omega, this.2.2⟩
      · have e3 : runs lv (k + 1) = runs lv k ++ [[k]] := by rw [runs_step, if_neg e1, if_neg e2]
        have hl := (runs_len_step (lv := lv) k).2.1 ⟨e1, e2⟩
        rw [hl] at hj
        rw [e3, getD_snoc] at hm
        by_cases e5 : j = (runs lv k).length
        · rw [if_pos e5] at hm
          have hik : i = k := by simpa using hm
          rw [hik]
          refine ⟨?_, by omega, e1⟩
          unfold rix
          rw [hl]; omega
        · rw [if_neg e5] at hm
          have := rix_of_mem k j i (by omega) hm
          exact ⟨this.1, by omega, this.2.2⟩

/-- A row begins where a run begins. -/
theorem hd_new : ∀ k j, j < (runs lv k).length → newR lv (hd ((runs lv k).getD j []))
  | 0, j, hj => by have : (runs lv 0).length = 0 := rfl
                   omega
  | k + 1, j, hj => by
    by_cases e1 : lv k = -1
    · have e3 : runs lv (k + 1) = runs lv k := by rw [runs_step, if_pos e1]
      rw [e3] at hj ⊢
      exact hd_new k j hj
    · by_cases e2 : lv k = lastL lv k
      · have hlk : lastL lv k ≠ -1 := by rw [← e2]; exact e1
        have e3 : runs lv (k + 1) = (rs lv k).1 ++ [(rs lv k).2 ++ [k]] := by rw [runs_step, if_neg e1, if_pos e2]
        have e4 : runs lv k = (rs lv k).1 ++ [(rs lv k).2] := by unfold runs; rw [if_neg hlk]
        have hl := ((runs_len_step (lv := lv) k).2.2 e1 e2).1
        rw [hl] at hj
        have ih := hd_new k j hj
        rw [e4, getD_snoc] at ih
        rw [e3, getD_snoc]
        by_cases e5 : j = (rs lv k).1.length
        · rw [if_pos e5] at ih ⊢
          rw [hd_snoc (rs_last_ne k hlk)]; exact ih
        · rw [if_neg e5] at ih ⊢; exact ih
      · have e3 : runs lv (k + 1) = runs lv k ++ [[k]] := by rw [runs_step, if_neg e1, if_neg e2]
        have hl := (runs_len_step (lv := lv) k).2.1 ⟨e1, e2⟩
        rw [hl] at hj
        rw [e3, getD_snoc]
        by_cases e5 : j = (runs lv k).length
        · rw [if_pos e5]; exact ⟨e1, e2⟩
        · rw [if_neg e5]; exact hd_new k j (by omega)

def lst (l : List Nat) : Nat := l.getLastD 0

theorem lst_snoc (l : List Nat) (k : Nat) : lst (l ++ [k]) = k := by unfold lst; simp
theorem lst_mem {l : List Nat} (h : l ≠ []) : lst l ∈ l := by
  unfold lst
  rw [List.getLastD_eq_getLast?, List.getLast?_eq_some_getLast h]
  exact List.getLast_mem h

/-- Rows ascend. -/
theorem row_le : ∀ k j i, j < (runs lv k).length → i ∈ (runs lv k).getD j [] → i ≤ lst ((runs lv k).getD j [])
  | 0, j, i, hj, _ => by have : (runs lv 0).length = 0 := rfl
                         omega
  | k + 1, j, i, hj, hm => by
    by_cases e1 : lv k = -1
    · have e3 : runs lv (k + 1) = runs lv k := by rw [runs_step, if_pos e1]
      rw [e3] at hj hm ⊢
      exact row_le k j i hj hm
    · by_cases e2 : lv k = lastL lv k
      · have hlk : lastL lv k ≠ -1 := by rw [← e2]; exact e1
        have e3 : runs lv (k + 1) = (rs lv k).1 ++ [(rs lv k).2 ++ [k]] := by rw [runs_step, if_neg e1, if_pos e2]
        have e4 : runs lv k = (rs lv k).1 ++ [(rs lv k).2] := by unfold runs; rw [if_neg hlk]
        have hl := ((runs_len_step (lv := lv) k).2.2 e1 e2).1
        have hi := (rix_of_mem (k + 1) j i hj hm).2.1
        rw [hl] at hj
        rw [e3, getD_snoc] at hm ⊢
        by_cases e5 : j = (rs lv k).1.length
        · rw [if_pos e5] at hm ⊢
          rw [lst_snoc]; omega
        · rw [if_neg e5] at hm ⊢
          have := row_le k j i hj (by rw [e4, getD_snoc, if_neg e5]; exact hm)
          rw [e4, getD_snoc, if_neg e5] at this; exact this
      · have e3 : runs lv (k + 1) = runs lv k ++ [[k]] := by rw [runs_step, if_neg e1, if_neg e2]
        have hl := (runs_len_step (lv := lv) k).2.1 ⟨e1, e2⟩
        rw [hl] at hj
        rw [e3, getD_snoc] at hm ⊢
        by_cases e5 : j = (runs lv k).length
        · rw [if_pos e5] at hm ⊢
          have hik : i = k := by simpa using hm
          rw [hik]; exact Nat.le_refl _
        · rw [if_neg e5] at hm ⊢
          exact row_le k j i (by omega) hm

/-- The last one ahead of a place that is not removed. -/
theorem lastL_spec : ∀ m i, i < m → lv i ≠ -1 → ∃ k, i ≤ k ∧ k < m ∧ lv k ≠ -1 ∧ lastL lv m = lv k ∧ ∀ j, k < j → j < m → lv j = -1
  | 0, i, h, _ => absurd h (Nat.not_lt_zero _)
  | m + 1, i, h, hi => by
    by_cases e : lv m = -1
    · have him : i ≠ m := fun e2 => hi (by rw [e2]; exact e)
      obtain ⟨k, h1, h2, h3, h4, h5⟩ := lastL_spec m i (by omega) hi
      exact ⟨k, h1, by omega, h3, by rw [(rs_rem e).2]; exact h4, fun j hj hj2 => by
        by_cases e3 : j = m
        · rw [e3]; exact e
        · exact h5 j hj (by omega)⟩
    · exact ⟨m, by omega, by omega, e, lastL_of e, fun j h1 h2 => by omega⟩

/-- The next one behind a place that is not removed. -/
theorem next_spec {l : Nat} (hl : lv l ≠ -1) : ∀ d i, i < l → l - i = d → ∃ q, i < q ∧ q ≤ l ∧ lv q ≠ -1 ∧ ∀ j, i < j → j < q → lv j = -1
  | 0, i, h, hd => by omega
  | d + 1, i, h, hd => by
    by_cases e : lv (i + 1) = -1
    · have hne : i + 1 ≠ l := fun e2 => hl (by rw [← e2]; exact e)
      obtain ⟨q, h1, h2, h3, h4⟩ := next_spec hl d (i + 1) (by omega) (by omega)
      exact ⟨q, by omega, h2, h3, fun j hj hj2 => by
        by_cases e3 : j = i + 1
        · rw [e3]; exact e
        · exact h4 j (by omega) hj2⟩
    · exact ⟨i + 1, by omega, by omega, e, fun j h1 h2 => by omega⟩

/-- A row ends where a run ends. -/
theorem lst_last {n j : Nat} (hj : j < (runs lv n).length) : lastR lv n (lst ((runs lv n).getD j [])) := by
  intro q h1 h2 h3 h4 e
  have hne := (runs_at hj).ne
  have hm := lst_mem hne
  have hr := rix_of_mem n j _ hj hm
  obtain ⟨k, g1, g2, g3, g4, g5⟩ := lastL_spec (lv := lv) q _ h1 hr.2.2
  have hk : k = lst ((runs lv n).getD j []) := by
    rcases Nat.lt_or_ge (lst ((runs lv n).getD j [])) k with h | h
    · exact absurd (h4 k h g2) g3
    · omega
  have hq := (runs_len_step (lv := lv) q).2.2 h3 (by rw [g4, hk]; exact e)
  have hle := runs_len_mono (lv := lv) (show lst ((runs lv n).getD j []) + 1 ≤ q by omega)
  have hlq : (runs lv q).length ≤ (runs lv (lst ((runs lv n).getD j []) + 1)).length := by
    -- nothing begins between
    have key : ∀ b, lst ((runs lv n).getD j []) + 1 ≤ b → b ≤ q → (runs lv b).length = (runs lv (lst ((runs lv n).getD j []) + 1)).length := by
      intro b
      induction b with
      | zero => intro h; omega
      | succ b ih =>
        intro hb hb2
        by_cases e2 : b = lst ((runs lv n).getD j [])
        · rw [e2]
        · rw [(runs_len_step (lv := lv) b).1 (h4 b (by omega) (by omega))]; exact ih (by omega) (by omega)
    exact Nat.le_of_eq (key q (by omega) (Nat.le_refl _))
  have hrq : rix lv q = j := by
    rw [← hr.1]
    unfold rix
    rw [hq.1]; omega
  have hmq := (mem_rix n q h2 h3).1
  rw [hrq] at hmq
  have := row_le n j q hj hmq
  omega

/-- A run's end is its row's. -/
theorem lst_of_last {n i : Nat} (hi : i < n) (hn : lv i ≠ -1) (h : lastR lv n i) : lst ((runs lv n).getD (rix lv i) []) = i := by
  have hj := rix_lt hn hi
  have hm := (mem_rix n i hi hn).1
  have hle := row_le n _ i hj hm
  rcases Nat.lt_or_ge i (lst ((runs lv n).getD (rix lv i) [])) with hlt | hge
  · have hml := lst_mem (runs_at hj).ne
    have hr := rix_of_mem n _ _ hj hml
    obtain ⟨q, g1, g2, g3, g4⟩ := next_spec hr.2.2 _ i hlt rfl
    have hq : lv q = lv i := by
      by_cases e : newR lv q
      · have h1 := rix_new g1 hn e
        have h2 := rix_mono (lv := lv) g2
        rw [hr.1] at h2
        omega
      · obtain ⟨k, k1, k2, k3, k4, k5⟩ := lastL_spec (lv := lv) q i g1 hn
        have hki : k = i := by
          rcases Nat.lt_or_ge i k with h | h
          · exact absurd (g4 k h k2) k3
          · omega
        unfold newR at e
        by_cases e2 : lv q = lastL lv q
        · rw [e2, k4, hki]
        · exact absurd ⟨g3, e2⟩ e
    exact absurd hq (h q g1 (by have := hr.2.1; omega) g3 g4)
  · omega
end

section
variable {x fs : Nat → Int} {base : Int} {n : Nat}

/-- The levels of a text, -1 for what X9 removes. -/
def lvR (x fs : Nat → Int) (base : Int) (i : Nat) : Int := if remN (x i) = true then -1 else lvl x fs base i

theorem lvR_of {i : Nat} (h : remN (x i) = false) : lvR x fs base i = lvl x fs base i := by unfold lvR; rw [if_neg (by rw [h]; decide)]
theorem lvR_ne (hb : base = 0 ∨ base = 1) {i : Nat} : lvR x fs base i ≠ -1 ↔ remN (x i) = false := by
  unfold lvR
  cases h : remN (x i) with
  | true => simp
  | false =>
    have := lvl_range (x := x) (fs := fs) (base := base) (by omega) (by omega) i
    simp; omega

theorem rem_ini {t : Int} (h : iniB t = true) : remN t = false := by
  unfold iniB at h; rw [decide_eq_true_eq] at h
  unfold remN; rw [decide_eq_false_iff_not]; omega

/-- The matching PDI of an initiator that ends a run begins one. -/
theorem match_new (hb : base = 0 ∨ base = 1) (hB : ∀ i, i < n → x i = 7 → n ≤ i + 1) {i : Nat} (hi : i < n) (h : iniN x i = true) (hm : mat (iniN x) (pdiN x) n i < n) (hl : lastR (lvR x fs base) n i) :
    newR (lvR x fs base) (mat (iniN x) (pdiN x) n i) := by
  obtain ⟨h22, _⟩ := (in_isolate (fs := fs) (base := base) (by omega) hi h).2 hm
  have hgt := mat_gt (ini := iniN x) (pdi := pdiN x) hi
  have hlm := lvl_match (fs := fs) (base := base) (by omega) hi h hm
  have hri : remN (x i) = false := rem_ini h
  have hrm : remN (x (mat (iniN x) (pdiN x) n i)) = false := by rw [h22]; decide
  have n7 : ∀ k, k < mat (iniN x) (pdiN x) n i → x k ≠ 7 := fun k hk e => by have := hB k (by omega) e; omega
  have hne := (lvR_ne (x := x) (fs := fs) (base := base) hb).2 hrm
  refine ⟨hne, fun e => ?_⟩
  obtain ⟨k, k1, k2, k3, k4, k5⟩ := lastL_spec (lv := lvR x fs base) _ i hgt ((lvR_ne hb).2 hri)
  have hrk := (lvR_ne (x := x) (fs := fs) (base := base) hb).1 k3
  by_cases hki : k = i
  · -- nothing stands between
    refine hl _ hgt hm hne (fun j h1 h2 => k5 j (by omega) h2) ?_
    rw [lvR_of hrm, lvR_of hri]; exact hlm
  · have hik : i < k := by omega
    rw [k4, lvR_of hrm, lvR_of hrk, hlm] at e
    rcases lvl_inside (fs := fs) (base := base) (by omega) (by omega) hi h with h1 | h1
    · have := h1 k hik k2 (n7 k k2); omega
    · obtain ⟨q, g1, g2, g3, g4⟩ := next_spec k3 _ i hik rfl
      have hrq := (lvR_ne (x := x) (fs := fs) (base := base) hb).1 g3
      refine hl q g1 (by omega) g3 g4 ?_
      rw [lvR_of hrq, lvR_of hri]; exact h1 q g1 (by omega) (n7 q (by omega))

/-- The initiator of a matching PDI that begins a run ends one. -/
theorem match_last (hb : base = 0 ∨ base = 1) (hB : ∀ i, i < n → x i = 7 → n ≤ i + 1) {i : Nat} (hi : i < n) (h : iniN x i = true) (hm : mat (iniN x) (pdiN x) n i < n) (hp : newR (lvR x fs base) (mat (iniN x) (pdiN x) n i)) :
    lastR (lvR x fs base) n i := by
  obtain ⟨h22, _⟩ := (in_isolate (fs := fs) (base := base) (by omega) hi h).2 hm
  have hgt := mat_gt (ini := iniN x) (pdi := pdiN x) hi
  have hlm := lvl_match (fs := fs) (base := base) (by omega) hi h hm
  have hri : remN (x i) = false := rem_ini h
  have hrm : remN (x (mat (iniN x) (pdiN x) n i)) = false := by rw [h22]; decide
  have n7 : ∀ k, k < mat (iniN x) (pdiN x) n i → x k ≠ 7 := fun k hk e => by have := hB k (by omega) e; omega
  intro q q1 q2 q3 q4 e
  obtain ⟨k, k1, k2, k3, k4, k5⟩ := lastL_spec (lv := lvR x fs base) _ i hgt ((lvR_ne hb).2 hri)
  have hrk := (lvR_ne (x := x) (fs := fs) (base := base) hb).1 k3
  have hd := hp.2
  rw [k4, lvR_of hrm, hlm, lvR_of hrk] at hd
  have hki : k ≠ i := fun e2 => hd (by rw [e2])
  have hik : i < k := by omega
  have hqk : q ≤ k := by
    rcases Nat.lt_or_ge k q with h1 | h1
    · exact absurd (q4 k hik h1) k3
    · exact h1
  rcases lvl_inside (fs := fs) (base := base) (by omega) (by omega) hi h with h1 | h1
  · have hrq := (lvR_ne (x := x) (fs := fs) (base := base) hb).1 q3
    have := h1 q q1 (by omega) (n7 q (by omega))
    rw [lvR_of hrq, lvR_of hri] at e
    omega
  · exact hd (h1 k hik k2 (n7 k k2)).symm

/-- The run that goes on with a run. -/
def nxR (x fs : Nat → Int) (base : Int) (n r : Nat) : Option Nat :=
  if r < (runs (lvR x fs base) n).length ∧ iniN x (lst ((runs (lvR x fs base) n).getD r [])) = true ∧ mat (iniN x) (pdiN x) n (lst ((runs (lvR x fs base) n).getD r [])) < n then some (rix (lvR x fs base) (mat (iniN x) (pdiN x) n (lst ((runs (lvR x fs base) n).getD r [])))) else none

/-- The run that a run goes on. -/
def pdR (x fs : Nat → Int) (base : Int) (n q : Nat) : Option Nat :=
  if q < (runs (lvR x fs base) n).length ∧ x (hd ((runs (lvR x fs base) n).getD q [])) = 22 ∧ 0 ≤ bg (iniN x) (pdiN x) n n (hd ((runs (lvR x fs base) n).getD q [])) then some (rix (lvR x fs base) (bg (iniN x) (pdiN x) n n (hd ((runs (lvR x fs base) n).getD q []))).toNat) else none

/-- What is known of a run that goes on. -/
theorem nxR_some (hb : base = 0 ∨ base = 1) (hB : ∀ i, i < n → x i = 7 → n ≤ i + 1) {r q : Nat} (h : nxR x fs base n r = some q) :
    ∃ i, i < n ∧ i = lst ((runs (lvR x fs base) n).getD r []) ∧ r = rix (lvR x fs base) i ∧ r < (runs (lvR x fs base) n).length ∧ remN (x i) = false ∧ iniN x i = true ∧ mat (iniN x) (pdiN x) n i < n ∧ x (mat (iniN x) (pdiN x) n i) = 22 ∧
      newR (lvR x fs base) (mat (iniN x) (pdiN x) n i) ∧ q = rix (lvR x fs base) (mat (iniN x) (pdiN x) n i) ∧ q < (runs (lvR x fs base) n).length ∧ hd ((runs (lvR x fs base) n).getD q []) = mat (iniN x) (pdiN x) n i := by
  unfold nxR at h
  by_cases c : r < (runs (lvR x fs base) n).length ∧ iniN x (lst ((runs (lvR x fs base) n).getD r [])) = true ∧ mat (iniN x) (pdiN x) n (lst ((runs (lvR x fs base) n).getD r [])) < n
  · rw [if_pos c] at h
    simp only [Option.some.injEq] at h
    obtain ⟨hr, hi, hm⟩ := c
    have hml := lst_mem (runs_at hr).ne
    have hx := rix_of_mem n r _ hr hml
    have hnew := match_new hb hB hx.2.1 hi hm (lst_last hr)
    have h22 := ((in_isolate (fs := fs) (base := base) (by omega) hx.2.1 hi).2 hm).1
    have hq := rix_lt (n := n) hnew.1 hm
    exact ⟨_, hx.2.1, rfl, hx.1.symm, hr, rem_ini hi, hi, hm, h22, hnew, h.symm, by rw [← h]; exact hq, by rw [← h]; exact (mem_rix n _ hm hnew.1).2 hnew⟩
  · rw [if_neg c] at h; cases h

theorem runs_succ (hb : base = 0 ∨ base = 1) (hB : ∀ i, i < n → x i = 7 → n ≤ i + 1) : Succ (runs (lvR x fs base) n).length (nxR x fs base n) where
  lt r q h := by
    obtain ⟨i, hi, _, hr, _, hrm, _, hm, _, hnew, hq, hql, _⟩ := nxR_some hb hB h
    refine ⟨?_, hql⟩
    rw [hr, hq]
    exact rix_new (mat_gt hi) ((lvR_ne hb).2 hrm) hnew
  inj r1 r2 q h1 h2 := by
    obtain ⟨i, hi, _, hr, _, _, hii, hm, _, _, _, _, hh⟩ := nxR_some hb hB h1
    obtain ⟨i', hi', _, hr', _, _, hii', hm', _, _, _, _, hh'⟩ := nxR_some hb hB h2
    have : i = i' := mat_inj hi hi' hii hii' (by rw [← hh, ← hh']) hm
    rw [hr, hr', this]

theorem runs_pred (hb : base = 0 ∨ base = 1) (hB : ∀ i, i < n → x i = 7 → n ≤ i + 1) : Pred (nxR x fs base n) (pdR x fs base n) where
  iff r q := by
    constructor
    · intro h
      obtain ⟨i, hi, _, hr, _, _, hii, hm, h22, _, _, hql, hh⟩ := nxR_some hb hB h
      have hbg : bg (iniN x) (pdiN x) n n (mat (iniN x) (pdiN x) n i) = i := bg_of hii hm hi n hi (Nat.le_refl _)
      unfold pdR
      rw [hh, if_pos ⟨hql, h22, by rw [hbg]; omega⟩, hbg, hr]
      simp
    · intro h
      unfold pdR at h
      by_cases c : q < (runs (lvR x fs base) n).length ∧ x (hd ((runs (lvR x fs base) n).getD q [])) = 22 ∧ 0 ≤ bg (iniN x) (pdiN x) n n (hd ((runs (lvR x fs base) n).getD q []))
      · rw [if_pos c] at h
        simp only [Option.some.injEq] at h
        obtain ⟨hq, h22, hbg⟩ := c
        obtain ⟨i, hi, hii, hm, hlt, hbe⟩ := bg_some (Nat.le_refl _) hbg
        have hnew := hd_new n q hq
        rw [← hm] at hnew
        have hlast := match_last hb hB hi hii (by rw [hm]; exact hlt) hnew
        have hri : remN (x i) = false := rem_ini hii
        have hne := (lvR_ne (x := x) (fs := fs) (base := base) hb).2 hri
        have hl := lst_of_last hi hne hlast
        have hr : r = rix (lvR x fs base) i := by rw [← h, hbe]; rfl
        have hmq : hd ((runs (lvR x fs base) n).getD q []) ∈ (runs (lvR x fs base) n).getD q [] := by
          have := (runs_at hq).ne
          unfold hd
          cases e : (runs (lvR x fs base) n).getD q [] with
          | nil => exact absurd e this
          | cons y ys => simp
        have hxq := rix_of_mem n q _ hq hmq
        unfold nxR
        rw [hr, hl, if_pos ⟨rix_lt hne hi, hii, by rw [hm]; exact hlt⟩, hm, hxq.1]
      · rw [if_neg c] at h; cases h

/-- A run begins a sequence if its first character is no matching PDI. -/
theorem headB_iff {q : Nat} (hq : q < (runs (lvR x fs base) n).length) : headB (pdR x fs base n) q = true ↔ ¬ (x (hd ((runs (lvR x fs base) n).getD q [])) = 22 ∧ 0 ≤ bg (iniN x) (pdiN x) n n (hd ((runs (lvR x fs base) n).getD q []))) := by
  unfold headB pdR
  by_cases c : x (hd ((runs (lvR x fs base) n).getD q [])) = 22 ∧ 0 ≤ bg (iniN x) (pdiN x) n n (hd ((runs (lvR x fs base) n).getD q []))
  · rw [if_pos ⟨hq, c⟩]
    exact ⟨fun h => (by cases h), fun h => absurd c h⟩
  · rw [if_neg (fun h => c h.2)]
    exact ⟨fun _ => c, fun _ => rfl⟩
end

end Go.Proofs.YtkocpijloiamcaaDoor

/- Plain facts for determineIsolatingRunSequences. -/
namespace Go.Proofs.YtkocpijloiamcaaDoor
set_option linter.unusedVariables false

theorem getD_mem0 {l : List Nat} {q : Nat} (h : q < l.length) : l.getD q 0 ∈ l := by
  rw [List.getD_eq_getElem?_getD, List.getElem?_eq_getElem h]; exact List.getElem_mem h

theorem lst_app {A r : List Nat} (h : r ≠ []) : (A ++ r).getD ((A ++ r).length - 1) 0 = lst r := by
  unfold lst
  rw [List.getLastD_eq_getLast?, List.getLast?_eq_getElem?, List.getD_eq_getElem?_getD]
  have : 0 < r.length := List.length_pos_iff.2 h
  rw [List.getElem?_append_right (by rw [List.length_append]; omega)]
  congr 2
  rw [List.length_append]; omega

theorem chn_unfold {R : List (List Nat)} {nx : Nat → Option Nat} {m r : Nat} (H : Succ m nx) (hr : r < m) : chn R nx m r = R.getD r [] ++ (match nx r with
    | some r' => chn R nx m r'
    | none => []) := by
  unfold chn
  obtain ⟨m', rfl⟩ : ∃ m', m = m' + 1 := ⟨m - 1, by omega⟩
  rw [chT]
  cases e : nx r with
  | none => rfl
  | some r' =>
    have hl := H.lt r r' e
    simp only [if_pos hl.2]
    rw [chT_fuel H (m' + 1) m' (m' + 1) r' (by omega) (by omega) hl.2]

theorem chT_mem {R : List (List Nat)} {nx : Nat → Option Nat} {m i : Nat} (H : Succ m nx) : ∀ f r, r < m → i ∈ chT R nx m f r → ∃ q, q < m ∧ i ∈ R.getD q []
  | 0, r, hr, h => ⟨r, hr, h⟩
  | f + 1, r, hr, h => by
    rw [chT] at h
    rcases List.mem_append.1 h with h | h
    · exact ⟨r, hr, h⟩
    · cases e : nx r with
      | none => rw [e] at h; cases h
      | some r' =>
        rw [e] at h
        have hl := H.lt r r' e
        simp only [if_pos hl.2] at h
        exact chT_mem H f r' hl.2 h

/-- What is written so far of the runs of characters. -/
def rfK (lv : Nat → Int) (k : Nat) (r : List Nat) (q : Nat) (i : Nat) : Int := if lv i ≠ -1 ∧ (rix lv i < k ∨ (∃ t, t < q ∧ r.getD t 0 = i)) then (rix lv i : Int) else 0

theorem rfK_zero {lv : Nat → Int} {k i : Nat} {r : List Nat} : rfK lv k [] 0 i = rfK lv k r 0 i := by
  unfold rfK
  by_cases c : lv i ≠ -1 ∧ rix lv i < k
  · rw [if_pos ⟨c.1, .inl c.2⟩, if_pos ⟨c.1, .inl c.2⟩]
  · rw [if_neg, if_neg]
    · rintro ⟨a, b | ⟨t, ht, _⟩⟩
      · exact c ⟨a, b⟩
      · omega
    · rintro ⟨a, b | ⟨t, ht, _⟩⟩
      · exact c ⟨a, b⟩
      · omega

theorem rfK_step {lv : Nat → Int} {k q y : Nat} {r : List Nat} (hy : r.getD q 0 = y) (h1 : lv y ≠ -1) (h2 : rix lv y = k) (i : Nat) : rfK lv k r (q + 1) i = if i = y then (k : Int) else rfK lv k r q i := by
  unfold rfK
  by_cases e : i = y
  · subst e
    rw [if_pos rfl, if_pos ⟨h1, .inr ⟨q, by omega, hy⟩⟩, h2]
  · rw [if_neg e]
    have : (lv i ≠ -1 ∧ (rix lv i < k ∨ (∃ t, t < q + 1 ∧ r.getD t 0 = i))) ↔ (lv i ≠ -1 ∧ (rix lv i < k ∨ (∃ t, t < q ∧ r.getD t 0 = i))) := by
      constructor
      · rintro ⟨a, b | ⟨t, ht, hti⟩⟩
        · exact ⟨a, .inl b⟩
        · by_cases e2 : t = q
          · rw [e2, hy] at hti; exact absurd hti.symm e
          · exact ⟨a, .inr ⟨t, by omega, hti⟩⟩
      · rintro ⟨a, b | ⟨t, ht, hti⟩⟩
        · exact ⟨a, .inl b⟩
        · exact ⟨a, .inr ⟨t, by omega, hti⟩⟩
    by_cases c : lv i ≠ -1 ∧ (rix lv i < k ∨ (∃ t, t < q ∧ r.getD t 0 = i))
    · rw [if_pos c, if_pos (this.2 c)]
    · rw [if_neg c, if_neg (fun h => c (this.1 h))]

theorem rfK_row {lv : Nat → Int} {n k i : Nat} (hk : k < (runs lv n).length) (hi : i < n) : rfK lv k ((runs lv n).getD k []) ((runs lv n).getD k []).length i = rfK lv (k + 1) [] 0 i := by
  unfold rfK
  have : (lv i ≠ -1 ∧ (rix lv i < k ∨ (∃ t, t < ((runs lv n).getD k []).length ∧ ((runs lv n).getD k []).getD t 0 = i))) ↔ (lv i ≠ -1 ∧ (rix lv i < k + 1 ∨ (∃ t, t < 0 ∧ ([] : List Nat).getD t 0 = i))) := by
    constructor
    · rintro ⟨a, b | ⟨t, ht, hti⟩⟩
      · exact ⟨a, .inl (by omega)⟩
      · have hm : i ∈ (runs lv n).getD k [] := by
          rw [← hti]; exact getD_mem0 ht
        have := (rix_of_mem n k i hk hm).1
        exact ⟨a, .inl (by omega)⟩
    · rintro ⟨a, b | ⟨t, ht, hti⟩⟩
      · by_cases e : rix lv i = k
        · have hm := (mem_rix n i hi a).1
          rw [e] at hm
          obtain ⟨t, ht, hti⟩ := List.getElem_of_mem hm
          exact ⟨a, .inr ⟨t, ht, by rw [List.getD_eq_getElem?_getD, List.getElem?_eq_getElem ht]; exact hti⟩⟩
        · exact ⟨a, .inl (by omega)⟩
      · omega
  by_cases c : lv i ≠ -1 ∧ (rix lv i < k ∨ (∃ t, t < ((runs lv n).getD k []).length ∧ ((runs lv n).getD k []).getD t 0 = i))
  · rw [if_pos c, if_pos (this.1 c)]
  · rw [if_neg c, if_neg (fun h => c (this.2 h))]

theorem heads_succ {pd : Nat → Option Nat} (k : Nat) : heads pd (k + 1) = if headB pd k = true then heads pd k ++ [k] else heads pd k := by
  unfold heads
  rw [List.range_succ, List.filter_append]
  by_cases h : headB pd k = true
  · simp [h]
  · simp [h]

theorem len_le_flat {L : List (List Nat)} {a : List Nat} (h : a ∈ L) : a.length ≤ L.flatten.length := by
  induction L with
  | nil => cases h
  | cons b L ih =>
    rw [List.flatten_cons, List.length_append]
    rcases List.mem_cons.1 h with h | h
    · rw [h]; omega
    · have := ih h; omega

theorem runs_total_le (lv : Nat → Int) (n : Nat) : total (runs lv n) ≤ n := by
  unfold total
  rw [runs_flat]
  exact Nat.le_trans (List.length_filter_le _ _) (by simp)

theorem chn_len {lv : Nat → Int} {n k : Nat} {nx pd : Nat → Option Nat} (H : Succ (runs lv n).length nx) (Q : Pred nx pd) (hk : k < (runs lv n).length) (hh : headB pd k = true) : (chn (runs lv n) nx (runs lv n).length k).length ≤ n := by
  have h1 := chains_total (R := runs lv n) H Q (runs lv n).length (Nat.le_refl _)
  rw [List.take_length] at h1
  have h2 := runs_total_le lv n
  have h3 := len_le_flat (L := chains (runs lv n) nx pd (runs lv n).length) (a := chn (runs lv n) nx (runs lv n).length k) (List.mem_map.2 ⟨k, heads_mem.2 ⟨hk, hh⟩, rfl⟩)
  unfold total at h1 h2
  omega

theorem bg_or {ini pdi : Nat → Bool} {n : Nat} : ∀ k j, bg ini pdi n k j = -1 ∨ 0 ≤ bg ini pdi n k j
  | 0, _ => .inl rfl
  | k + 1, j => by
    rw [bg]
    split
    · right; omega
    · exact bg_or k j

end Go.Proofs.YtkocpijloiamcaaDoor
