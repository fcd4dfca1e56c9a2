/- X1 to X8 in plain Lean: a stack of levels, the three counts, and the steps. No program in sight. -/
namespace Go.Proofs.YtjelgbfgciaapaaDoor

/-- The state of X1 to X8: the stack (d entries: level, override: -1, 0 or 1, isolate), overflow isolates, overflow embeddings, valid isolates. -/
structure Mst where
  d : Nat
  lv : Nat → Int
  ov : Nat → Int
  iso : Nat → Bool
  oi : Nat
  oe : Nat
  vi : Nat

namespace Mst
def up {α : Type} (f : Nat → α) (d : Nat) (v : α) : Nat → α := fun j => if j = d then v else f j
theorem up_at {α : Type} (f : Nat → α) (d : Nat) (v : α) : up f d v d = v := if_pos rfl
theorem up_ne {α : Type} (f : Nat → α) {d j : Nat} (v : α) (h : j ≠ d) : up f d v j = f j := if_neg h

def top (m : Mst) : Int := m.lv (m.d - 1)
def tov (m : Mst) : Int := m.ov (m.d - 1)
def tiso (m : Mst) : Bool := m.iso (m.d - 1)
/-- The least level of a parity above the last one. -/
def next (m : Mst) (odd : Int) : Int := if (m.top + 1) % 2 = odd then m.top + 1 else m.top + 2
def room (m : Mst) (odd : Int) : Prop := m.next odd ≤ 125 ∧ m.oi = 0 ∧ m.oe = 0
instance (m : Mst) (odd : Int) : Decidable (m.room odd) := by unfold room; infer_instance
def push (m : Mst) (l o : Int) (b : Bool) : Mst := { m with d := m.d + 1, lv := up m.lv m.d l, ov := up m.ov m.d o, iso := up m.iso m.d b }
/-- X2 to X5. -/
def embed (m : Mst) (odd as : Int) : Mst := if m.room odd then m.push (m.next odd) as false else if m.oi = 0 then { m with oe := m.oe + 1 } else m
/-- X5a to X5c. -/
def begin_ (m : Mst) (odd : Int) : Mst := if m.room odd then { m.push (m.next odd) (-1) true with vi := m.vi + 1 } else { m with oi := m.oi + 1 }
/-- How many entries lie below the last isolate. -/
def below (iso : Nat → Bool) : Nat → Nat
  | 0 => 0
  | d + 1 => if iso d = true then d else below iso d
/-- X6a. -/
def close (m : Mst) : Mst := if 0 < m.oi then { m with oi := m.oi - 1 } else if 0 < m.vi then { m with oe := 0, d := below m.iso m.d, vi := m.vi - 1 } else m
/-- X7. -/
def pop (m : Mst) : Mst := if 0 < m.oi then m else if 0 < m.oe then { m with oe := m.oe - 1 } else if m.tiso = false ∧ 1 < m.d then { m with d := m.d - 1 } else m
/-- One character: its number, and the side of an FSI. -/
def step (m : Mst) (t fs : Int) : Mst :=
  if t = 17 then m.embed 1 (-1) else if t = 16 then m.embed 0 (-1) else if t = 15 then m.embed 1 1 else if t = 14 then m.embed 0 0 else if t = 18 then m.pop
  else if t = 20 then m.begin_ 1 else if t = 19 then m.begin_ 0 else if t = 21 then m.begin_ fs else if t = 22 then m.close else m

def start (base : Int) : Mst := ⟨1, fun _ => base, fun _ => -1, fun _ => false, 0, 0, 0⟩

def cnt (iso : Nat → Bool) : Nat → Nat
  | 0 => 0
  | d + 1 => cnt iso d + (if iso d = true then 1 else 0)

/-- What holds of the state ahead of character i. -/
structure Ok (base : Int) (i : Nat) (m : Mst) : Prop where
  d1 : 1 ≤ m.d
  lv0 : m.lv 0 = base
  up : ∀ j, j + 1 < m.d → m.lv j + 1 ≤ m.lv (j + 1)
  le : ∀ j, j < m.d → m.lv j ≤ 125
  ov : ∀ j, j < m.d → m.ov j = -1 ∨ m.ov j = 0 ∨ m.ov j = 1
  i0 : m.iso 0 = false
  vi : m.vi = cnt m.iso m.d
  oi : m.oi ≤ i
  oe : m.oe ≤ i

theorem cnt_le (iso : Nat → Bool) : ∀ d, cnt iso d ≤ d
  | 0 => Nat.le_refl _
  | d + 1 => by have := cnt_le iso d; rw [cnt]; split <;> omega

theorem cnt_up {iso : Nat → Bool} {v : Bool} : ∀ d k, d ≤ k → cnt (Mst.up iso k v) d = cnt iso d
  | 0, _, _ => rfl
  | d + 1, k, h => by rw [cnt, cnt, cnt_up d k (by omega), Mst.up_ne _ _ (by omega)]

theorem below_le (iso : Nat → Bool) : ∀ d, below iso d ≤ d
  | 0 => Nat.le_refl _
  | d + 1 => by have := below_le iso d; rw [below]; split <;> omega

theorem below_cnt {iso : Nat → Bool} : ∀ d, 0 < cnt iso d → below iso d < d ∧ iso (below iso d) = true ∧ cnt iso d = cnt iso (below iso d) + 1
  | 0, h => absurd h (Nat.lt_irrefl _)
  | d + 1, h => by
    rw [cnt] at h ⊢
    rw [below]
    by_cases q : iso d = true
    · rw [if_pos q, if_pos q]; exact ⟨by omega, q, rfl⟩
    · rw [if_neg q] at h ⊢
      rw [if_neg q]
      have := below_cnt d (by omega)
      exact ⟨by omega, this.2.1, by omega⟩

namespace Ok
variable {base : Int} {i : Nat} {m : Mst}

theorem ge (h : Ok base i m) (hb : 0 ≤ base) : ∀ j, j < m.d → (j : Int) ≤ m.lv j ∧ base ≤ m.lv j
  | 0, _ => by rw [h.lv0]; omega
  | j + 1, hj => by have := h.ge hb j (by omega); have := h.up j hj; omega

theorem top_ge (h : Ok base i m) (hb : 0 ≤ base) : base ≤ m.top ∧ ((m.d : Int) - 1 ≤ m.top) := by
  have := h.ge hb (m.d - 1) (by have := h.d1; omega)
  have := h.d1
  unfold Mst.top; omega
theorem top_le (h : Ok base i m) : m.top ≤ 125 := h.le _ (by have := h.d1; omega)
theorem d_le (h : Ok base i m) (hb : 0 ≤ base) : m.d ≤ 126 := by
  have := h.top_ge hb
  have := h.top_le
  omega

theorem next_gt (m : Mst) (odd : Int) : m.top + 1 ≤ m.next odd := by unfold Mst.next; split <;> omega

theorem start (base : Int) (hb : base ≤ 125) : Ok base 0 (Mst.start base) := by
  refine ⟨by show 1 ≤ 1; omega, rfl, fun j hj => ?_, fun j hj => hb, fun j _ => .inl rfl, rfl, rfl, Nat.le_refl _, Nat.le_refl _⟩
  have : j + 1 < 1 := hj
  omega

theorem mono (h : Ok base i m) : Ok base (i + 1) m := ⟨h.d1, h.lv0, h.up, h.le, h.ov, h.i0, h.vi, by have := h.oi; omega, by have := h.oe; omega⟩

theorem push (h : Ok base i m) {l o : Int} (hl : m.top + 1 ≤ l) (hl2 : l ≤ 125) (ho : o = -1 ∨ o = 0 ∨ o = 1) (b : Bool) :
    Ok base (i + 1) { m.push l o b with vi := m.vi + (if b = true then 1 else 0) } := by
  have hd := h.d1
  refine ⟨?_, ?_, fun j hj => ?_, fun j hj => ?_, fun j hj => ?_, ?_, ?_, ?_, ?_⟩
  · show 1 ≤ m.d + 1; omega
  · show Mst.up m.lv m.d l 0 = base
    rw [up_ne _ _ (by omega)]; exact h.lv0
  · show Mst.up m.lv m.d l j + 1 ≤ Mst.up m.lv m.d l (j + 1)
    have hj' : j + 1 < m.d + 1 := hj
    by_cases e : j + 1 = m.d
    · rw [up_ne _ _ (by omega), e, up_at]
      unfold Mst.top at hl
      rw [show m.d - 1 = j by omega] at hl
      exact hl
    · rw [up_ne _ _ (by omega), up_ne _ _ e]; exact h.up j (by omega)
  · show Mst.up m.lv m.d l j ≤ 125
    have hj' : j < m.d + 1 := hj
    by_cases e : j = m.d
    · rw [e, up_at]; exact hl2
    · rw [up_ne _ _ e]; exact h.le j (by omega)
  · show Mst.up m.ov m.d o j = -1 ∨ Mst.up m.ov m.d o j = 0 ∨ Mst.up m.ov m.d o j = 1
    have hj' : j < m.d + 1 := hj
    by_cases e : j = m.d
    · rw [e, up_at]; exact ho
    · rw [up_ne _ _ e]; exact h.ov j (by omega)
  · show Mst.up m.iso m.d b 0 = false
    rw [up_ne _ _ (by omega)]; exact h.i0
  · show m.vi + (if b = true then 1 else 0) = cnt (Mst.up m.iso m.d b) (m.d + 1)
    rw [cnt, cnt_up m.d m.d (Nat.le_refl _), up_at, h.vi]
  · show m.oi ≤ i + 1
    have := h.oi; omega
  · show m.oe ≤ i + 1
    have := h.oe; omega

theorem embed (h : Ok base i m) {odd as : Int} (ha : as = -1 ∨ as = 0 ∨ as = 1) : Ok base (i + 1) (m.embed odd as) := by
  unfold Mst.embed
  split
  · next q => exact h.push (b := false) (next_gt m odd) q.1 ha
  · split
    · exact ⟨h.d1, h.lv0, h.up, h.le, h.ov, h.i0, h.vi, by have := h.oi; show m.oi ≤ i + 1; omega, by have := h.oe; show m.oe + 1 ≤ i + 1; omega⟩
    · exact h.mono

theorem begin_ (h : Ok base i m) {odd : Int} : Ok base (i + 1) (m.begin_ odd) := by
  unfold Mst.begin_
  split
  · next q => exact h.push (b := true) (next_gt m odd) q.1 (.inl rfl)
  · exact ⟨h.d1, h.lv0, h.up, h.le, h.ov, h.i0, h.vi, by have := h.oi; show m.oi + 1 ≤ i + 1; omega, by have := h.oe; show m.oe ≤ i + 1; omega⟩

theorem below_pos (h : Ok base i m) (hv : 0 < m.vi) : 1 ≤ below m.iso m.d ∧ below m.iso m.d < m.d := by
  have := below_cnt m.d (by rw [← h.vi]; exact hv)
  refine ⟨?_, this.1⟩
  rcases Nat.eq_zero_or_pos (below m.iso m.d) with e | e
  · rw [e, h.i0] at this; exact absurd this.2.1 (by decide)
  · exact e

theorem close (h : Ok base i m) : Ok base (i + 1) m.close := by
  unfold Mst.close
  split
  · exact ⟨h.d1, h.lv0, h.up, h.le, h.ov, h.i0, h.vi, by have := h.oi; show m.oi - 1 ≤ i + 1; omega, by have := h.oe; show m.oe ≤ i + 1; omega⟩
  · split
    · next q =>
      have hp := h.below_pos q
      have hc := below_cnt m.d (by rw [← h.vi]; exact q)
      exact ⟨hp.1, h.lv0, fun j hj => h.up j (by have : j + 1 < below m.iso m.d := hj; omega), fun j hj => h.le j (by have : j < below m.iso m.d := hj; omega), fun j hj => h.ov j (by have : j < below m.iso m.d := hj; omega), h.i0,
        by show m.vi - 1 = cnt m.iso (below m.iso m.d); rw [h.vi]; omega, by have := h.oi; show m.oi ≤ i + 1; omega, by show 0 ≤ i + 1; omega⟩
    · exact h.mono

theorem pop (h : Ok base i m) : Ok base (i + 1) m.pop := by
  unfold Mst.pop
  split
  · exact h.mono
  · split
    · exact ⟨h.d1, h.lv0, h.up, h.le, h.ov, h.i0, h.vi, by have := h.oi; show m.oi ≤ i + 1; omega, by have := h.oe; show m.oe - 1 ≤ i + 1; omega⟩
    · split
      · next q =>
        refine ⟨by show 1 ≤ m.d - 1; omega, h.lv0, fun j hj => h.up j (by have : j + 1 < m.d - 1 := hj; omega), fun j hj => h.le j (by have : j < m.d - 1 := hj; omega), fun j hj => h.ov j (by have : j < m.d - 1 := hj; omega), h.i0, ?_, by have := h.oi; show m.oi ≤ i + 1; omega, by have := h.oe; show m.oe ≤ i + 1; omega⟩
        show m.vi = cnt m.iso (m.d - 1)
        rw [h.vi]
        obtain ⟨r, hr⟩ : ∃ r, m.d = r + 1 := ⟨m.d - 1, by omega⟩
        have q1 := q.1
        unfold Mst.tiso at q1
        rw [hr, Nat.add_sub_cancel] at q1
        rw [hr, Nat.add_sub_cancel, cnt, if_neg (by rw [q1]; decide)]; rfl
      · exact h.mono

theorem step (h : Ok base i m) (t fs : Int) : Ok base (i + 1) (m.step t fs) := by
  unfold Mst.step
  repeat' split
  · exact h.embed (by omega)
  · exact h.embed (by omega)
  · exact h.embed (by omega)
  · exact h.embed (by omega)
  · exact h.pop
  · exact h.begin_
  · exact h.begin_
  · exact h.begin_
  · exact h.close
  · exact h.mono
end Ok
end Mst

/-- The state ahead of character i. -/
def mst (x : Nat → Int) (fs : Nat → Int) (base : Int) : Nat → Mst
  | 0 => Mst.start base
  | i + 1 => (mst x fs base i).step (x i) (fs i)

theorem mst_ok {x fs : Nat → Int} {base : Int} (hb : base ≤ 125) : ∀ i, Mst.Ok base i (mst x fs base i)
  | 0 => Mst.Ok.start base hb
  | i + 1 => (mst_ok hb i).step _ _

/-- Does X9 remove it? -/
def remN (t : Int) : Bool := decide (t = 14 ∨ t = 15 ∨ t = 16 ∨ t = 17 ∨ t = 18 ∨ t = 11)

/-- The level of a character that is not removed. -/
def lvl (x : Nat → Int) (fs : Nat → Int) (base : Int) (i : Nat) : Int :=
  if x i = 22 then (mst x fs base i).close.top else if x i = 7 then base else (mst x fs base i).top

theorem lvl_range {x fs : Nat → Int} {base : Int} (h0 : 0 ≤ base) (hb : base ≤ 125) (i : Nat) : base ≤ lvl x fs base i ∧ lvl x fs base i ≤ 125 := by
  have h := mst_ok (x := x) (fs := fs) hb i
  unfold lvl
  split
  · exact ⟨(h.close.top_ge h0).1, h.close.top_le⟩
  · split
    · omega
    · exact ⟨(h.top_ge h0).1, h.top_le⟩

end Go.Proofs.YtjelgbfgciaapaaDoor
