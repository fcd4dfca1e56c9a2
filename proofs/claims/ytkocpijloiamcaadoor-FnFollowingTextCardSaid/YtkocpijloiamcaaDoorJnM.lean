/- FnMirrored in plain Lean: the left and the right side exchanged. No program in sight. -/
import Derived.Test.YtkocpijloiamcaaDoorJn1
namespace Go.Proofs.YtkocpijloiamcaaDoor
set_option linter.unusedVariables false

/-- The number of the class on the other side. -/
def mirN (v : Int) : Int := if v = 0 then 1 else if v = 1 then 0 else if v = 16 then 17 else if v = 17 then 16 else if v = 14 then 15 else if v = 15 then 14 else if v = 19 then 20 else if v = 20 then 19 else v
/-- Has a class another side, or none? -/
def hasN (v : Int) : Prop := v ≠ 2 ∧ v ≠ 3 ∧ v ≠ 4 ∧ v ≠ 5 ∧ v ≠ 6 ∧ v ≠ 13 ∧ v ≠ 21

/-- Embeddings, overrides and isolate initiators. -/
def fmtQ (t : Int) : Bool := decide (t = 14 ∨ t = 15 ∨ t = 16 ∨ t = 17 ∨ t = 19 ∨ t = 20 ∨ t = 21)
def fmtN (x : Nat → Int) : Nat → Nat
  | 0 => 0
  | k + 1 => fmtN x k + if fmtQ (x k) = true then 1 else 0

theorem fmtN_mono {x : Nat → Int} : ∀ {a b : Nat}, a ≤ b → fmtN x a ≤ fmtN x b
  | a, 0, h => by have : a = 0 := by omega
                  subst this; exact Nat.le_refl _
  | a, b + 1, h => by
    by_cases e : a = b + 1
    · subst e; exact Nat.le_refl _
    · have := fmtN_mono (x := x) (show a ≤ b by omega)
      rw [fmtN]; split <;> omega

/-- Few formats leave room for all: nothing is too deep. -/
structure Mst.Shal (base : Int) (f : Nat) (m : Mst) : Prop where
  d1 : 1 ≤ m.d
  le : ∀ j, j < m.d → 0 ≤ m.lv j ∧ m.lv j ≤ base + 2 * (f : Int)
  oi : m.oi = 0
  oe : m.oe = 0

theorem Mst.Shal.room {base : Int} {f : Nat} {m : Mst} (h : Mst.Shal base f m) (hb : base + 2 * (f : Int) ≤ 123) (odd : Int) : m.room odd := by
  have h1 := h.le (m.d - 1) (by have := h.d1; omega)
  refine ⟨?_, h.oi, h.oe⟩
  have : m.top = m.lv (m.d - 1) := rfl
  unfold Mst.next
  split <;> omega

theorem Mst.Shal.mono {base : Int} {f g : Nat} {m : Mst} (h : Mst.Shal base f m) (hf : f ≤ g) : Mst.Shal base g m := ⟨h.d1, fun j hj => by have := h.le j hj; omega, h.oi, h.oe⟩

theorem Mst.Shal.push {base : Int} {f : Nat} {m : Mst} (h : Mst.Shal base f m) (odd o : Int) (b : Bool) (v : Nat) : Mst.Shal base (f + 1) { m.push (m.next odd) o b with vi := v } := by
  have ht := h.le (m.d - 1) (by have := h.d1; omega)
  have htop : m.top = m.lv (m.d - 1) := rfl
  have hn : m.top + 1 ≤ m.next odd ∧ m.next odd ≤ m.top + 2 := by unfold Mst.next; split <;> omega
  refine ⟨by show 1 ≤ m.d + 1; omega, fun j hj => ?_, h.oi, h.oe⟩
  show 0 ≤ Mst.up m.lv m.d (m.next odd) j ∧ Mst.up m.lv m.d (m.next odd) j ≤ base + 2 * ((f + 1 : Nat) : Int)
  have hj' : j < m.d + 1 := hj
  by_cases e : j = m.d
  · rw [e, Mst.up_at]; omega
  · rw [Mst.up_ne _ _ e]
    have := h.le j (by omega)
    omega

theorem Mst.Shal.cut {base : Int} {f : Nat} {m : Mst} (h : Mst.Shal base f m) {d : Nat} (h1 : 1 ≤ d) (h2 : d ≤ m.d) (v : Nat) : Mst.Shal base f { m with d := d, oe := 0, vi := v } :=
  ⟨h1, fun j hj => h.le j (by have : j < d := hj; omega), h.oi, rfl⟩

theorem Mst.pop_flat {m : Mst} (h1 : m.oi = 0) (h2 : m.oe = 0) : m.pop = if m.tiso = false ∧ 1 < m.d then { m with d := m.d - 1 } else m := by
  unfold Mst.pop
  rw [h1, h2, if_neg (by omega), if_neg (by omega)]
theorem Mst.close_flat {m : Mst} (h1 : m.oi = 0) : m.close = if 0 < m.vi then { m with oe := 0, d := Mst.below m.iso m.d, vi := m.vi - 1 } else m := by
  unfold Mst.close
  rw [h1, if_neg (by omega)]

section
variable {x fs : Nat → Int} {base : Int}
theorem shal (hb0 : 0 ≤ base) (hb1 : base ≤ 1) : ∀ i, fmtN x i ≤ 60 → Mst.Shal base (fmtN x i) (mst x fs base i)
  | 0, _ => ⟨by show 1 ≤ 1; omega, fun j _ => by show 0 ≤ base ∧ base ≤ base + 2 * ((0 : Nat) : Int); omega, rfl, rfl⟩
  | i + 1, hf => by
    have hm := fmtN_mono (x := x) (show i ≤ i + 1 by omega)
    have ih := shal hb0 hb1 i (by omega)
    have ok := mst_ok (x := x) (fs := fs) (base := base) (by omega) i
    have room := fun odd => ih.room (by omega) odd
    show Mst.Shal base (fmtN x (i + 1)) ((mst x fs base i).step (x i) (fs i))
    by_cases hq : fmtQ (x i) = true
    · have e : fmtN x (i + 1) = fmtN x i + 1 := by rw [fmtN, if_pos hq]
      rw [e]
      have he : ∀ odd o, Mst.Shal base (fmtN x i + 1) ((mst x fs base i).embed odd o) := fun odd o => by
        unfold Mst.embed
        rw [if_pos (room odd)]
        exact ih.push odd o false _
      have hg : ∀ odd, Mst.Shal base (fmtN x i + 1) ((mst x fs base i).begin_ odd) := fun odd => by
        unfold Mst.begin_
        rw [if_pos (room odd)]
        exact ih.push odd (-1) true _
      have hq2 := of_decide_eq_true hq
      unfold Mst.step
      repeat' split
      · exact he _ _
      · exact he _ _
      · exact he _ _
      · exact he _ _
      · omega
      · exact hg _
      · exact hg _
      · exact hg _
      · omega
      · omega
    · have e : fmtN x (i + 1) = fmtN x i := by rw [fmtN, if_neg hq]; rfl
      rw [e]
      have hq2 : ¬ _ := fun h => hq (decide_eq_true h)
      unfold Mst.step
      rw [if_neg (by omega), if_neg (by omega), if_neg (by omega), if_neg (by omega)]
      split
      · unfold Mst.pop
        rw [if_neg (by rw [ih.oi]; omega), if_neg (by rw [ih.oe]; omega)]
        split
        · next q =>
          have := ih.cut (d := (mst x fs base i).d - 1) (by omega) (by omega) (mst x fs base i).vi
          refine ⟨this.d1, this.le, ih.oi, ih.oe⟩
        · exact ih
      · rw [if_neg (by omega), if_neg (by omega), if_neg (by omega)]
        split
        · unfold Mst.close
          rw [if_neg (by rw [ih.oi]; omega)]
          split
          · next q =>
            have hp := ok.below_pos q
            exact ih.cut (by omega) (by omega) _
          · exact ih
        · exact ih
end

/-- Two states, the one of the text with the sides exchanged, a level higher. -/
structure MirS (m m' : Mst) : Prop where
  d : m'.d = m.d
  lv : ∀ j, j < m.d → m'.lv j = m.lv j + 1
  ov : ∀ j, j < m.d → m'.ov j = if m.ov j = 0 then 1 else if m.ov j = 1 then 0 else -1
  iso : ∀ j, j < m.d → m'.iso j = m.iso j
  vi : m'.vi = m.vi

theorem below_congr {f g : Nat → Bool} : ∀ d, (∀ j, j < d → f j = g j) → Mst.below f d = Mst.below g d
  | 0, _ => rfl
  | d + 1, h => by rw [Mst.below, Mst.below, h d (by omega), below_congr d (fun j hj => h j (by omega))]

theorem MirS.push {m m' : Mst} (h : MirS m m') (l l' o o' : Int) (b : Bool) (hl : l' = l + 1) (ho : o' = if o = 0 then 1 else if o = 1 then 0 else -1) (v v' : Nat) (hv : v' = v) :
    MirS { m.push l o b with vi := v } { m'.push l' o' b with vi := v' } := by
  refine ⟨by show m'.d + 1 = m.d + 1; rw [h.d], fun j hj => ?_, fun j hj => ?_, fun j hj => ?_, hv⟩
  · show Mst.up m'.lv m'.d l' j = Mst.up m.lv m.d l j + 1
    have hj' : j < m.d + 1 := hj
    rw [h.d]
    by_cases e : j = m.d
    · rw [e, Mst.up_at, Mst.up_at, hl]
    · rw [Mst.up_ne _ _ e, Mst.up_ne _ _ e]; exact h.lv j (by omega)
  · show Mst.up m'.ov m'.d o' j = if Mst.up m.ov m.d o j = 0 then 1 else if Mst.up m.ov m.d o j = 1 then 0 else -1
    have hj' : j < m.d + 1 := hj
    rw [h.d]
    by_cases e : j = m.d
    · rw [e, Mst.up_at, Mst.up_at]; exact ho
    · rw [Mst.up_ne _ _ e, Mst.up_ne _ _ e]; exact h.ov j (by omega)
  · show Mst.up m'.iso m'.d b j = Mst.up m.iso m.d b j
    have hj' : j < m.d + 1 := hj
    rw [h.d]
    by_cases e : j = m.d
    · rw [e, Mst.up_at, Mst.up_at]
    · rw [Mst.up_ne _ _ e, Mst.up_ne _ _ e]; exact h.iso j (by omega)

theorem MirS.next {m m' : Mst} (h : MirS m m') (h1 : 1 ≤ m.d) {odd odd' : Int} (ho : odd = 0 ∧ odd' = 1 ∨ odd = 1 ∧ odd' = 0) : m'.next odd' = m.next odd + 1 := by
  have ht : m'.top = m.top + 1 := by
    unfold Mst.top
    rw [h.d]; exact h.lv _ (by omega)
  unfold Mst.next
  rw [ht]
  by_cases q : (m.top + 1) % 2 = odd
  · rw [if_pos q, if_pos (by omega)]
  · rw [if_neg q, if_neg (by omega)]
    omega

section
variable {x x' fs fs' : Nat → Int} {n : Nat}

theorem mirS (hx : ∀ i, i < n → x' i = mirN (x i)) (hh : ∀ i, i < n → hasN (x i)) (hf : fmtN x n ≤ 60) : ∀ i, i ≤ n → MirS (mst x fs 0 i) (mst x' fs' 1 i) ∧ fmtN x' i = fmtN x i
  | 0, _ => ⟨⟨rfl, fun _ _ => rfl, fun _ _ => rfl, fun _ _ => rfl, rfl⟩, rfl⟩
  | i + 1, hi => by
    obtain ⟨ih, ihf⟩ := mirS hx hh hf i (by omega)
    have hfi := fmtN_mono (x := x) (show i ≤ n by omega)
    have s := shal (x := x) (fs := fs) (base := 0) (by omega) (by omega) i (by omega)
    have s' := shal (x := x') (fs := fs') (base := 1) (by omega) (by omega) i (by omega)
    have ok := mst_ok (x := x) (fs := fs) (base := 0) (by omega) i
    have hd1 := s.d1
    have room := fun odd => s.room (by omega) odd
    have room' := fun odd => s'.room (by omega) odd
    have hxi := hx i (by omega)
    have hhi := hh i (by omega)
    unfold hasN at hhi
    have he : ∀ odd odd' o o', (odd = 0 ∧ odd' = 1 ∨ odd = 1 ∧ odd' = 0) → o' = (if o = 0 then 1 else if o = 1 then 0 else -1) → MirS ((mst x fs 0 i).embed odd o) ((mst x' fs' 1 i).embed odd' o') := fun odd odd' o o' h1 h2 => by
      unfold Mst.embed
      rw [if_pos (room odd), if_pos (room' odd')]
      exact ih.push _ _ o o' false (ih.next hd1 h1) h2 (mst x fs 0 i).vi (mst x' fs' 1 i).vi ih.vi
    have hg : ∀ odd odd', (odd = 0 ∧ odd' = 1 ∨ odd = 1 ∧ odd' = 0) → MirS ((mst x fs 0 i).begin_ odd) ((mst x' fs' 1 i).begin_ odd') := fun odd odd' h1 => by
      unfold Mst.begin_
      rw [if_pos (room odd), if_pos (room' odd')]
      exact ih.push _ _ (-1) (-1) true (ih.next hd1 h1) (by rw [if_neg (by omega), if_neg (by omega)]) _ _ (by rw [ih.vi])
    have hp : MirS (mst x fs 0 i).pop (mst x' fs' 1 i).pop := by
      rw [Mst.pop_flat s.oi s.oe, Mst.pop_flat s'.oi s'.oe]
      have ht : (mst x' fs' 1 i).tiso = (mst x fs 0 i).tiso := by unfold Mst.tiso; rw [ih.d]; exact ih.iso _ (by omega)
      by_cases q : (mst x fs 0 i).tiso = false ∧ 1 < (mst x fs 0 i).d
      · rw [if_pos q, if_pos ⟨by rw [ht]; exact q.1, by rw [ih.d]; exact q.2⟩]
        exact ⟨by show (mst x' fs' 1 i).d - 1 = (mst x fs 0 i).d - 1; rw [ih.d], fun j hj => ih.lv j (by have : j < (mst x fs 0 i).d - 1 := hj; omega), fun j hj => ih.ov j (by have : j < (mst x fs 0 i).d - 1 := hj; omega), fun j hj => ih.iso j (by have : j < (mst x fs 0 i).d - 1 := hj; omega), ih.vi⟩
      · rw [if_neg q, if_neg (by rw [ht, ih.d]; exact q)]; exact ih
    have hc : MirS (mst x fs 0 i).close (mst x' fs' 1 i).close := by
      rw [Mst.close_flat s.oi, Mst.close_flat s'.oi]
      by_cases q : 0 < (mst x fs 0 i).vi
      · have hbp := ok.below_pos q
        have hbe : Mst.below (mst x' fs' 1 i).iso (mst x' fs' 1 i).d = Mst.below (mst x fs 0 i).iso (mst x fs 0 i).d := by rw [ih.d]; exact below_congr _ ih.iso
        rw [if_pos q, if_pos (by rw [ih.vi]; exact q)]
        exact ⟨hbe, fun j hj => ih.lv j (by have : j < Mst.below (mst x fs 0 i).iso (mst x fs 0 i).d := hj; omega), fun j hj => ih.ov j (by have : j < Mst.below (mst x fs 0 i).iso (mst x fs 0 i).d := hj; omega), fun j hj => ih.iso j (by have : j < Mst.below (mst x fs 0 i).iso (mst x fs 0 i).d := hj; omega), by show (mst x' fs' 1 i).vi - 1 = (mst x fs 0 i).vi - 1; rw [ih.vi]⟩
      · rw [if_neg q, if_neg (by rw [ih.vi]; exact q)]; exact ih
    refine ⟨?_, ?_⟩
    · show MirS ((mst x fs 0 i).step (x i) (fs i)) ((mst x' fs' 1 i).step (x' i) (fs' i))
      rw [hxi]
      unfold mirN
      by_cases c0 : x i = 0
      · rw [c0]; exact ih
      by_cases c1 : x i = 1
      · rw [c1]; exact ih
      by_cases c16 : x i = 16
      · rw [c16]; exact he 0 1 (-1) (-1) (.inl ⟨rfl, rfl⟩) rfl
      by_cases c17 : x i = 17
      · rw [c17]; exact he 1 0 (-1) (-1) (.inr ⟨rfl, rfl⟩) rfl
      by_cases c14 : x i = 14
      · rw [c14]; exact he 0 1 0 1 (.inl ⟨rfl, rfl⟩) rfl
      by_cases c15 : x i = 15
      · rw [c15]; exact he 1 0 1 0 (.inr ⟨rfl, rfl⟩) rfl
      by_cases c19 : x i = 19
      · rw [c19]; exact hg 0 1 (.inl ⟨rfl, rfl⟩)
      by_cases c20 : x i = 20
      · rw [c20]; exact hg 1 0 (.inr ⟨rfl, rfl⟩)
      rw [if_neg c0, if_neg c1, if_neg c16, if_neg c17, if_neg c14, if_neg c15, if_neg c19, if_neg c20]
      unfold Mst.step
      rw [if_neg c17, if_neg c16, if_neg c15, if_neg c14, if_neg c17, if_neg c16, if_neg c15, if_neg c14]
      by_cases c18 : x i = 18
      · rw [if_pos c18, if_pos c18]; exact hp
      rw [if_neg c18, if_neg c18, if_neg c20, if_neg c20, if_neg c19, if_neg c19, if_neg hhi.2.2.2.2.2.2, if_neg hhi.2.2.2.2.2.2]
      by_cases c22 : x i = 22
      · rw [if_pos c22, if_pos c22]; exact hc
      rw [if_neg c22, if_neg c22]; exact ih
    · rw [fmtN, fmtN, ihf, hxi]
      have : fmtQ (mirN (x i)) = fmtQ (x i) := by
        unfold fmtQ mirN
        rw [Bool.eq_iff_iff, decide_eq_true_iff, decide_eq_true_iff]
        repeat' split
        all_goals omega
      rw [this]
end
end Go.Proofs.YtkocpijloiamcaaDoor
