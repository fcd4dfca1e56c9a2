/- What stands between an isolate initiator and its matching PDI leaves the state of X1 to X8 as it was. No program in sight. -/
import Derived.Test.YtjelgbfgciaapaaDoorExp
import Derived.Test.YtjelgbfgciaapaaDoorIso
import Derived.Test.YtjelgbfgciaapaaDoorIniN
namespace Go.Proofs.YtjelgbfgciaapaaDoor
set_option linter.unusedVariables false
namespace Mst

/-- Alike as far as it counts. -/
structure Eqv (a b : Mst) : Prop where
  d : a.d = b.d
  lv : ∀ j, j < a.d → a.lv j = b.lv j
  ov : ∀ j, j < a.d → a.ov j = b.ov j
  iso : ∀ j, j < a.d → a.iso j = b.iso j
  oi : a.oi = b.oi
  oe : a.oe = b.oe
  vi : a.vi = b.vi

theorem cnt_congr {f g : Nat → Bool} : ∀ d, (∀ j, j < d → f j = g j) → cnt f d = cnt g d
  | 0, _ => rfl
  | d + 1, h => by rw [cnt, cnt, cnt_congr d (fun j hj => h j (by omega)), h d (by omega)]

theorem cnt_mono (f : Nat → Bool) {k : Nat} : ∀ d, k ≤ d → cnt f k ≤ cnt f d
  | 0, h => by have : k = 0 := by omega
               subst this; exact Nat.le_refl _
  | d + 1, h => by
    by_cases e : k = d + 1
    · subst e; exact Nat.le_refl _
    · have := cnt_mono f (k := k) d (by omega)
      rw [cnt]; omega

theorem below_ge {f : Nat → Bool} {k : Nat} (hk : f k = true) : ∀ d, k < d → k ≤ below f d
  | 0, h => absurd h (Nat.not_lt_zero _)
  | d + 1, h => by
    rw [below]
    by_cases q : f d = true
    · rw [if_pos q]; omega
    · rw [if_neg q]
      by_cases e : k = d
      · subst e; exact absurd hk q
      · exact below_ge hk d (by omega)

/-- Inside a valid isolate that was begun at a, at a depth. -/
structure InV (a : Mst) (l : Int) (D : Nat) (b : Mst) : Prop where
  d : a.d < b.d
  lv : ∀ j, j < a.d → b.lv j = a.lv j
  ov : ∀ j, j < a.d → b.ov j = a.ov j
  iso : ∀ j, j < a.d → b.iso j = a.iso j
  at_ : b.iso a.d = true
  lvl : b.lv a.d = l
  c : cnt b.iso b.d + b.oi = cnt a.iso a.d + D
  vi : b.vi = cnt b.iso b.d

/-- Inside an isolate that was too deep. -/
structure InO (a : Mst) (D : Nat) (b : Mst) : Prop where
  e : b = { a with oi := a.oi + D }

namespace InV
variable {a b : Mst} {l : Int} {D : Nat}

theorem cnt_at (h : InV a l D b) : cnt b.iso (a.d + 1) = cnt a.iso a.d + 1 := by
  rw [cnt, if_pos h.at_, cnt_congr a.d h.iso]

theorem cnt_ge (h : InV a l D b) : cnt a.iso a.d + 1 ≤ cnt b.iso b.d := by
  have := cnt_mono b.iso (k := a.d + 1) b.d h.d
  rw [h.cnt_at] at this; exact this

theorem begin_ (h : InV a l D b) (odd : Int) : InV a l (D + 1) (b.begin_ odd) := by
  unfold Mst.begin_
  have hd := h.d
  split
  · refine ⟨?_, fun j hj => ?_, fun j hj => ?_, fun j hj => ?_, ?_, ?_, ?_, ?_⟩
    · show a.d < b.d + 1; omega
    · show up b.lv b.d _ j = _; rw [up_ne _ _ (by omega)]; exact h.lv j hj
    · show up b.ov b.d _ j = _; rw [up_ne _ _ (by omega)]; exact h.ov j hj
    · show up b.iso b.d _ j = _; rw [up_ne _ _ (by omega)]; exact h.iso j hj
    · show up b.iso b.d _ a.d = _; rw [up_ne _ _ (by omega)]; exact h.at_
    · show up b.lv b.d _ a.d = _; rw [up_ne _ _ (by omega)]; exact h.lvl
    · show cnt (up b.iso b.d true) (b.d + 1) + b.oi = _
      have := h.c
      rw [cnt, cnt_up b.d b.d (Nat.le_refl _), up_at, if_pos rfl]; omega
    · show b.vi + 1 = cnt (up b.iso b.d true) (b.d + 1)
      have := h.vi
      rw [cnt, cnt_up b.d b.d (Nat.le_refl _), up_at, if_pos rfl]; omega
  · exact ⟨hd, h.lv, h.ov, h.iso, h.at_, h.lvl, by show cnt b.iso b.d + (b.oi + 1) = _; have := h.c; omega, h.vi⟩

theorem embed (h : InV a l D b) (odd av : Int) : InV a l D (b.embed odd av) := by
  unfold Mst.embed
  have hd := h.d
  split
  · refine ⟨?_, fun j hj => ?_, fun j hj => ?_, fun j hj => ?_, ?_, ?_, ?_, ?_⟩
    · show a.d < b.d + 1; omega
    · show up b.lv b.d _ j = _; rw [up_ne _ _ (by omega)]; exact h.lv j hj
    · show up b.ov b.d _ j = _; rw [up_ne _ _ (by omega)]; exact h.ov j hj
    · show up b.iso b.d _ j = _; rw [up_ne _ _ (by omega)]; exact h.iso j hj
    · show up b.iso b.d _ a.d = _; rw [up_ne _ _ (by omega)]; exact h.at_
    · show up b.lv b.d _ a.d = _; rw [up_ne _ _ (by omega)]; exact h.lvl
    · show cnt (up b.iso b.d false) (b.d + 1) + b.oi = _
      have := h.c
      rw [cnt, cnt_up b.d b.d (Nat.le_refl _), up_at, if_neg (by decide)]; omega
    · show b.vi = cnt (up b.iso b.d false) (b.d + 1)
      have := h.vi
      rw [cnt, cnt_up b.d b.d (Nat.le_refl _), up_at, if_neg (by decide)]; omega
  · split
    · exact ⟨hd, h.lv, h.ov, h.iso, h.at_, h.lvl, h.c, h.vi⟩
    · exact h

theorem pop (h : InV a l D b) : InV a l D b.pop := by
  unfold Mst.pop
  have hd := h.d
  split
  · exact h
  · split
    · exact ⟨hd, h.lv, h.ov, h.iso, h.at_, h.lvl, h.c, h.vi⟩
    · split
      · next q =>
        have q1 := q.1
        unfold Mst.tiso at q1
        have hne : a.d ≠ b.d - 1 := fun e => by rw [← e, h.at_] at q1; exact absurd q1 (by decide)
        obtain ⟨r, hr⟩ : ∃ r, b.d = r + 1 := ⟨b.d - 1, by omega⟩
        have hc := h.c
        have hv := h.vi
        rw [hr, Nat.add_sub_cancel] at q1
        have e1 : cnt b.iso b.d = cnt b.iso (b.d - 1) := by rw [hr, Nat.add_sub_cancel, cnt, if_neg (by rw [q1]; decide)]; rfl
        exact ⟨by show a.d < b.d - 1; omega, h.lv, h.ov, h.iso, h.at_, h.lvl, by show cnt b.iso (b.d - 1) + b.oi = _; omega, by show b.vi = cnt b.iso (b.d - 1); omega⟩
      · exact h

theorem close (h : InV a l (D + 1) b) (hD : 1 ≤ D) : InV a l D b.close := by
  unfold Mst.close
  have hd := h.d
  have hc := h.c
  have hv := h.vi
  have hg := h.cnt_ge
  split
  · exact ⟨hd, h.lv, h.ov, h.iso, h.at_, h.lvl, by show cnt b.iso b.d + (b.oi - 1) = _; omega, h.vi⟩
  · split
    · have hb := below_cnt (iso := b.iso) b.d (by omega)
      have hlt : a.d < below b.iso b.d := by
        rcases Nat.lt_or_ge a.d (below b.iso b.d) with h1 | h1
        · exact h1
        · have := cnt_mono b.iso (k := below b.iso b.d) a.d h1
          rw [cnt_congr a.d h.iso] at this
          omega
      exact ⟨hlt, h.lv, h.ov, h.iso, h.at_, h.lvl, by show cnt b.iso (below b.iso b.d) + b.oi = _; omega, by show b.vi - 1 = cnt b.iso (below b.iso b.d); omega⟩
    · omega

theorem last (h : InV a l 1 b) : b.oi = 0 ∧ 0 < b.vi ∧ below b.iso b.d = a.d := by
  have hd := h.d
  have hc := h.c
  have hv := h.vi
  have hg := h.cnt_ge
  refine ⟨by omega, by omega, ?_⟩
  have hb := below_cnt (iso := b.iso) b.d (by omega)
  have h1 := below_ge (f := b.iso) h.at_ b.d hd
  rcases Nat.lt_or_ge a.d (below b.iso b.d) with h2 | h2
  · have := cnt_mono b.iso (k := a.d + 1) (below b.iso b.d) h2
    rw [h.cnt_at] at this; omega
  · omega

theorem closed (h : InV a l 1 b) (h0 : a.oi = 0) (h1 : a.oe = 0) (h2 : a.vi = cnt a.iso a.d) : Eqv b.close a := by
  obtain ⟨q0, q1, q2⟩ := h.last
  have e : b.close = { b with oe := 0, d := below b.iso b.d, vi := b.vi - 1 } := by unfold Mst.close; rw [if_neg (by omega), if_pos q1]
  have hc := h.c
  have hv := h.vi
  rw [e]
  refine ⟨q2, fun j hj => h.lv j (by rw [← q2]; exact hj), fun j hj => h.ov j (by rw [← q2]; exact hj), fun j hj => h.iso j (by rw [← q2]; exact hj), by show b.oi = a.oi; omega, h1.symm, by show b.vi - 1 = a.vi; omega⟩
end InV

namespace InO
variable {a b : Mst} {D : Nat}
theorem begin_ (h : InO a D b) (hD : 1 ≤ D) (odd : Int) : InO a (D + 1) (b.begin_ odd) := by
  obtain ⟨rfl⟩ := h
  refine ⟨?_⟩
  unfold Mst.begin_
  rw [if_neg (fun r => by have := r.2.1; dsimp only at this; omega)]
  simp only [Nat.add_assoc]
theorem embed (h : InO a D b) (hD : 1 ≤ D) (odd av : Int) : InO a D (b.embed odd av) := by
  obtain ⟨rfl⟩ := h
  refine ⟨?_⟩
  unfold Mst.embed
  rw [if_neg (fun r => by have := r.2.1; dsimp only at this; omega), if_neg (by dsimp only; omega)]
theorem pop (h : InO a D b) (hD : 1 ≤ D) : InO a D b.pop := by
  obtain ⟨rfl⟩ := h
  refine ⟨?_⟩
  unfold Mst.pop
  rw [if_pos (by dsimp only; omega)]
theorem close (h : InO a (D + 1) b) : InO a D b.close := by
  obtain ⟨rfl⟩ := h
  refine ⟨?_⟩
  unfold Mst.close
  rw [if_pos (by dsimp only; omega)]
  simp only [show a.oi + (D + 1) - 1 = a.oi + D by omega]
end InO

/-- Inside of the isolate that an initiator of a parity begins at a. -/
def In (a : Mst) (odd : Int) (D : Nat) (b : Mst) : Prop := (a.room odd ∧ InV a (a.next odd) D b) ∨ (¬ a.room odd ∧ InO a D b)

theorem In.start {a : Mst} (hv : a.vi = cnt a.iso a.d) (odd : Int) : In a odd 1 (a.begin_ odd) := by
  unfold In Mst.begin_
  by_cases r : a.room odd
  · rw [if_pos r]
    refine .inl ⟨r, ?_, fun j hj => ?_, fun j hj => ?_, fun j hj => ?_, ?_, ?_, ?_, ?_⟩
    · show a.d < a.d + 1; omega
    · show up a.lv a.d _ j = _; rw [up_ne _ _ (by omega)]
    · show up a.ov a.d _ j = _; rw [up_ne _ _ (by omega)]
    · show up a.iso a.d _ j = _; rw [up_ne _ _ (by omega)]
    · show up a.iso a.d _ a.d = _; rw [up_at]
    · show up a.lv a.d _ a.d = _; rw [up_at]
    · show cnt (up a.iso a.d true) (a.d + 1) + a.oi = _
      rw [cnt, cnt_up a.d a.d (Nat.le_refl _), up_at, if_pos rfl, r.2.1]
    · show a.vi + 1 = cnt (up a.iso a.d true) (a.d + 1)
      rw [cnt, cnt_up a.d a.d (Nat.le_refl _), up_at, if_pos rfl, hv]
  · rw [if_neg r]
    exact .inr ⟨r, ⟨rfl⟩⟩

theorem In.step {a b : Mst} {odd : Int} {D : Nat} (h : In a odd D b) (hD : 1 ≤ D) (t fs : Int) :
    (iniB t = true → In a odd (D + 1) (b.step t fs)) ∧ (t = 22 → 2 ≤ D → In a odd (D - 1) (b.step t fs)) ∧ (iniB t = false → t ≠ 22 → In a odd D (b.step t fs)) := by
  have hI : iniB t = decide (t = 19 ∨ t = 20 ∨ t = 21) := rfl
  refine ⟨fun hi => ?_, fun ht h2 => ?_, fun hi ht => ?_⟩
  · rw [hI, decide_eq_true_eq] at hi
    have hb : ∀ o, In a odd (D + 1) (b.begin_ o) := fun o => by
      rcases h with ⟨r, h⟩ | ⟨r, h⟩
      · exact .inl ⟨r, h.begin_ o⟩
      · exact .inr ⟨r, h.begin_ hD o⟩
    unfold Mst.step
    rw [if_neg (by omega), if_neg (by omega), if_neg (by omega), if_neg (by omega), if_neg (by omega)]
    rcases hi with rfl | rfl | rfl
    · rw [if_neg (by omega), if_pos rfl]; exact hb _
    · rw [if_pos rfl]; exact hb _
    · rw [if_neg (by omega), if_neg (by omega), if_pos rfl]; exact hb _
  · subst ht
    have e : b.step 22 fs = b.close := by
      unfold Mst.step
      rw [if_neg (by omega), if_neg (by omega), if_neg (by omega), if_neg (by omega), if_neg (by omega), if_neg (by omega), if_neg (by omega), if_neg (by omega), if_pos rfl]
    rw [e]
    obtain ⟨D', rfl⟩ : ∃ D', D = D' + 1 := ⟨D - 1, by omega⟩
    rcases h with ⟨r, h⟩ | ⟨r, h⟩
    · exact .inl ⟨r, h.close (by omega)⟩
    · exact .inr ⟨r, h.close⟩
  · rw [hI, decide_eq_false_iff_not] at hi
    have he : ∀ o s, In a odd D (b.embed o s) := fun o s => by
      rcases h with ⟨r, h⟩ | ⟨r, h⟩
      · exact .inl ⟨r, h.embed o s⟩
      · exact .inr ⟨r, h.embed hD o s⟩
    unfold Mst.step
    split
    · exact he _ _
    · split
      · exact he _ _
      · split
        · exact he _ _
        · split
          · exact he _ _
          · split
            · rcases h with ⟨r, h⟩ | ⟨r, h⟩
              · exact .inl ⟨r, h.pop⟩
              · exact .inr ⟨r, h.pop hD⟩
            · repeat rw [if_neg (by omega)]
              exact h

theorem In.closed {a b : Mst} {odd : Int} (h : In a odd 1 b) (h2 : a.vi = cnt a.iso a.d) : Eqv b.close a := by
  rcases h with ⟨r, h⟩ | ⟨r, h⟩
  · exact h.closed r.2.1 r.2.2 h2
  · have : b.close = a := (h.close (D := 0)).e
    rw [this]
    exact ⟨rfl, fun _ _ => rfl, fun _ _ => rfl, fun _ _ => rfl, rfl, rfl, rfl⟩
end Mst

section
variable {x fs : Nat → Int} {base : Int} {n : Nat}

/-- The parity that an initiator asks for. -/
def oddOf (t fs : Int) : Int := if t = 20 then 1 else if t = 19 then 0 else fs

theorem step_ini {m : Mst} {t f : Int} (h : iniB t = true) : m.step t f = m.begin_ (oddOf t f) := by
  unfold iniB at h
  rw [decide_eq_true_eq] at h
  unfold Mst.step oddOf
  rw [if_neg (by omega), if_neg (by omega), if_neg (by omega), if_neg (by omega), if_neg (by omega)]
  rcases h with rfl | rfl | rfl
  · rw [if_neg (by omega), if_pos rfl, if_neg (by omega), if_pos rfl]
  · rw [if_pos rfl, if_pos rfl]
  · rw [if_neg (by omega), if_neg (by omega), if_pos rfl, if_neg (by omega), if_neg (by omega)]

theorem step_pdi {m : Mst} {f : Int} : m.step 22 f = m.close := by
  unfold Mst.step
  rw [if_neg (by omega), if_neg (by omega), if_neg (by omega), if_neg (by omega), if_neg (by omega), if_neg (by omega), if_neg (by omega), if_neg (by omega), if_pos rfl]

/-- Along a scan. -/
theorem in_scan {a : Mst} {odd : Int} (hv : a.vi = Mst.cnt a.iso a.d) : ∀ (f j D : Nat), j + f = n → 1 ≤ D → Mst.In a odd D (mst x fs base j) →
    (∀ k, j ≤ k → k ≤ scan (iniN x) (pdiN x) n f j D → ∃ D', 1 ≤ D' ∧ Mst.In a odd D' (mst x fs base k)) ∧ (scan (iniN x) (pdiN x) n f j D < n → x (scan (iniN x) (pdiN x) n f j D) = 22 ∧ Mst.In a odd 1 (mst x fs base (scan (iniN x) (pdiN x) n f j D)))
  | 0, j, D, hj, hD, h => ⟨fun k h1 h2 => by
      rw [scan_none] at h2
      obtain rfl : k = j := by omega
      exact ⟨D, hD, h⟩, fun h => by rw [scan_none] at h; omega⟩
  | f + 1, j, D, hj, hD, h => by
    have hs := h.step hD (x j) (fs j)
    have hm : mst x fs base (j + 1) = (mst x fs base j).step (x j) (fs j) := rfl
    rw [← hm] at hs
    have go : ∀ D', 1 ≤ D' → Mst.In a odd D' (mst x fs base (j + 1)) → scan (iniN x) (pdiN x) n (f + 1) j D = scan (iniN x) (pdiN x) n f (j + 1) D' →
        (∀ k, j ≤ k → k ≤ scan (iniN x) (pdiN x) n (f + 1) j D → ∃ D', 1 ≤ D' ∧ Mst.In a odd D' (mst x fs base k)) ∧ (scan (iniN x) (pdiN x) n (f + 1) j D < n → x (scan (iniN x) (pdiN x) n (f + 1) j D) = 22 ∧ Mst.In a odd 1 (mst x fs base (scan (iniN x) (pdiN x) n (f + 1) j D))) := fun D' hD' hI e => by
      rw [e]
      obtain ⟨r1, r2⟩ := in_scan hv f (j + 1) D' (by omega) hD' hI
      refine ⟨fun k h1 h2 => ?_, r2⟩
      by_cases ek : k = j
      · subst ek; exact ⟨D, hD, h⟩
      · exact r1 k (by omega) h2
    by_cases h1 : iniN x j = true
    · exact go (D + 1) (by omega) (hs.1 h1) (scan_ini h1)
    · have h1' : iniN x j = false := by simpa using h1
      by_cases h2 : pdiN x j = true
      · have h22 : x j = 22 := by unfold pdiN at h2; simpa using h2
        by_cases h3 : D = 1
        · subst h3
          rw [scan_hit h1' h2]
          refine ⟨fun k q1 q2 => ?_, fun _ => ⟨h22, h⟩⟩
          obtain rfl : k = j := by omega
          exact ⟨1, hD, h⟩
        · exact go (D - 1) (by omega) (hs.2.1 h22 (by omega)) (scan_pdi h1' h2 h3)
      · have h2' : pdiN x j = false := by simpa using h2
        have h22 : x j ≠ 22 := fun e => by unfold pdiN at h2'; rw [e] at h2'; exact absurd h2' (by decide)
        exact go D hD (hs.2.2 h1' h22) (scan_other h1' h2')

/-- From an initiator on up to its end. -/
theorem in_isolate (hb : base ≤ 125) {i : Nat} (hi : i < n) (h : iniN x i = true) :
    (∀ k, i < k → k ≤ mat (iniN x) (pdiN x) n i → ∃ D, 1 ≤ D ∧ Mst.In (mst x fs base i) (oddOf (x i) (fs i)) D (mst x fs base k)) ∧
    (mat (iniN x) (pdiN x) n i < n → x (mat (iniN x) (pdiN x) n i) = 22 ∧ Mst.Eqv (mst x fs base (mat (iniN x) (pdiN x) n i)).close (mst x fs base i)) := by
  have ok := mst_ok (x := x) (fs := fs) hb i
  have e : mst x fs base (i + 1) = (mst x fs base i).begin_ (oddOf (x i) (fs i)) := step_ini h
  have h1 : Mst.In (mst x fs base i) (oddOf (x i) (fs i)) 1 (mst x fs base (i + 1)) := by rw [e]; exact Mst.In.start ok.vi _
  have := in_scan (x := x) (fs := fs) (base := base) (n := n) ok.vi (n - (i + 1)) (i + 1) 1 (by omega) (Nat.le_refl _) h1
  exact ⟨fun k hk hk2 => this.1 k hk hk2, fun hm => ⟨(this.2 hm).1, (this.2 hm).2.closed ok.vi⟩⟩

theorem Mst.Eqv.top {a b : Mst} (h : Mst.Eqv a b) (h1 : 1 ≤ a.d) : a.top = b.top := by
  unfold Mst.top
  rw [h.lv _ (by omega), h.d]

/-- A matching PDI lies on the level of its initiator. -/
theorem lvl_match (hb : base ≤ 125) {i : Nat} (hi : i < n) (h : iniN x i = true) (hm : mat (iniN x) (pdiN x) n i < n) : lvl x fs base (mat (iniN x) (pdiN x) n i) = lvl x fs base i := by
  obtain ⟨h22, he⟩ := (in_isolate (fs := fs) hb hi h).2 hm
  have hi' : x i = 19 ∨ x i = 20 ∨ x i = 21 := by unfold iniN iniB at h; simpa using h
  have ok := mst_ok (x := x) (fs := fs) hb i
  unfold lvl
  rw [if_pos h22, if_neg (by omega), if_neg (by omega), he.top (by rw [he.d]; exact ok.d1)]

/-- Inside of an isolate all lies higher, or all lies on the level of its initiator. -/
theorem lvl_inside (h0 : 0 ≤ base) (hb : base ≤ 125) {i : Nat} (hi : i < n) (h : iniN x i = true) :
    (∀ k, i < k → k < mat (iniN x) (pdiN x) n i → x k ≠ 7 → lvl x fs base i < lvl x fs base k) ∨ (∀ k, i < k → k < mat (iniN x) (pdiN x) n i → x k ≠ 7 → lvl x fs base k = lvl x fs base i) := by
  obtain ⟨hin, _⟩ := in_isolate (fs := fs) hb hi h
  have hi' : x i = 19 ∨ x i = 20 ∨ x i = 21 := by unfold iniN iniB at h; simpa using h
  have el : lvl x fs base i = (mst x fs base i).top := by unfold lvl; rw [if_neg (by omega), if_neg (by omega)]
  -- the state by which the level of k is told
  have key : ∀ k, i < k → k < mat (iniN x) (pdiN x) n i → x k ≠ 7 → ∃ (b : Mst) (q D : Nat), Mst.Ok base q b ∧ Mst.In (mst x fs base i) (oddOf (x i) (fs i)) D b ∧ lvl x fs base k = b.top := fun k h1 h2 h7 => by
    by_cases e : x k = 22
    · obtain ⟨D, hD, hI⟩ := hin (k + 1) (by omega) (by omega)
      have e2 : mst x fs base (k + 1) = (mst x fs base k).close := by show (mst x fs base k).step (x k) (fs k) = _; rw [e, step_pdi]
      rw [e2] at hI
      exact ⟨_, k + 1, D, (mst_ok (x := x) (fs := fs) hb k).close, hI, by unfold lvl; rw [if_pos e]⟩
    · obtain ⟨D, hD, hI⟩ := hin k h1 (by omega)
      exact ⟨_, k, D, mst_ok hb k, hI, by unfold lvl; rw [if_neg e, if_neg h7]⟩
  by_cases r : (mst x fs base i).room (oddOf (x i) (fs i))
  · left
    intro k h1 h2 h7
    obtain ⟨b, q, D, ok, hI, hk⟩ := key k h1 h2 h7
    rcases hI with ⟨_, hI⟩ | ⟨r', _⟩
    · rw [hk, el]
      have hd := hI.d
      have hg := Mst.Ok.next_gt (mst x fs base i) (oddOf (x i) (fs i))
      have hup : ∀ j, (mst x fs base i).d ≤ j → j < b.d → b.lv (mst x fs base i).d ≤ b.lv j := by
        intro j hj
        induction j with
        | zero => intro _; have : (mst x fs base i).d = 0 := by omega
                  rw [this]; exact Int.le_refl _
        | succ j ih =>
          intro hlt
          by_cases e : (mst x fs base i).d = j + 1
          · rw [e]; exact Int.le_refl _
          · have := ih (by omega) (by omega)
            have := ok.up j hlt
            omega
      have := hup (b.d - 1) (by omega) (by omega)
      have hl := hI.lvl
      unfold Mst.top at hg ⊢
      omega
    · exact absurd r r'
  · right
    intro k h1 h2 h7
    obtain ⟨b, q, D, ok, hI, hk⟩ := key k h1 h2 h7
    rcases hI with ⟨r', _⟩ | ⟨_, hI⟩
    · exact absurd r' r
    · rw [hk, el, hI.e]; rfl
end

end Go.Proofs.YtjelgbfgciaapaaDoor
