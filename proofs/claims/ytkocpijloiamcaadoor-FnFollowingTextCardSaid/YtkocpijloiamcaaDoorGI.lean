/- W1 to W7 in plain Lean. No program in sight. -/
import Derived.Test.YtkocpijloiamcaaDoorGH
import Derived.Test.YtkocpijloiamcaaDoorGB
namespace Go.Proofs.YtkocpijloiamcaaDoor

/-- One list up to a place, another from there on. -/
def mix (k : Nat) (g f : Nat → Int) (i : Nat) : Int := if i < k then g i else f i
theorem mix_lt {k : Nat} {g f : Nat → Int} {i : Nat} (h : i < k) : mix k g f i = g i := if_pos h
theorem mix_ge {k : Nat} {g f : Nat → Int} {i : Nat} (h : k ≤ i) : mix k g f i = f i := if_neg (by omega)
theorem mix_step {k : Nat} {g f : Nat → Int} (i : Nat) : mix (k + 1) g f i = if i = k then g k else mix k g f i := by
  unfold mix
  by_cases e : i = k
  · subst e; rw [if_pos (by omega), if_pos rfl]
  · rw [if_neg e]
    by_cases h : i < k
    · rw [if_pos h, if_pos (by omega)]
    · rw [if_neg h, if_neg (by omega)]
theorem mix_same {k : Nat} {g f : Nat → Int} (h : g k = f k) (i : Nat) : mix (k + 1) g f i = mix k g f i := by
  rw [mix_step]
  by_cases e : i = k
  · subst e; rw [if_pos rfl, mix_ge (Nat.le_refl _), h]
  · rw [if_neg e]

/-- W1 as the package has it: the last that is no mark. -/
def pr (c : Nat → Int) (s : Int) : Nat → Int
  | 0 => s
  | i + 1 => if c i = 12 then pr c s i else c i
def w1 (c : Nat → Int) (s : Int) (i : Nat) : Int := pr c s (i + 1)
/-- W1 as it is said. -/
def prS (c : Nat → Int) (s : Int) : Nat → Int
  | 0 => s
  | i + 1 => if c i = 12 then (if 19 ≤ prS c s i ∧ prS c s i ≤ 22 then 10 else prS c s i) else c i
def w1S (c : Nat → Int) (s : Int) (i : Nat) : Int := prS c s (i + 1)
/-- The last L, R or AL ahead of a place. -/
def sb (f : Nat → Int) (s : Int) : Nat → Int
  | 0 => s
  | i + 1 => if f i = 0 ∨ f i = 1 ∨ f i = 13 then f i else sb f s i
def w2 (f : Nat → Int) (s : Int) (i : Nat) : Int := if f i = 2 ∧ sb f s i = 13 then 5 else f i
def w3 (f : Nat → Int) (i : Nat) : Int := if f i = 13 then 1 else f i
def st4 (a v b : Int) : Int := if (v = 3 ∨ v = 6) ∧ a = 2 ∧ b = 2 then 2 else if v = 6 ∧ a = 5 ∧ b = 5 then 5 else v
def w4 (n : Nat) (f : Nat → Int) : Nat → Int
  | 0 => f 0
  | i + 1 => if i + 2 < n then st4 (w4 n f i) (f (i + 1)) (f (i + 2)) else f (i + 1)
def ET (f : Nat → Int) (j : Nat) : Bool := decide (f j = 4)
def chg (n : Nat) (f : Nat → Int) (i : Nat) : Prop := f i = 4 ∧ (bef (ET f) f 0 i = 2 ∨ beh (ET f) f 0 (n - i) i = 2)
instance (n : Nat) (f : Nat → Int) (i : Nat) : Decidable (chg n f i) := by unfold chg; infer_instance
def w5 (n : Nat) (f : Nat → Int) (i : Nat) : Int := if chg n f i then 2 else f i
def w6 (f : Nat → Int) (i : Nat) : Int := if f i = 3 ∨ f i = 4 ∨ f i = 6 then 10 else f i
def w7 (f : Nat → Int) (s : Int) (i : Nat) : Int := if f i = 2 ∧ sb f s i = 0 then 0 else f i

/-- W2 to W7. -/
def wrest (n : Nat) (s : Int) (f : Nat → Int) : Nat → Int := w7 (w6 (w5 n (w4 n (w3 (w2 f s))))) s
def weakI (n : Nat) (s : Int) (x : Nat → Int) : Nat → Int := wrest n s (w1 x s)
def weakS (n : Nat) (s : Int) (x : Nat → Int) : Nat → Int := wrest n s (w1S x s)

theorem ET_iff {f : Nat → Int} {j : Nat} : ET f j = true ↔ f j = 4 := by unfold ET; exact decide_eq_true_iff
theorem ET_not {f : Nat → Int} {j : Nat} : ET f j = false ↔ f j ≠ 4 := by unfold ET; exact decide_eq_false_iff_not

/-- What the rules look at. -/
def Alike (a b : Int) : Prop := (a = 0 ↔ b = 0) ∧ (a = 1 ↔ b = 1) ∧ (a = 2 ↔ b = 2) ∧ (a = 3 ↔ b = 3) ∧ (a = 4 ↔ b = 4) ∧ (a = 5 ↔ b = 5) ∧ (a = 6 ↔ b = 6) ∧ (a = 13 ↔ b = 13)
theorem Alike.refl (a : Int) : Alike a a := ⟨Iff.rfl, Iff.rfl, Iff.rfl, Iff.rfl, Iff.rfl, Iff.rfl, Iff.rfl, Iff.rfl⟩

/-- A relation that the rules keep. -/
structure Kept (P : Nat → Int → Int → Prop) : Prop where
  lit : ∀ i v, (v = 0 ∨ v = 1 ∨ v = 2 ∨ v = 5 ∨ v = 10) → P i v v
  alike : ∀ i a b, P i a b → Alike a b

variable {P : Nat → Int → Int → Prop} {n : Nat} {f g : Nat → Int} {s : Int}

theorem sb_rel (hP : Kept P) : ∀ i, (∀ j, j < i → P j (f j) (g j)) → sb f s i = sb g s i
  | 0, _ => rfl
  | i + 1, h => by
    have a := hP.alike _ _ _ (h i (by omega))
    unfold Alike at a
    rw [sb, sb, sb_rel hP i (fun j hj => h j (by omega))]
    split
    · rw [if_pos (by omega)]; omega
    · rw [if_neg (by omega)]

theorem w2_rel (hP : Kept P) (h : ∀ i, i < n → P i (f i) (g i)) {i : Nat} (hi : i < n) : P i (w2 f s i) (w2 g s i) := by
  have a := hP.alike _ _ _ (h i hi)
  unfold Alike at a
  have e := sb_rel (s := s) hP i (fun j hj => h j (by omega))
  unfold w2
  rw [e]
  split
  · rw [if_pos (by omega)]; exact hP.lit _ _ (by omega)
  · rw [if_neg (by omega)]; exact h i hi

theorem w3_rel (hP : Kept P) (h : ∀ i, i < n → P i (f i) (g i)) {i : Nat} (hi : i < n) : P i (w3 f i) (w3 g i) := by
  have a := hP.alike _ _ _ (h i hi)
  unfold Alike at a
  unfold w3
  split
  · rw [if_pos (by omega)]; exact hP.lit _ _ (by omega)
  · rw [if_neg (by omega)]; exact h i hi

theorem st4_rel (hP : Kept P) {i j k : Nat} {a a' v v' b b' : Int} (h1 : P i a a') (h2 : P j v v') (h3 : P k b b') : P j (st4 a v b) (st4 a' v' b') := by
  have q1 := hP.alike _ _ _ h1
  have q2 := hP.alike _ _ _ h2
  have q3 := hP.alike _ _ _ h3
  unfold Alike at q1 q2 q3
  unfold st4
  by_cases c1 : (v = 3 ∨ v = 6) ∧ a = 2 ∧ b = 2
  · rw [if_pos c1, if_pos (by omega)]; exact hP.lit _ _ (by omega)
  · rw [if_neg c1, if_neg (c := (v' = 3 ∨ v' = 6) ∧ a' = 2 ∧ b' = 2) (by omega)]
    by_cases c2 : v = 6 ∧ a = 5 ∧ b = 5
    · rw [if_pos c2, if_pos (by omega)]; exact hP.lit _ _ (by omega)
    · rw [if_neg c2, if_neg (by omega)]; exact h2

theorem w4_rel (hP : Kept P) (h : ∀ i, i < n → P i (f i) (g i)) : ∀ i, i < n → P i (w4 n f i) (w4 n g i)
  | 0, hi => h 0 hi
  | i + 1, hi => by
    rw [w4, w4]
    split
    · next q => exact st4_rel hP (w4_rel hP h i (by omega)) (h _ hi) (h _ q)
    · exact h _ hi

theorem bef_rel (hP : Kept P) : ∀ i, (∀ j, j < i → P j (f j) (g j)) → Alike (bef (ET f) f 0 i) (bef (ET g) g 0 i)
  | 0, _ => Alike.refl _
  | i + 1, h => by
    have a := hP.alike _ _ _ (h i (by omega))
    have ha := a
    unfold Alike at a
    by_cases q : ET f i = true
    · have q' : ET g i = true := ET_iff.2 (by have := ET_iff.1 q; omega)
      rw [bef_succ_neu q, bef_succ_neu q']; exact bef_rel hP i (fun j hj => h j (by omega))
    · have q1 : ET f i = false := by simpa using q
      have q2 : ET g i = false := ET_not.2 (by have := ET_not.1 q1; omega)
      rw [bef_succ_not q1, bef_succ_not q2]; exact ha

theorem beh_rel (hP : Kept P) : ∀ m i, (∀ j, i ≤ j → j < i + m → P j (f j) (g j)) → Alike (beh (ET f) f 0 m i) (beh (ET g) g 0 m i)
  | 0, _, _ => Alike.refl _
  | m + 1, i, h => by
    have a := hP.alike _ _ _ (h i (by omega) (by omega))
    have ha := a
    unfold Alike at a
    rw [beh, beh]
    by_cases q : ET f i = true
    · have q' : ET g i = true := ET_iff.2 (by have := ET_iff.1 q; omega)
      rw [if_pos q, if_pos q']; exact beh_rel hP m (i + 1) (fun j h1 h2 => h j (by omega) (by omega))
    · have q1 : ET f i = false := by simpa using q
      have q2 : ET g i = false := ET_not.2 (by have := ET_not.1 q1; omega)
      rw [if_neg q, if_neg (by rw [q2]; decide)]; exact ha

theorem w5_rel (hP : Kept P) (h : ∀ i, i < n → P i (f i) (g i)) {i : Nat} (hi : i < n) : P i (w5 n f i) (w5 n g i) := by
  have a := hP.alike _ _ _ (h i hi)
  have b := bef_rel hP i (fun j hj => h j (by omega))
  have c := beh_rel hP (n - i) i (fun j h1 h2 => h j (by omega))
  unfold Alike at a b c
  have e : chg n f i ↔ chg n g i := by unfold chg; omega
  unfold w5
  by_cases q : chg n f i
  · rw [if_pos q, if_pos (e.1 q)]; exact hP.lit _ _ (by omega)
  · rw [if_neg q, if_neg (fun z => q (e.2 z))]; exact h i hi

theorem w6_rel (hP : Kept P) (h : ∀ i, i < n → P i (f i) (g i)) {i : Nat} (hi : i < n) : P i (w6 f i) (w6 g i) := by
  have a := hP.alike _ _ _ (h i hi)
  unfold Alike at a
  unfold w6
  split
  · rw [if_pos (by omega)]; exact hP.lit _ _ (by omega)
  · rw [if_neg (by omega)]; exact h i hi

theorem w7_rel (hP : Kept P) (h : ∀ i, i < n → P i (f i) (g i)) {i : Nat} (hi : i < n) : P i (w7 f s i) (w7 g s i) := by
  have a := hP.alike _ _ _ (h i hi)
  unfold Alike at a
  have e := sb_rel (s := s) hP i (fun j hj => h j (by omega))
  unfold w7
  rw [e]
  split
  · rw [if_pos (by omega)]; exact hP.lit _ _ (by omega)
  · rw [if_neg (by omega)]; exact h i hi

theorem wrest_rel (hP : Kept P) (h : ∀ i, i < n → P i (f i) (g i)) {i : Nat} (hi : i < n) : P i (wrest n s f i) (wrest n s g i) :=
  w7_rel hP (fun _ h1 => w6_rel hP (fun _ h2 => w5_rel hP (fun _ h3 => w4_rel hP (fun _ h4 => w3_rel hP (fun _ h5 => w2_rel hP h h5) h4) _ h3) h2) h1) hi

/-- What the search backwards finds does not turn while the numbers are changed. -/
theorem sb_w2 : ∀ i, sb (w2 f s) s i = sb f s i
  | 0 => rfl
  | i + 1 => by
    rw [sb, sb, sb_w2 i]
    unfold w2
    by_cases q : f i = 2 ∧ sb f s i = 13
    · rw [if_pos q, if_neg (by omega), if_neg (by omega)]
    · rw [if_neg q]

theorem sb_w7 : ∀ i, sb (w7 f s) s i = sb f s i
  | 0 => rfl
  | i + 1 => by
    rw [sb, sb, sb_w7 i]
    unfold w7
    by_cases q : f i = 2 ∧ sb f s i = 0
    · rw [if_pos q, if_pos (by omega), if_neg (by omega)]; exact q.2.symm
    · rw [if_neg q]

theorem sb_mix {k : Nat} {g f : Nat → Int} : ∀ i, i ≤ k → sb (mix k g f) s i = sb g s i
  | 0, _ => rfl
  | i + 1, h => by rw [sb, sb, sb_mix i (by omega), mix_lt (by omega)]

theorem sb_not13 (hs : s ≠ 13) : ∀ i, (∀ j, j < i → f j ≠ 13) → sb f s i ≠ 13
  | 0, _ => hs
  | i + 1, h => by
    rw [sb]
    split
    · exact h i (by omega)
    · exact sb_not13 hs i (fun j hj => h j (by omega))

theorem w4_last {j : Nat} (h : n ≤ j + 1) : w4 n f j = f j := by
  cases j with
  | zero => rfl
  | succ i => rw [w4, if_neg (by omega)]

/-! ### Numbers of classes -/
def inS (v : Int) : Prop := (0 ≤ v ∧ v ≤ 10) ∨ v = 13 ∨ (19 ≤ v ∧ v ≤ 22)

theorem pr_in (hs : s = 0 ∨ s = 1) : ∀ i, (∀ j, j < i → inS (f j) ∨ f j = 12) → inS (pr f s i)
  | 0, _ => by unfold inS; rw [pr]; omega
  | i + 1, h => by
    rw [pr]
    have := h i (by omega)
    split
    · exact pr_in hs i (fun j hj => h j (by omega))
    · rcases this with q | q
      · exact q
      · contradiction

theorem w2_in {i : Nat} (h : inS (f i)) : inS (w2 f s i) := by unfold w2 inS at *; split <;> omega
theorem w3_in {i : Nat} (h : inS (f i)) : inS (w3 f i) ∧ w3 f i ≠ 13 := by unfold w3 inS at *; split <;> omega
theorem st4_in {a v b : Int} (h : inS v ∧ v ≠ 13) : inS (st4 a v b) ∧ st4 a v b ≠ 13 := by
  unfold st4 inS at *
  split
  · omega
  · split <;> omega
theorem w4_in {i : Nat} (h : inS (f i) ∧ f i ≠ 13) : inS (w4 n f i) ∧ w4 n f i ≠ 13 := by
  cases i with
  | zero => exact h
  | succ i =>
    rw [w4]
    split
    · exact st4_in h
    · exact h
theorem w5_in {i : Nat} (h : inS (f i) ∧ f i ≠ 13) : inS (w5 n f i) ∧ w5 n f i ≠ 13 := by unfold w5 inS at *; split <;> omega
theorem w6_in {i : Nat} (h : inS (f i) ∧ f i ≠ 13) : inS (w6 f i) ∧ w6 f i ≠ 13 ∧ w6 f i ≠ 3 ∧ w6 f i ≠ 4 ∧ w6 f i ≠ 6 := by unfold w6 inS at *; split <;> omega
theorem w7_in {i : Nat} (h : inS (f i) ∧ f i ≠ 13 ∧ f i ≠ 3 ∧ f i ≠ 4 ∧ f i ≠ 6) : inS (w7 f s i) ∧ w7 f s i ≠ 13 ∧ w7 f s i ≠ 3 ∧ w7 f s i ≠ 4 ∧ w7 f s i ≠ 6 := by unfold w7 inS at *; split <;> omega

theorem wrest_in {i : Nat} (h : inS (f i)) : inS (wrest n s f i) ∧ wrest n s f i ≠ 13 ∧ wrest n s f i ≠ 3 ∧ wrest n s f i ≠ 4 ∧ wrest n s f i ≠ 6 :=
  w7_in (w6_in (w5_in (w4_in (w3_in (w2_in h)))))

theorem weakI_in {x : Nat → Int} (hs : s = 0 ∨ s = 1) (h : ∀ j, j < n → inS (x j) ∨ x j = 12) {i : Nat} (hi : i < n) : inS (weakI n s x i) ∧ weakI n s x i ≠ 13 ∧ weakI n s x i ≠ 3 ∧ weakI n s x i ≠ 4 ∧ weakI n s x i ≠ 6 :=
  wrest_in (pr_in hs (i + 1) (fun j hj => h j (by omega)))

/-- Where nothing is there to change. -/
theorem wrest_keeps {i : Nat} (h : f i ≠ 2 ∧ f i ≠ 3 ∧ f i ≠ 4 ∧ f i ≠ 6 ∧ f i ≠ 13) : wrest n s f i = f i := by
  have e2 : w2 f s i = f i := by unfold w2; rw [if_neg (by omega)]
  have e3 : w3 (w2 f s) i = f i := by unfold w3; rw [if_neg (by omega), e2]
  have e4 : w4 n (w3 (w2 f s)) i = f i := by
    cases i with
    | zero => exact e3
    | succ i =>
      rw [w4]
      split
      · unfold st4; rw [if_neg (by omega), if_neg (by omega), e3]
      · exact e3
  have e5 : w5 n (w4 n (w3 (w2 f s))) i = f i := by
    unfold w5
    rw [if_neg (by unfold chg; omega), e4]
  have e6 : w6 (w5 n (w4 n (w3 (w2 f s)))) i = f i := by unfold w6; rw [if_neg (by omega), e5]
  unfold wrest w7
  rw [if_neg (by omega), e6]

theorem weakI_keeps {x : Nat → Int} {i : Nat} (h : x i ≠ 2 ∧ x i ≠ 3 ∧ x i ≠ 4 ∧ x i ≠ 6 ∧ x i ≠ 13 ∧ x i ≠ 12) : weakI n s x i = x i := by
  have e1 : w1 x s i = x i := by unfold w1; rw [pr, if_neg (by omega)]
  unfold weakI
  rw [wrest_keeps (by omega), e1]

theorem kept_eq : Kept (fun _ a b => a = b) := ⟨fun _ _ _ => rfl, fun _ a b h => by rw [h]; exact Alike.refl _⟩

/-- The rules a second time. -/
theorem weakI_twice {x : Nat → Int} (hs : s = 0 ∨ s = 1) (h : ∀ j, j < n → inS (x j) ∨ x j = 12) {i : Nat} (hi : i < n) : weakI n s (weakI n s x) i = weakI n s x i := by
  obtain ⟨o, ho⟩ : ∃ o, o = weakI n s x := ⟨_, rfl⟩
  have hin : ∀ i, i < n → inS (o i) ∧ o i ≠ 13 ∧ o i ≠ 3 ∧ o i ≠ 4 ∧ o i ≠ 6 := fun i hi => by rw [ho]; exact weakI_in hs h hi
  rw [← ho]
  have h1 : ∀ i, i < n → w1 o s i = o i := fun i hi => by
    have := hin i hi
    unfold inS at this
    unfold w1; rw [pr, if_neg (by omega)]
  unfold weakI
  rw [wrest_rel (P := fun _ a b => a = b) kept_eq h1 hi]
  have h2 : ∀ i, i < n → w2 o s i = o i := fun i hi => by
    have := sb_not13 (f := o) (s := s) (by omega) i (fun j hj => (hin j (by omega)).2.1)
    unfold w2; rw [if_neg (by omega)]
  have h3 : ∀ i, i < n → w3 (w2 o s) i = o i := fun i hi => by
    have := hin i hi
    unfold w3; rw [h2 i hi, if_neg (by omega)]
  have h4 : ∀ i, i < n → w4 n (w3 (w2 o s)) i = o i := fun i hi => by
    have := hin i hi
    cases i with
    | zero => exact h3 0 hi
    | succ i =>
      rw [w4]
      split
      · unfold st4; rw [h3 _ hi, if_neg (by omega), if_neg (by omega)]
      · exact h3 _ hi
  have h5 : ∀ i, i < n → w5 n (w4 n (w3 (w2 o s))) i = o i := fun i hi => by
    have := hin i hi
    have e := h4 i hi
    unfold w5; rw [if_neg (by unfold chg; omega), e]
  have h6 : ∀ i, i < n → w6 (w5 n (w4 n (w3 (w2 o s)))) i = o i := fun i hi => by
    have := hin i hi
    have e := h5 i hi
    unfold w6; rw [if_neg (by omega), e]
  unfold wrest
  rw [w7_rel (P := fun _ a b => a = b) kept_eq h6 hi]
  unfold w7
  rw [if_neg]
  intro ⟨a, b⟩
  have e7 : o = w7 (w6 (w5 n (w4 n (w3 (w2 (w1 x s) s))))) s := ho
  obtain ⟨u, hu⟩ : ∃ u, u = w6 (w5 n (w4 n (w3 (w2 (w1 x s) s)))) := ⟨_, rfl⟩
  rw [← hu] at e7
  rw [e7] at a b
  rw [sb_w7] at b
  unfold w7 at a
  split at a
  · omega
  · omega

/-- The package's answer beside the one that is said. -/
theorem weak_both {x : Nat → Int} {i : Nat} (hi : i < n) : weakI n s x i = weakS n s x i ∨ (x i = 12 ∧ weakS n s x i = 10 ∧ 19 ≤ weakI n s x i ∧ weakI n s x i ≤ 22) := by
  have hP : Kept (fun i a b => a = b ∨ (x i = 12 ∧ b = 10 ∧ 19 ≤ a ∧ a ≤ 22)) := ⟨fun _ _ _ => .inl rfl, fun _ a b q => by
    rcases q with rfl | q
    · exact Alike.refl _
    · unfold Alike; omega⟩
  have hp : ∀ i, i ≤ n → pr x s i = prS x s i ∨ (prS x s i = 10 ∧ 19 ≤ pr x s i ∧ pr x s i ≤ 22 ∧ ∃ j, i = j + 1 ∧ x j = 12) := by
    intro i
    induction i with
    | zero => exact fun _ => .inl rfl
    | succ i ih =>
      intro hi
      have q := ih (by omega)
      rw [pr, prS]
      by_cases e : x i = 12
      · rw [if_pos e, if_pos e]
        rcases q with q | ⟨q1, q2, q3, q4⟩
        · by_cases z : 19 ≤ prS x s i ∧ prS x s i ≤ 22
          · rw [if_pos z]; exact .inr ⟨rfl, by omega, by omega, i, rfl, e⟩
          · rw [if_neg z]; exact .inl q
        · rw [if_neg (by omega)]; exact .inr ⟨q1, q2, q3, i, rfl, e⟩
      · rw [if_neg e, if_neg e]; exact .inl rfl
  refine wrest_rel hP (fun i hi => ?_) hi
  rcases hp (i + 1) (by omega) with q | ⟨q1, q2, q3, j, q4, q5⟩
  · exact .inl q
  · obtain rfl : i = j := by omega
    exact .inr ⟨q5, q1, q2, q3⟩

end Go.Proofs.YtkocpijloiamcaaDoor

/- W5, run by run. No program in sight. -/
namespace Go.Proofs.YtkocpijloiamcaaDoor

/-- How far W5 has come. -/
def W5St (n : Nat) (f : Nat → Int) (k : Nat) (cur : Nat → Int) : Prop :=
  ∃ m, k ≤ m ∧ m ≤ n ∧ (∀ j, j < m → cur j = w5 n f j) ∧ (∀ j, m ≤ j → j < n → cur j = f j) ∧ (0 < m → m < n → f m = 4 → f (m - 1) ≠ 4)

variable {n k : Nat} {f cur : Nat → Int}

theorem W5St.start : W5St n f 0 f := ⟨0, by omega, by omega, fun j hj => absurd hj (Nat.not_lt_zero _), fun _ _ _ => rfl, fun h => absurd h (Nat.lt_irrefl _)⟩
theorem W5St.fin (h : W5St n f n cur) {j : Nat} (hj : j < n) : cur j = w5 n f j := by
  obtain ⟨m, h1, h2, h3, _⟩ := h
  exact h3 j (by omega)

theorem w5_not {j : Nat} (h : f j ≠ 4) : w5 n f j = f j := by unfold w5; rw [if_neg (fun q => h q.1)]
theorem w5_or (j : Nat) : w5 n f j = f j ∨ (w5 n f j = 2 ∧ chg n f j) := by
  unfold w5
  by_cases q : chg n f j
  · rw [if_pos q]; exact .inr ⟨rfl, q⟩
  · rw [if_neg q]; exact .inl rfl

theorem W5St.skip (h : W5St n f k cur) (hk : k < n) (hN : cur k ≠ 4) : W5St n f (k + 1) cur := by
  obtain ⟨m, h1, h2, h3, h4, h5⟩ := h
  by_cases he : m = k
  · subst he
    have hc := h4 m (by omega) hk
    rw [hc] at hN
    refine ⟨m + 1, by omega, by omega, fun j hj => ?_, fun j a b => h4 j (by omega) b, fun _ _ _ => by rw [Nat.add_sub_cancel]; exact hN⟩
    rcases Nat.lt_succ_iff_lt_or_eq.1 hj with q | q
    · exact h3 j q
    · subst q; rw [hc, w5_not hN]
  · exact ⟨m, by omega, h2, h3, h4, h5⟩

/-- Along a run of terminators both sides are the same. -/
theorem chg_run {i j : Nat} (hij : i ≤ j) (hj : j < n) (h : ∀ r, i ≤ r → r ≤ j → f r = 4) : chg n f i ↔ chg n f j := by
  have h1 := run_bef (N := ET f) (st := f) (sos := 0) hij (fun r a b => ET_iff.2 (h r a (by omega)))
  have h2 := run_beh (N := ET f) (st := f) (eos := 0) hij (Nat.le_of_lt hj) (fun r a b => ET_iff.2 (h r a (by omega)))
  have h3 := h i (Nat.le_refl _) hij
  have h4 := h j hij (Nat.le_refl _)
  unfold chg
  rw [h1, h2]
  omega

theorem nxt_congr5 {N N' : Nat → Bool} : ∀ f i, (∀ j, i ≤ j → j < i + f → N j = N' j) → nxt N f i = nxt N' f i
  | 0, _, _ => rfl
  | f + 1, i, h => by
    rw [nxt, nxt, h i (Nat.le_refl _) (by omega), nxt_congr5 f (i + 1) (fun j a b => h j (by omega) (by omega))]

theorem mem4 (v : Int) : memB [4] v = decide (v = 4) := by
  rw [Bool.eq_iff_iff, memB_iff, decide_eq_true_eq]
  simp only [List.mem_cons, List.not_mem_nil, or_false]

theorem W5St.run (h : W5St n f k cur) (hk : k < n) (hN : cur k = 4) {E : Nat} (hE : E = nxt (fun j => memB [4] (cur j)) (n - k) k) {sos eos t1 t2 : Int} (hs : sos ≠ 2) (he : eos ≠ 2)
    (ht1 : t1 = if k = 0 then sos else cur (k - 1)) (ht2 : t2 = if E < n then cur E else eos) {cur' : Nat → Int}
    (hcur : ∀ j, j < n → cur' j = if (t1 = 2 ∨ t2 = 2) ∧ k ≤ j ∧ j < E then 2 else cur j) : W5St n f (k + 1) cur' := by
  obtain ⟨m, h1, h2, h3, h4, h5⟩ := h
  have hle := nxt_le (N := fun j => memB [4] (cur j)) (n - k) k
  rw [← hE] at hle
  have hin : ∀ j, k ≤ j → j < E → cur j = 4 := fun j a b => by
    have := nxt_in (N := fun j => memB [4] (cur j)) (n - k) k j a (by rw [← hE]; exact b)
    rw [mem4] at this; exact of_decide_eq_true this
  have hge : k + 1 ≤ E := by
    rw [hE, nxt_neu (N := fun j => memB [4] (cur j)) hk (by rw [mem4]; exact decide_eq_true hN)]; exact nxt_ge _ _
  have hat : E < n → cur E ≠ 4 := fun q => by
    have := nxt_at (N := fun j => memB [4] (cur j)) (n - k) k (by rw [← hE]; omega)
    rw [← hE, mem4] at this; exact of_decide_eq_false this
  have hcf : ∀ j, j < n → cur j = f j ∨ (cur j = 2 ∧ chg n f j) := fun j hj => by
    by_cases q : j < m
    · rw [h3 j q]; exact w5_or j
    · exact .inl (h4 j (by omega) hj)
  have hf4 : ∀ j, k ≤ j → j < E → f j = 4 := fun j a b => by
    have := hin j a b
    rcases hcf j (by omega) with q | q
    · omega
    · omega
  by_cases hmk : k < m
  · -- behind what was done
    have hnc : ¬ chg n f k := by
      have := h3 k hmk
      unfold w5 at this
      intro q
      rw [if_pos q] at this
      omega
    have hn1 : t1 ≠ 2 := by
      rw [ht1]
      by_cases z : k = 0
      · rw [if_pos z]; exact hs
      · rw [if_neg z]
        obtain ⟨r, rfl⟩ : ∃ r, k = r + 1 := ⟨k - 1, by omega⟩
        rw [Nat.add_sub_cancel]
        intro q
        rcases hcf r (by omega) with z | ⟨_, z⟩
        · apply hnc
          refine ⟨hf4 _ (Nat.le_refl _) (by omega), .inl ?_⟩
          rw [bef_succ_not (N := ET f) (ET_not.2 (by omega))]; omega
        · apply hnc
          exact (chg_run (i := r) (j := r + 1) (by omega) hk (fun i a b => by
            by_cases e : i = r
            · rw [e]; exact z.1
            · exact hf4 i (by omega) (by omega))).1 z
    have hn2 : t2 ≠ 2 := by
      rw [ht2]
      by_cases z : E < n
      · rw [if_pos z]
        intro q
        have hb := run_beh (n := n) (N := ET f) (st := f) (eos := 0) (i := k) (j := E) (by omega) (by omega) (fun r a b => ET_iff.2 (hf4 r a b))
        rcases hcf E z with y | ⟨_, y⟩
        · apply hnc
          refine ⟨hf4 _ (Nat.le_refl _) (by omega), .inr ?_⟩
          rw [hb, beh_not (N := ET f) z (ET_not.2 (by omega))]; omega
        · apply hnc
          exact (chg_run (i := k) (j := E) (by omega) z (fun i a b => by
            by_cases e : i = E
            · rw [e]; exact y.1
            · exact hf4 i (by omega) (by omega))).2 y
      · rw [if_neg z]; exact he
    have hsame : ∀ j, j < n → cur' j = cur j := fun j hj => by rw [hcur j hj, if_neg (by omega)]
    exact ⟨m, by omega, h2, fun j hj => by rw [hsame j (by omega)]; exact h3 j hj, fun j a b => by rw [hsame j b]; exact h4 j a b, h5⟩
  · obtain rfl : m = k := by omega
    have hb := run_beh (n := n) (N := ET f) (st := f) (eos := 0) (i := m) (j := E) (by omega) (by omega) (fun r a b => ET_iff.2 (hf4 r a b))
    have e1 : t1 = 2 ↔ bef (ET f) f 0 m = 2 := by
      rw [ht1]
      by_cases z : m = 0
      · subst z; rw [if_pos rfl, bef]; omega
      · rw [if_neg z]
        have hp := h5 (by omega) hk (hf4 m (Nat.le_refl _) (by omega))
        obtain ⟨r, rfl⟩ : ∃ r, m = r + 1 := ⟨m - 1, by omega⟩
        rw [Nat.add_sub_cancel] at hp ⊢
        rw [bef_succ_not (N := ET f) (ET_not.2 hp), h3 r (by omega), w5_not hp]
    have e2 : t2 = 2 ↔ beh (ET f) f 0 (n - m) m = 2 := by
      rw [ht2, hb]
      by_cases z : E < n
      · have := hat z
        rw [h4 E (by omega) z] at this ⊢
        rw [if_pos z, beh_not (N := ET f) z (ET_not.2 this)]
      · rw [if_neg z, beh_end (by omega)]; omega
    have hch : (t1 = 2 ∨ t2 = 2) ↔ chg n f m := by
      rw [e1, e2]; unfold chg
      have := hf4 m (Nat.le_refl _) (by omega)
      omega
    refine ⟨E, by omega, by omega, fun j hj => ?_, fun j a b => ?_, fun _ q z => ?_⟩
    · rw [hcur j (by omega)]
      by_cases z : m ≤ j
      · have hr := chg_run (n := n) (f := f) (i := m) (j := j) z (by omega) (fun r a b => hf4 r a (by omega))
        unfold w5
        by_cases y : t1 = 2 ∨ t2 = 2
        · rw [if_pos ⟨y, z, hj⟩, if_pos (hr.1 (hch.1 y))]
        · rw [if_neg (fun q => y q.1), if_neg (fun q => y (hch.2 (hr.2 q))), h4 j z (by omega)]
      · rw [if_neg (by omega), h3 j (by omega)]
    · rw [hcur j b, if_neg (by omega), h4 j (by omega) b]
    · have := hat q
      rw [h4 E (by omega) q] at this
      exact absurd z this

end Go.Proofs.YtkocpijloiamcaaDoor
