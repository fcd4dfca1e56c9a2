/- FnFollowingText in plain Lean: what stands behind a strong character of the paragraph's side does not change the levels ahead of it. No program in sight. -/
import Derived.Test.YtkocpijloiamcaaDoorJn1
namespace Go.Proofs.YtkocpijloiamcaaDoor
set_option linter.unusedVariables false

/-! ### W1 to N2 look no further than to a letter -/
section
variable {n n' p : Nat} {c c' f f' : Nat → Int} {s sos eos eos' e : Int}

/-- Alike up to place p, where a letter stands. -/
def Pre (p : Nat) (f f' : Nat → Int) : Prop := (∀ j, j ≤ p → f j = f' j) ∧ (f p = 0 ∨ f p = 1)

theorem pr_pre : ∀ i, (∀ j, j < i → f j = f' j) → pr f s i = pr f' s i
  | 0, _ => rfl
  | i + 1, h => by rw [pr, pr, pr_pre i (fun j hj => h j (by omega)), h i (by omega)]
theorem sb_pre : ∀ i, (∀ j, j < i → f j = f' j) → sb f s i = sb f' s i
  | 0, _ => rfl
  | i + 1, h => by rw [sb, sb, sb_pre i (fun j hj => h j (by omega)), h i (by omega)]

theorem Pre.w1 (h : Pre p f f') : Pre p (w1 f s) (w1 f' s) := by
  refine ⟨fun j hj => pr_pre (j + 1) (fun k hk => h.1 k (by omega)), ?_⟩
  show pr f s (p + 1) = 0 ∨ pr f s (p + 1) = 1
  have := h.2
  rw [pr, if_neg (by omega)]; exact this
theorem Pre.w2 (h : Pre p f f') : Pre p (w2 f s) (w2 f' s) := by
  refine ⟨fun j hj => ?_, ?_⟩
  · show Go.Proofs.YtkocpijloiamcaaDoor.w2 f s j = Go.Proofs.YtkocpijloiamcaaDoor.w2 f' s j
    unfold Go.Proofs.YtkocpijloiamcaaDoor.w2
    rw [h.1 j hj, sb_pre (s := s) j (fun k hk => h.1 k (by omega))]
  · show Go.Proofs.YtkocpijloiamcaaDoor.w2 f s p = 0 ∨ Go.Proofs.YtkocpijloiamcaaDoor.w2 f s p = 1
    have := h.2
    unfold Go.Proofs.YtkocpijloiamcaaDoor.w2
    rw [if_neg (by omega)]; exact this
theorem Pre.w3 (h : Pre p f f') : Pre p (w3 f) (w3 f') := by
  refine ⟨fun j hj => ?_, ?_⟩
  · show Go.Proofs.YtkocpijloiamcaaDoor.w3 f j = Go.Proofs.YtkocpijloiamcaaDoor.w3 f' j
    unfold Go.Proofs.YtkocpijloiamcaaDoor.w3
    rw [h.1 j hj]
  · show Go.Proofs.YtkocpijloiamcaaDoor.w3 f p = 0 ∨ Go.Proofs.YtkocpijloiamcaaDoor.w3 f p = 1
    have := h.2
    unfold Go.Proofs.YtkocpijloiamcaaDoor.w3
    rw [if_neg (by omega)]; exact this
theorem st4_let {a v b : Int} (h : v = 0 ∨ v = 1) : st4 a v b = v := by
  unfold st4
  rw [if_neg (by omega), if_neg (by omega)]
theorem w4_let {i : Nat} (h : f i = 0 ∨ f i = 1) : w4 n f i = f i := by
  cases i with
  | zero => rfl
  | succ i =>
    rw [w4]
    split
    · exact st4_let h
    · rfl
theorem Pre.w4 (hp : p < n) (hp' : p < n') (h : Pre p f f') : Pre p (w4 n f) (w4 n' f') := by
  refine ⟨fun j => ?_, by rw [w4_let h.2]; exact h.2⟩
  induction j with
  | zero => intro hj; exact h.1 0 hj
  | succ j ih =>
    intro hj
    by_cases e : j + 1 = p
    · have h2 : f (j + 1) = 0 ∨ f (j + 1) = 1 := by rw [e]; exact h.2
      rw [w4_let h2, w4_let (by rw [← h.1 _ hj]; exact h2), h.1 _ hj]
    · show Go.Proofs.YtkocpijloiamcaaDoor.w4 n f (j + 1) = Go.Proofs.YtkocpijloiamcaaDoor.w4 n' f' (j + 1)
      rw [Go.Proofs.YtkocpijloiamcaaDoor.w4, Go.Proofs.YtkocpijloiamcaaDoor.w4, if_pos (by omega), if_pos (by omega), ih (by omega), h.1 _ hj, h.1 (j + 2) (by omega)]

theorem beh_stop {N N' : Nat → Bool} {st st' : Nat → Int} (hN : N p = false) (h1 : ∀ j, j ≤ p → N j = N' j) (h2 : ∀ j, j ≤ p → st j = st' j) : ∀ d i m m', i + d = p → d < m → d < m' → beh N st eos m i = beh N' st' eos' m' i := by
  intro d
  induction d with
  | zero =>
    intro i m m' hi hm hm'
    obtain ⟨k, rfl⟩ : ∃ k, m = k + 1 := ⟨m - 1, by omega⟩
    obtain ⟨k', rfl⟩ : ∃ k, m' = k + 1 := ⟨m' - 1, by omega⟩
    have e : i = p := by omega
    subst e
    rw [beh, beh, ← h1 i (Nat.le_refl _), hN, if_neg (by decide), if_neg (by decide), h2 i (Nat.le_refl _)]
  | succ d ih =>
    intro i m m' hi hm hm'
    obtain ⟨k, rfl⟩ : ∃ k, m = k + 1 := ⟨m - 1, by omega⟩
    obtain ⟨k', rfl⟩ : ∃ k, m' = k + 1 := ⟨m' - 1, by omega⟩
    rw [beh, beh, ← h1 i (by omega), h2 i (by omega), ih (i + 1) k k' (by omega) (by omega) (by omega)]

theorem bef_pre {N N' : Nat → Bool} {st st' : Nat → Int} : ∀ i, (∀ j, j < i → N j = N' j ∧ st j = st' j) → bef N st sos i = bef N' st' sos i
  | 0, _ => rfl
  | i + 1, h => by rw [bef, bef, bef_pre i (fun j hj => h j (by omega)), (h i (by omega)).1, (h i (by omega)).2]

theorem Pre.w5 (hp : p < n) (hp' : p < n') (h : Pre p f f') : Pre p (w5 n f) (w5 n' f') := by
  have hET : ∀ j, j ≤ p → ET f j = ET f' j := fun j hj => by unfold ET; rw [h.1 j hj]
  refine ⟨fun j hj => ?_, ?_⟩
  · have e1 := bef_pre (sos := 0) j (fun k hk => ⟨hET k (by omega), h.1 k (by omega)⟩)
    have e2 := beh_stop (eos := 0) (eos' := 0) (ET_not.2 (by have := h.2; omega)) hET h.1 (p - j) j (n - j) (n' - j) (by omega) (by omega) (by omega)
    have e3 : chg n f j ↔ chg n' f' j := by
      unfold chg
      rw [e1, e2, h.1 j hj]
    show Go.Proofs.YtkocpijloiamcaaDoor.w5 n f j = Go.Proofs.YtkocpijloiamcaaDoor.w5 n' f' j
    unfold Go.Proofs.YtkocpijloiamcaaDoor.w5
    by_cases q : chg n f j
    · rw [if_pos q, if_pos (e3.1 q)]
    · rw [if_neg q, if_neg (fun z => q (e3.2 z))]; exact h.1 j hj
  · show Go.Proofs.YtkocpijloiamcaaDoor.w5 n f p = 0 ∨ Go.Proofs.YtkocpijloiamcaaDoor.w5 n f p = 1
    have := h.2
    unfold Go.Proofs.YtkocpijloiamcaaDoor.w5
    rw [if_neg (by unfold chg; omega)]; exact this
theorem Pre.w6 (h : Pre p f f') : Pre p (w6 f) (w6 f') := by
  refine ⟨fun j hj => ?_, ?_⟩
  · show Go.Proofs.YtkocpijloiamcaaDoor.w6 f j = Go.Proofs.YtkocpijloiamcaaDoor.w6 f' j
    unfold Go.Proofs.YtkocpijloiamcaaDoor.w6
    rw [h.1 j hj]
  · show Go.Proofs.YtkocpijloiamcaaDoor.w6 f p = 0 ∨ Go.Proofs.YtkocpijloiamcaaDoor.w6 f p = 1
    have := h.2
    unfold Go.Proofs.YtkocpijloiamcaaDoor.w6
    rw [if_neg (by omega)]; exact this
theorem Pre.w7 (h : Pre p f f') : Pre p (w7 f s) (w7 f' s) := by
  refine ⟨fun j hj => ?_, ?_⟩
  · show Go.Proofs.YtkocpijloiamcaaDoor.w7 f s j = Go.Proofs.YtkocpijloiamcaaDoor.w7 f' s j
    unfold Go.Proofs.YtkocpijloiamcaaDoor.w7
    rw [h.1 j hj, sb_pre (s := s) j (fun k hk => h.1 k (by omega))]
  · show Go.Proofs.YtkocpijloiamcaaDoor.w7 f s p = 0 ∨ Go.Proofs.YtkocpijloiamcaaDoor.w7 f s p = 1
    have := h.2
    unfold Go.Proofs.YtkocpijloiamcaaDoor.w7
    rw [if_neg (by omega)]; exact this
theorem Pre.weak (hp : p < n) (hp' : p < n') (h : Pre p f f') : Pre p (weakI n s f) (weakI n' s f') :=
  Pre.w7 (Pre.w6 (Pre.w5 hp hp' (Pre.w4 hp hp' (Pre.w3 (Pre.w2 (Pre.w1 h))))))

theorem neu_pre (hp : p < n) (hp' : p < n') (h : Pre p f f') {i : Nat} (hi : i ≤ p) : neu sos eos e n f i = neu sos eos' e n' f' i := by
  have e1 := bef_pre (N := fun j => NB (f j)) (N' := fun j => NB (f' j)) (st := fun j => sd (f j)) (st' := fun j => sd (f' j)) (sos := sos) i (fun k hk => by
    have := h.1 k (by omega)
    exact ⟨by show NB (f k) = NB (f' k); rw [this], by show sd (f k) = sd (f' k); rw [this]⟩)
  have e2 := beh_stop (p := p) (N := fun j => NB (f j)) (N' := fun j => NB (f' j)) (st := fun j => sd (f j)) (st' := fun j => sd (f' j)) (eos := eos) (eos' := eos')
    (by show NB (f p) = false; rw [NB_not]; have := h.2; omega) (fun j hj => by show NB (f j) = NB (f' j); rw [h.1 j hj]) (fun j hj => by show sd (f j) = sd (f' j); rw [h.1 j hj]) (p - i) i (n - i) (n' - i) (by omega) (by omega) (by omega)
  unfold neu nout
  rw [e1, e2]
  simp only [h.1 i hi]

theorem resT_pre {mk mk' : Nat → Bool} {kd kd' vl vl' : Nat → Int} (hk : ∀ j, kd j = 0) (hk' : ∀ j, kd' j = 0) (hp : p < n) (hp' : p < n') (h : Pre p f f') {i : Nat} (hi : i ≤ p) :
    resT n f mk kd vl e s eos i = resT n' f' mk' kd' vl' e s eos' i := by
  rw [resT_plain hk, resT_plain hk']
  exact neu_pre hp hp' (h.weak hp hp') hi
end

/-! ### Two sequences that go alike up to a place -/
section
variable {S S' : Nat → Nat → Prop} {z : Nat}
/-- Two successors that are the same up to place z. -/
structure Upto (S S' : Nat → Nat → Prop) (z : Nat) : Prop where
  lt : ∀ i j, S i j → i < j
  lt' : ∀ i j, S' i j → i < j
  iff : ∀ i j, j ≤ z → (S i j ↔ S' i j)
  inj : ∀ i j k, S i k → S j k → i = j

theorem IsCh.upto (U : Upto S S' z) {l l' : List Nat} (h : IsCh S l) (h' : IsCh S' l') {a a' : Nat} (ha : a < l.length) (ha' : a' < l'.length) (hz : l.getD a 0 ≤ z) (he : l'.getD a' 0 = l.getD a 0) :
    a = a' ∧ ∀ t, t ≤ a → l'.getD t 0 = l.getD t 0 ∧ l.getD t 0 ≤ z := by
  have back : ∀ t, t ≤ a → t ≤ a' → l'.getD (a' - t) 0 = l.getD (a - t) 0 ∧ l.getD (a - t) 0 ≤ z := by
    intro t
    induction t with
    | zero => intro _ _; exact ⟨he, hz⟩
    | succ t ih =>
      intro h1 h2
      obtain ⟨d1, d2⟩ := ih (by omega) (by omega)
      have s1 := h.path (a - (t + 1)) (by omega)
      rw [show a - (t + 1) + 1 = a - t by omega] at s1
      have s2 := h'.path (a' - (t + 1)) (by omega)
      rw [show a' - (t + 1) + 1 = a' - t by omega, d1] at s2
      have s3 := (U.iff _ _ d2).2 s2
      have := U.lt _ _ s1
      exact ⟨U.inj _ _ _ s3 s1, by omega⟩
  have haa : a = a' := by
    rcases Nat.lt_trichotomy a a' with q | q | q
    · obtain ⟨d1, d2⟩ := back a (Nat.le_refl _) (by omega)
      have s2 := h'.path (a' - (a + 1)) (by omega)
      rw [show a' - (a + 1) + 1 = a' - a by omega, d1] at s2
      have s3 := (U.iff _ _ d2).2 s2
      rw [Nat.sub_self] at s3
      exact absurd s3 (h.fst _)
    · exact q
    · obtain ⟨d1, d2⟩ := back a' (by omega) (Nat.le_refl _)
      have s1 := h.path (a - (a' + 1)) (by omega)
      rw [show a - (a' + 1) + 1 = a - a' by omega] at s1
      have s3 := (U.iff _ _ d2).1 s1
      rw [← d1, Nat.sub_self] at s3
      exact absurd s3 (h'.fst _)
  subst haa
  exact ⟨rfl, fun t ht => by
    have := back (a - t) (by omega) (by omega)
    rwa [show a - (a - t) = t by omega] at this⟩
end

/-! ### Texts with the same head -/
section
variable {x y fs : Nat → Int} {base : Int} {n n' p : Nat}

/-- A character of a head: nothing that begins or ends an embedding or an isolate, and no end of a paragraph. -/
def plainH (v : Int) : Prop := (0 ≤ v ∧ v ≤ 6) ∨ (8 ≤ v ∧ v ≤ 13) ∨ v = 18

theorem mst_head : ∀ n, (∀ i, i < n → plainH (x i)) → mst x fs base n = Mst.start base
  | 0, _ => rfl
  | n + 1, h => by
    have ih := mst_head n (fun i hi => h i (by omega))
    have hn : plainH (x n) := h n (by omega)
    unfold plainH at hn
    show (mst x fs base n).step (x n) (fs n) = _
    rw [ih]
    unfold Mst.step
    rw [if_neg (by omega), if_neg (by omega), if_neg (by omega), if_neg (by omega)]
    split
    · rfl
    · rw [if_neg (by omega), if_neg (by omega), if_neg (by omega), if_neg (by omega)]

theorem head_at {i : Nat} (h : ∀ j, j ≤ i → plainH (x j)) : tI x fs base i = x i ∧ lvl x fs base i = base := by
  have hm := mst_head (x := x) (fs := fs) (base := base) i (fun j hj => h j (by omega))
  have hi := h i (Nat.le_refl _)
  unfold plainH at hi
  refine ⟨?_, ?_⟩
  · unfold tI
    split
    · rfl
    · rw [hm]; rfl
  · unfold lvl
    rw [hm, if_neg (by omega), if_neg (by omega)]
    rfl

/-- What the head's places know. -/
structure Head (x : Nat → Int) (base : Int) (p n : Nat) : Prop where
  lt : p < n
  cls : ∀ j, j ≤ p → plainH (x j)
  last : x p = base

variable {kd vl kd' vl' ft fl ft' fl' : Nat → Int}

theorem Head.lv (h : Head x base p n) {j : Nat} (hj : j ≤ p) : LVP x base n j = if remN (x j) = true then -1 else base := by
  unfold LVP lvR
  rw [(head_at (x := x) (base := base) (fun k hk => h.cls k (by omega))).2]

theorem Head.ct (h : Head x base p n) {j : Nat} (hj : j ≤ p) : CTP x base n j = Go.Proofs.YtkocpijloiamcaaDoor.cls (x j) := by
  unfold CTP
  rw [(head_at (x := x) (base := base) (fun k hk => h.cls k (by omega))).1]

theorem Head.ini (h : Head x base p n) {j : Nat} (hj : j ≤ p) : iniN x j = false := by
  have := h.cls j hj
  unfold plainH at this
  unfold iniN iniB
  exact decide_eq_false (by omega)

theorem Head.su (hb : base = 0 ∨ base = 1) (h : Head x base p n) {i j : Nat} (hj : j ≤ p) : SuX x (fsI n x) base n i j ↔ (i < j ∧ remN (x i) = false ∧ remN (x j) = false ∧ ∀ k, i < k → k < j → remN (x k) = true) := by
  have hne : ∀ k, k ≤ p → (lvR x (fsI n x) base k = -1 ↔ remN (x k) = true) := fun k hk => by
    have e : lvR x (fsI n x) base k = _ := h.lv hk
    rw [e]
    split
    · next q => exact ⟨fun _ => q, fun _ => rfl⟩
    · next q => exact ⟨fun z => by omega, fun z => absurd z q⟩
  have hnf : ∀ k, k ≤ p → (lvR x (fsI n x) base k ≠ -1 ↔ remN (x k) = false) := fun k hk => by
    rw [Ne, hne k hk]; simp
  have hlt := h.lt
  constructor
  · rintro ⟨a1, a2, a3, a4, a5⟩
    refine ⟨a1, (hnf i (by omega)).1 a3, (hnf j hj).1 a4, ?_⟩
    rcases a5 with ⟨a5, _⟩ | ⟨_, a6, _⟩
    · exact fun k h1 h2 => (hne k (by omega)).1 (a5 k h1 h2)
    · rw [h.ini (by omega)] at a6; cases a6
  · rintro ⟨a1, a2, a3, a4⟩
    refine ⟨a1, by omega, (hnf i (by omega)).2 a2, (hnf j hj).2 a3, .inl ⟨fun k h1 h2 => (hne k (by omega)).2 (a4 k h1 h2), ?_⟩⟩
    have e1 : lvR x (fsI n x) base j = _ := h.lv hj
    have e2 : lvR x (fsI n x) base i = _ := h.lv (by omega)
    rw [e1, e2, if_neg (by rw [a3]; decide), if_neg (by rw [a2]; decide)]

/-- The levels of the head do not turn on what follows. -/
theorem following (hb : base = 0 ∨ base = 1) (hB : ∀ i, i < n → x i = 7 → n ≤ i + 1) (hB' : ∀ i, i < n' → y i = 7 → n' ≤ i + 1) (hkd : ∀ j, kd j = 0) (hkd' : ∀ j, kd' j = 0) (h : Head x base p n) (h' : Head y base p n') (hxy : ∀ j, j ≤ p → x j = y j)
    (hD : Done x kd vl base n ft fl) (hD' : Done y kd' vl' base n' ft' fl') {i : Nat} (hi : i ≤ p) (hr : remN (x i) = false) : fl i = fl' i := by
  have hlt := h.lt
  have hlt' := h'.lt
  have hrp : remN (x p) = false := by rw [h.last]; rcases hb with q | q <;> rw [q] <;> decide
  obtain ⟨l, T, hl, hT, eT, _, _⟩ := hD.at_ hb hB hlt hrp
  obtain ⟨l', T', hl', hT', eT', _, _⟩ := hD'.at_ hb hB' hlt' (by rw [← hxy p (Nat.le_refl _)]; exact hrp)
  have hc := chs_ok (x := x) (n := n) hb hB
  have hc' := chs_ok (x := y) (n := n') hb hB'
  have hIs := hc.ch l hl
  have hIs' := hc'.ch l' hl'
  have U : Upto (SuX x (fsI n x) base n) (SuX y (fsI n' y) base n') p := ⟨fun i j q => q.1, fun i j q => q.1, fun i j hj => by
    rw [h.su hb hj, h'.su hb hj]
    constructor
    · rintro ⟨a1, a2, a3, a4⟩
      exact ⟨a1, by rw [← hxy i (by omega)]; exact a2, by rw [← hxy j hj]; exact a3, fun k h1 h2 => by rw [← hxy k (by omega)]; exact a4 k h1 h2⟩
    · rintro ⟨a1, a2, a3, a4⟩
      exact ⟨a1, by rw [hxy i (by omega)]; exact a2, by rw [hxy j hj]; exact a3, fun k h1 h2 => by rw [hxy k (by omega)]; exact a4 k h1 h2⟩,
    fun i j k p q => SuX.inj hb hB p q⟩
  obtain ⟨hTT, hag⟩ := hIs.upto U hIs' hT hT' (by omega) (by omega)
  subst hTT
  -- all of the head lies on the sequence
  have hall : ∀ d i, i + d = p → remN (x i) = false → ∃ b, b ≤ T ∧ l.getD b 0 = i := by
    intro d
    induction d using Nat.strongRecOn with
    | _ d ih =>
      intro i hid hri
      by_cases e : d = 0
      · exact ⟨T, Nat.le_refl _, by omega⟩
      · -- the next one
        have hex : ∃ j, i < j ∧ j ≤ p ∧ remN (x j) = false ∧ ∀ k, i < k → k < j → remN (x k) = true := by
          have key : ∀ f j, j + f = p → i < j → (∀ k, i < k → k < j → remN (x k) = true) → ∃ j, i < j ∧ j ≤ p ∧ remN (x j) = false ∧ ∀ k, i < k → k < j → remN (x k) = true := by
            intro f
            induction f with
            | zero => intro j hj h1 h2; exact ⟨j, h1, by omega, by rw [show j = p by omega]; exact hrp, h2⟩
            | succ f ihf =>
              intro j hj h1 h2
              cases q : remN (x j) with
              | false => exact ⟨j, h1, by omega, q, h2⟩
              | true =>
                refine ihf (j + 1) (by omega) (by omega) (fun k a b => ?_)
                by_cases e : k = j
                · rw [e]; exact q
                · exact h2 k a (by omega)
          exact key (p - (i + 1)) (i + 1) (by omega) (by omega) (fun k a b => by omega)
        obtain ⟨j, h1, h2, h3, h4⟩ := hex
        obtain ⟨b, hb1, hb2⟩ := ih (p - j) (by omega) j (by omega) h3
        have hS : SuX x (fsI n x) base n i j := (h.su hb h2).2 ⟨h1, hri, h3, h4⟩
        cases b with
        | zero =>
          rw [← hb2] at hS
          exact absurd hS (hIs.fst _)
        | succ b =>
          have s1 := hIs.path b (by omega)
          rw [hb2] at s1
          exact ⟨b, by omega, SuX.inj hb hB s1 hS⟩
  obtain ⟨b, hbT, eb⟩ := hall (p - i) i (by omega) hr
  have e1 : fl i = imp (sqV x base n l) (sqT x kd vl base n l b) := by rw [← eb]; exact hD.lev l hl b (by omega)
  have e2 : fl' i = imp (sqV y base n' l') (sqT y kd' vl' base n' l' b) := by rw [← eb, ← (hag b hbT).1]; exact hD'.lev l' hl' b (by omega)
  have hz := hag 0 (Nat.zero_le _)
  have hmem := hc.mem l hl
  have hV : sqV x base n l = base := by
    have h1 := (hmem _ (getD_mem0 (show 0 < l.length by omega))).2
    show LVP x base n (hd l) = base
    rw [show hd l = l.getD 0 0 from rfl, h.lv hz.2, if_neg (by rw [h1]; decide)]
  have hV' : sqV y base n' l' = base := by
    have h1 := (hmem _ (getD_mem0 (show 0 < l.length by omega))).2
    show LVP y base n' (hd l') = base
    rw [show hd l' = l'.getD 0 0 from rfl, hz.1, h'.lv hz.2, ← hxy _ hz.2, if_neg (by rw [h1]; decide)]
  have hbef : ∀ (x : Nat → Int) (n : Nat), Head x base p n → ∀ k, k ≤ p + 1 → lastL (LVP x base n) k = -1 ∨ lastL (LVP x base n) k = base := by
    intro x n h k
    induction k with
    | zero => intro _; exact .inl rfl
    | succ k ih =>
      intro hk
      rw [lastL]
      split
      · exact ih (by omega)
      · next q =>
        rw [h.lv (show k ≤ p by omega)] at q ⊢
        split
        · next q2 => rw [if_pos q2] at q; exact absurd rfl q
        · exact .inr rfl
  have hS : ∀ (x : Nat → Int) (n : Nat) (l : List Nat), Head x base p n → hd l ≤ p → sqV x base n l = base → sqS x base n l = base := by
    intro x n l h hl hV
    have hbf : befL (LVP x base n) base (hd l) = base := by
      unfold befL
      rcases hbef x n h (hd l) (by omega) with q | q
      · rw [if_pos q]
      · rw [if_neg (by omega)]; exact q
    unfold sqS dirN
    rw [hbf, hV, Int.max_self]
    omega
  have hS1 := hS x n l h hz.2 hV
  have hS2 := hS y n' l' h' (by show l'.getD 0 0 ≤ p; rw [hz.1]; exact hz.2) hV'
  rw [e1, e2, hV, hV']
  congr 1
  unfold sqT
  rw [hV, hV', hS1, hS2]
  refine resT_pre (p := T) (fun j => hkd _) (fun j => hkd' _) hT hT' ⟨fun j hj => ?_, ?_⟩ hbT
  · have := hag j hj
    unfold sqC
    rw [if_pos (by omega), if_pos (by omega), this.1, h.ct this.2, h'.ct this.2, hxy _ this.2]
  · unfold sqC
    rw [if_pos hT, eT, h.ct (Nat.le_refl _), h.last]
    rcases hb with q | q <;> rw [q] <;> decide
end

/-- The head of both texts, and a text with this head. -/
def hdF (p : Nat) (x : Nat → Int) (d : Int) (i : Nat) : Int := if i < p then x i else d
def folF (p : Nat) (x : Nat → Int) (d : Int) (u : Nat → Int) (i : Nat) : Int := if i < p + 1 then hdF p x d i else u (i - (p + 1))
end Go.Proofs.YtkocpijloiamcaaDoor
