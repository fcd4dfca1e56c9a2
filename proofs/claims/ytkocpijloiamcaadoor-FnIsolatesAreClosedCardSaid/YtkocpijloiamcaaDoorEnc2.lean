/- FnIsolatesAreClosed in plain Lean: the sequences outside of the isolate go alike. No program in sight. -/
import Derived.Test.YtkocpijloiamcaaDoorEnc
namespace Go.Proofs.YtkocpijloiamcaaDoor
set_option linter.unusedVariables false

/-- Two texts that differ within an isolate, with room for it. -/
structure Encl (x y : Nat → Int) (p a b h n n' : Nat) (base : Int) : Prop extends Enc x y p a b h where
  n_ : n = p + a + h + 2
  n'_ : n' = p + b + h + 2
  b0 : base = 0 ∨ base = 1
  few : fmtN x p ≤ 60
  b7 : ∀ i, i < n → x i = 7 → n ≤ i + 1
  b7' : ∀ i, i < n' → y i = 7 → n' ≤ i + 1

theorem fmtN_congr {x y : Nat → Int} : ∀ k, (∀ i, i < k → y i = x i) → fmtN y k = fmtN x k
  | 0, _ => rfl
  | k + 1, h => by rw [fmtN, fmtN, fmtN_congr k (fun i hi => h i (by omega)), h k (by omega)]

section
variable {x y : Nat → Int} {p a b h n n' : Nat} {base : Int}

theorem Encl.symm (E : Encl x y p a b h n n' base) : Encl y x p b a h n' n base where
  toEnc := E.toEnc.symm
  n_ := E.n'_
  n'_ := E.n_
  b0 := E.b0
  few := by rw [fmtN_congr p (fun i hi => E.pre i (by omega))]; exact E.few
  b7 := E.b7'
  b7' := E.b7

theorem Encl.lv (E : Encl x y p a b h n n' base) {i : Nat} (hi : Out p a i) (hin : i < n) : LVP y base n' (phi p a b i) = LVP x base n i :=
  E.toEnc.lv E.n_ E.n'_ (by have := E.b0; omega) hi hin
theorem Encl.phl (E : Encl x y p a b h n n' base) {i : Nat} (hi : Out p a i) (hin : i < n) : phi p a b i < n' := by
  have h1 := E.n_
  have h2 := E.n'_
  rcases hi with q | q
  · rw [phi_lo q]; omega
  · rw [phi_hi q]; omega

/-- The initiator and its PDI are not removed. -/
theorem Encl.lvp (E : Encl x y p a b h n n' base) : LVP x base n p ≠ -1 ∧ LVP x base n (p + 1 + a) ≠ -1 := by
  constructor
  · refine (lvR_ne E.b0).2 ?_
    have := E.ini
    unfold iniN iniB at this
    have h1 := of_decide_eq_true this
    unfold remN
    exact decide_eq_false (by omega)
  · refine (lvR_ne E.b0).2 ?_
    rw [E.pdi]; decide

theorem Encl.lvq (E : Encl x y p a b h n n' base) : LVP x base n (p + 1 + a) = LVP x base n p := by
  have hn := E.n_
  have h1 : remN (x p) = false := (lvR_ne E.b0).1 E.lvp.1
  have h2 : remN (x (p + 1 + a)) = false := (lvR_ne E.b0).1 E.lvp.2
  unfold LVP
  rw [lvR_of h1, lvR_of h2]
  have := lvl_match (x := x) (fs := fsI n x) (base := base) (by have := E.b0; omega) (show p < n by omega) E.ini (by rw [E.toEnc.matP hn]; omega)
  rw [E.toEnc.matP hn] at this
  exact this

theorem Encl.up (E : Encl x y p a b h n n' base) {k : Nat} (h1 : p < k) (h2 : k < p + 1 + a) (h3 : LVP x base n k ≠ -1) : LVP x base n p < LVP x base n k := by
  have q1 : remN (x p) = false := (lvR_ne E.b0).1 E.lvp.1
  have q2 : remN (x k) = false := (lvR_ne E.b0).1 h3
  have := E.toEnc.inside (base := base) E.n_ (by have := E.b0; omega) (by have := E.b0; omega) E.few h1 h2
  unfold LVP
  rw [lvR_of q1, lvR_of q2]
  exact this

/-- The initiator goes on to its PDI. -/
theorem Encl.su (E : Encl x y p a b h n n' base) : SuX x (fsI n x) base n p (p + 1 + a) := by
  have hn := E.n_
  refine ⟨by omega, by omega, E.lvp.1, E.lvp.2, ?_⟩
  by_cases hall : ∀ k, p < k → k < p + 1 + a → LVP x base n k = -1
  · exact .inl ⟨hall, E.lvq⟩
  · refine .inr ⟨fun q hq1 hq2 hq3 hq4 e => ?_, E.ini, (E.toEnc.matP hn).symm⟩
    by_cases hqa : q < p + 1 + a
    · have := E.up hq1 hqa hq3
      have e' : LVP x base n q = LVP x base n p := e
      omega
    · exact hall (fun k h1 h2 => hq4 k h1 (by omega))

/-- The next that is not removed. -/
def Nx (lv : Nat → Int) (i j : Nat) : Prop := i < j ∧ ∀ k, i < k → k < j → lv k = -1

theorem Encl.nx (E : Encl x y p a b h n n' base) {i j : Nat} (hi : Out p a i) (hin : i < n) (hip : i ≠ p) (hjn : j < n) (hj : LVP x base n j ≠ -1) (h : Nx (LVP x base n) i j) :
    Out p a j ∧ Nx (LVP y base n') (phi p a b i) (phi p a b j) := by
  have hn := E.n_
  have hn' := E.n'_
  obtain ⟨h1, h2⟩ := h
  have hjo : (i ≤ p ∧ j ≤ p) ∨ (p + 1 + a ≤ i ∧ p + 1 + a ≤ j) := by
    rcases hi with q | q
    · refine .inl ⟨q, ?_⟩
      rcases Nat.lt_or_ge p j with z | z
      · exact absurd (h2 p (by omega) z) E.lvp.1
      · exact z
    · exact .inr ⟨q, by omega⟩
  have hj2 : Out p a j := by
    rcases hjo with z | z
    · exact .inl z.2
    · exact .inr z.2
  refine ⟨hj2, (phi_lt hi hj2).2 h1, fun k k1 k2 => ?_⟩
  rcases hjo with ⟨z1, z2⟩ | ⟨z1, z2⟩
  · rw [phi_lo z1] at k1
    rw [phi_lo z2] at k2
    have := E.lv (i := k) (.inl (by omega)) (by omega)
    rw [phi_lo (by omega)] at this
    rw [this]; exact h2 k k1 k2
  · rw [phi_hi z1] at k1
    rw [phi_hi z2] at k2
    have := E.lv (i := k - b + a) (.inr (by omega)) (by omega)
    rw [phi_hi (by omega), show k - b + a - a + b = k by omega] at this
    rw [this]; exact h2 _ (by omega) (by omega)

theorem Encl.iniE (E : Encl x y p a b h n n' base) {i : Nat} (hi : Out p a i) (hin : i < n) : iniN y (phi p a b i) = iniN x i :=
  E.toEnc.iniE hi (by have := E.n_; omega)

theorem Encl.next (E : Encl x y p a b h n n' base) {i j : Nat} (hi : Out p a i) (hs : SuX x (fsI n x) base n i j) : Out p a j ∧ SuX y (fsI n' y) base n' (phi p a b i) (phi p a b j) := by
  have hn := E.n_
  have hn' := E.n'_
  by_cases e : i = p
  · subst e
    have hj : j = i + 1 + a := Su.fn hs E.su
    subst hj
    refine ⟨.inr (Nat.le_refl _), ?_⟩
    rw [phi_lo (Nat.le_refl _), phi_hi (Nat.le_refl _), show i + 1 + a - a + b = i + 1 + b by omega]
    exact E.symm.su
  · obtain ⟨a1, a2, a3, a4, a5⟩ := hs
    have hin : i < n := by omega
    rcases a5 with ⟨a5, a6⟩ | ⟨a5, a6, a7⟩
    · obtain ⟨o, m1, m2⟩ := E.nx hi hin e a2 a4 ⟨a1, a5⟩
      have l1 : LVP y base n' (phi p a b i) = LVP x base n i := E.lv hi hin
      have l2 : LVP y base n' (phi p a b j) = LVP x base n j := E.lv o a2
      exact ⟨o, m1, E.phl o a2, by show LVP y base n' _ ≠ -1; rw [l1]; exact a3, by show LVP y base n' _ ≠ -1; rw [l2]; exact a4, .inl ⟨m2, by show LVP y base n' _ = LVP y base n' _; rw [l1, l2]; exact a6⟩⟩
    · obtain ⟨m1, m2⟩ := E.toEnc.mat hn hn' hi hin
      rw [← a7] at m1 m2
      have l1 : LVP y base n' (phi p a b i) = LVP x base n i := E.lv hi hin
      have l2 : LVP y base n' (phi p a b j) = LVP x base n j := E.lv m2 a2
      refine ⟨m2, (phi_lt hi m2).2 a1, E.phl m2 a2, by show LVP y base n' _ ≠ -1; rw [l1]; exact a3, by show LVP y base n' _ ≠ -1; rw [l2]; exact a4, .inr ⟨fun q q1 q2 q3 q4 q5 => ?_, by rw [E.iniE hi hin]; exact a6, m1.symm⟩⟩
      have hip' : phi p a b i ≠ p := fun z => by
        have := phi_inv (b := b) hi
        rw [z, phi_lo (Nat.le_refl _)] at this
        exact e this.symm
      obtain ⟨o, r1, r2⟩ := E.symm.nx (phi_out hi) (E.phl hi hin) hip' q2 q3 ⟨q1, q4⟩
      rw [phi_inv hi] at r1 r2
      have l3 : LVP x base n (phi p b a q) = LVP y base n' q := E.symm.lv o q2
      exact a5 (phi p b a q) r1 (E.symm.phl o q2) (by show LVP x base n _ ≠ -1; rw [l3]; exact q3) r2 (by
        show LVP x base n _ = LVP x base n _
        rw [l3, ← l1]; exact q5)

theorem Encl.prev (E : Encl x y p a b h n n' base) {i j : Nat} (hj : Out p a j) (hs : SuX x (fsI n x) base n i j) : Out p a i := by
  have hn := E.n_
  by_cases e : j = p + 1 + a
  · subst e
    have := SuX.inj E.b0 E.b7 hs E.su
    rw [this]; exact .inl (Nat.le_refl _)
  · obtain ⟨a1, a2, a3, a4, a5⟩ := hs
    rcases hj with q | q
    · exact .inl (by omega)
    · rcases Nat.lt_or_ge p i with z1 | z1
      · rcases Nat.lt_or_ge i (p + 1 + a) with z2 | z2
        · rcases a5 with ⟨a5, a6⟩ | ⟨a5, a6, a7⟩
          · exact absurd (a5 (p + 1 + a) z2 (by omega)) E.lvp.2
          · have := E.toEnc.matIn hn z1 z2 a6
            omega
        · exact .inr z2
      · exact .inl z1

theorem Encl.maps (E : Encl x y p a b h n n' base) : MapsTo (SuX x (fsI n x) base n) (SuX y (fsI n' y) base n') (Out p a) (phi p a b) where
  next i j hi hs := E.next hi hs
  noNext i j' hi hs := by
    obtain ⟨_, h2⟩ := E.symm.next (phi_out hi) hs
    rw [phi_inv hi] at h2
    exact ⟨_, h2⟩
  prev i j hj hs := E.prev hj hs
  noPrev i' j hj hs := by
    have h1 := E.symm.prev (phi_out hj) hs
    obtain ⟨_, h2⟩ := E.symm.next h1 hs
    rw [phi_inv hj] at h2
    exact ⟨_, h2⟩

theorem Encl.lastLo (E : Encl x y p a b h n n' base) : ∀ k, k ≤ p → lastL (LVP y base n') k = lastL (LVP x base n) k
  | 0, _ => rfl
  | k + 1, hk => by
    have hn := E.n_
    have l := E.lv (i := k) (.inl (by omega)) (by omega)
    rw [phi_lo (by omega)] at l
    rw [lastL, lastL, l, E.lastLo k (by omega)]
theorem Encl.lastHi (E : Encl x y p a b h n n' base) : ∀ k, p + 2 + a + k ≤ n → lastL (LVP y base n') (p + 2 + b + k) = lastL (LVP x base n) (p + 2 + a + k)
  | 0, hk => by
    have l := E.lv (i := p + 1 + a) (.inr (Nat.le_refl _)) (by omega)
    rw [phi_hi (Nat.le_refl _), show p + 1 + a - a + b = p + 1 + b by omega] at l
    show lastL (LVP y base n') (p + 2 + b) = lastL (LVP x base n) (p + 2 + a)
    rw [show p + 2 + b = p + 1 + b + 1 by omega, show p + 2 + a = p + 1 + a + 1 by omega, lastL_of E.lvp.2, lastL_of (by rw [l]; exact E.lvp.2), l]
  | k + 1, hk => by
    have l := E.lv (i := p + 2 + a + k) (.inr (by omega)) (by omega)
    rw [phi_hi (by omega), show p + 2 + a + k - a + b = p + 2 + b + k by omega] at l
    show lastL (LVP y base n') (p + 2 + b + k + 1) = lastL (LVP x base n) (p + 2 + a + k + 1)
    rw [lastL, lastL, l, E.lastHi k (by omega)]
theorem Encl.befE (E : Encl x y p a b h n n' base) {k : Nat} (ho : Out p a k) (hk : k < n) (hq : k ≠ p + 1 + a) : befL (LVP y base n') base (phi p a b k) = befL (LVP x base n) base k := by
  have e : lastL (LVP y base n') (phi p a b k) = lastL (LVP x base n) k := by
    rcases ho with q | q
    · rw [phi_lo q]; exact E.lastLo k q
    · have := E.lastHi (k - (p + 2 + a)) (by omega)
      rw [show p + 2 + a + (k - (p + 2 + a)) = k by omega] at this
      rw [phi_hi q, show k - a + b = p + 2 + b + (k - (p + 2 + a)) by omega]
      exact this
  unfold befL
  rw [e]

theorem Encl.aftHi (E : Encl x y p a b h n n' base) : ∀ f k, k + f = n → p + 1 + a ≤ k → aftL (LVP y base n') base f (phi p a b k) = aftL (LVP x base n) base f k
  | 0, k, _, _ => rfl
  | f + 1, k, hk, hp => by
    have ho : Out p a k := .inr hp
    have l := E.lv ho (show k < n by omega)
    have ih := E.aftHi f (k + 1) (by omega) (by omega)
    rw [(phi_succ (b := b) ho (by omega)).1] at ih
    rw [aftL, aftL, l, ih]
theorem Encl.aftLo (E : Encl x y p a b h n n' base) : ∀ m k f f', k + m = p → m < f → m < f' → aftL (LVP y base n') base f' k = aftL (LVP x base n) base f k := by
  intro m
  have hn := E.n_
  induction m with
  | zero =>
    intro k f f' hk hf hf'
    obtain ⟨g, rfl⟩ : ∃ g, f = g + 1 := ⟨f - 1, by omega⟩
    obtain ⟨g', rfl⟩ : ∃ g, f' = g + 1 := ⟨f' - 1, by omega⟩
    have ek : k = p := by omega
    subst ek
    have l := E.lv (i := k) (.inl (Nat.le_refl _)) (by omega)
    rw [phi_lo (Nat.le_refl _)] at l
    rw [aftL, aftL, l, if_neg E.lvp.1, if_neg E.lvp.1]
  | succ m ih =>
    intro k f f' hk hf hf'
    obtain ⟨g, rfl⟩ : ∃ g, f = g + 1 := ⟨f - 1, by omega⟩
    obtain ⟨g', rfl⟩ : ∃ g, f' = g + 1 := ⟨f' - 1, by omega⟩
    have l := E.lv (i := k) (.inl (by omega)) (by omega)
    rw [phi_lo (by omega)] at l
    rw [aftL, aftL, l, ih (k + 1) g g' (by omega) (by omega) (by omega)]
theorem Encl.eosE (E : Encl x y p a b h n n' base) {i : Nat} (hi : Out p a i) (hin : i < n) (hp : i ≠ p) :
    eosL (LVP y base n') (CTP y base n') base n' (phi p a b i) = eosL (LVP x base n) (CTP x base n) base n i := by
  have hn := E.n_
  have hn' := E.n'_
  have hc := E.toEnc.ct (base := base) hn hn' (by have := E.b0; omega) hi hin
  unfold eosL
  rw [hc]
  split
  · rfl
  · rcases hi with q | q
    · rw [phi_lo q]
      exact E.aftLo (p - (i + 1)) (i + 1) _ _ (by omega) (by omega) (by omega)
    · have := E.aftHi (n - (i + 1)) (i + 1) (by omega) (by omega)
      rw [phi_hi (by omega)] at this
      rw [phi_hi q, show n' - (i - a + b + 1) = n - (i + 1) by omega, show i - a + b + 1 = i + 1 - a + b by omega]
      exact this

/-- FnIsolatesAreClosed. -/
theorem enclosed_ok {kd vl kd' vl' ft fl ft' fl' : Nat → Int} (E : Encl x y p a b h n n' base) (hk : ∀ j, kd j = 0 ∧ vl j = 0 ∧ kd' j = 0 ∧ vl' j = 0) (hend : y n' = x n)
    (D : Done x kd vl base n ft fl) (D' : Done y kd' vl' base n' ft' fl') {i : Nat} (hi : Out p a i) (hin : i < n) (hr : remN (x i) = false) : fl' (phi p a b i) = fl i := by
  have hn := E.n_
  have hn' := E.n'_
  have hb := E.b0
  have hat : ∀ {i : Nat}, Out p a i → i < n → y (phi p a b i) = x i := fun ho hl => E.at_ ho (by omega)
  obtain ⟨l, t, hl, ht, e1, _, e2⟩ := D.at_ hb E.b7 hin hr
  obtain ⟨l', t', hl', ht', e1', _, e2'⟩ := D'.at_ hb E.b7' (E.phl hi hin) (by rw [hat hi hin]; exact hr)
  have hc := chs_ok (x := x) (base := base) (n := n) hb E.b7
  have hc' := chs_ok (x := y) (base := base) (n := n') hb E.b7'
  have hIs := hc.ch l hl
  obtain ⟨rfl, hlen, hmap⟩ := hIs.map (S := SuX x (fsI n x) base n) (S' := SuX y (fsI n' y) base n') (fun _ _ _ p q => Su.fn p q) (fun _ _ _ p q => SuX.inj hb E.b7' p q) E.maps (hc'.ch l' hl') ht ht' (by rw [e1]; exact hi) (by rw [e1', e1])
  have hne := hIs.ne
  have hmem := fun t (ht : t < l.length) => hc.mem l hl _ (getD_mem0 ht)
  have h0 := hmap 0 (len_pos hne)
  have h0n := (hmem 0 (len_pos hne)).1
  have hz := hmap (l.length - 1) (by have := len_pos hne; omega)
  have hzn := (hmem (l.length - 1) (by have := len_pos hne; omega)).1
  have hV : sqV y base n' l' = sqV x base n l := by
    show LVP y base n' (l'.getD 0 0) = LVP x base n (l.getD 0 0)
    rw [h0.2, E.lv h0.1 h0n]
  have hS : sqS y base n' l' = sqS x base n l := by
    have hq : hd l ≠ p + 1 + a := fun z => by
      have := hIs.fst p
      rw [z] at this
      exact this E.su
    have e : befL (LVP y base n') base (hd l') = befL (LVP x base n) base (hd l) := by
      show befL (LVP y base n') base (l'.getD 0 0) = befL (LVP x base n) base (l.getD 0 0)
      rw [h0.2, E.befE h0.1 h0n hq]
    unfold sqS
    rw [hV, e]
  have hE : sqE y base n' l' = sqE x base n l := by
    have e : eosL (LVP y base n') (CTP y base n') base n' (lst0 l') = eosL (LVP x base n) (CTP x base n) base n (lst0 l) := by
      have q : lst0 l' = phi p a b (lst0 l) := by unfold lst0; rw [← hlen]; exact hz.2
      have q1 : lst0 l ≠ p := fun z => by
        have := hIs.end_ (p + 1 + a)
        rw [lst_getD hne] at this
        unfold lst0 at z
        rw [z] at this
        exact this E.su
      rw [q, E.eosE (show Out p a (lst0 l) from hz.1) (show lst0 l < n from hzn) q1]
    unfold sqE
    rw [hV, e]
  have hT := sqT_map (x := x) (y := y) (kd := kd) (vl := vl) (kd' := kd') (vl' := vl') (base := base) (base' := base) (n := n) (n' := n') (φ := phi p a b) hlen.symm (fun t ht => (hmap t ht).2) (fun t ht => E.toEnc.ct hn hn' (by omega) (hmap t ht).1 (hmem t ht).1)
    (fun t ht => ⟨hat (hmap t ht).1 (hmem t ht).1, by rw [(hk _).1, (hk _).2.2.1], by rw [(hk _).2.1, (hk _).2.2.2]⟩) ⟨hend, by rw [(hk _).1, (hk _).2.2.1], by rw [(hk _).2.1, (hk _).2.2.2]⟩ hV hS hE
  rw [e2, e2', hV, hT]
end
end Go.Proofs.YtkocpijloiamcaaDoor
