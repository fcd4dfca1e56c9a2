/- FnBoundaryNeutrals in plain Lean: a text without its boundary neutrals. No program in sight. -/
import Derived.Test.YtkocpijloiamcaaDoorJn1
namespace Go.Proofs.YtkocpijloiamcaaDoor
set_option linter.unusedVariables false

section
variable {x kd vl y kd' vl' : Nat → Int} {base base' : Int} {n n' : Nat} {l l' : List Nat} {φ : Nat → Nat}
/-- Sequences whose places belong together resolve alike. -/
theorem sqT_map (hlen : l'.length = l.length) (hl : ∀ t, t < l.length → l'.getD t 0 = φ (l.getD t 0)) (hct : ∀ t, t < l.length → CTP y base' n' (φ (l.getD t 0)) = CTP x base n (l.getD t 0))
    (hx : ∀ t, t < l.length → y (φ (l.getD t 0)) = x (l.getD t 0) ∧ kd' (φ (l.getD t 0)) = kd (l.getD t 0) ∧ vl' (φ (l.getD t 0)) = vl (l.getD t 0)) (hend : y n' = x n ∧ kd' n' = kd n ∧ vl' n' = vl n)
    (hV : sqV y base' n' l' = sqV x base n l) (hS : sqS y base' n' l' = sqS x base n l) (hE : sqE y base' n' l' = sqE x base n l) : sqT y kd' vl' base' n' l' = sqT x kd vl base n l := by
  have key : ∀ (f g : Nat → Int), (∀ t, t < l.length → f (φ (l.getD t 0)) = g (l.getD t 0)) → f n' = g n → (fun j => f (pl n' l' j)) = (fun j => g (pl n l j)) := fun f g h1 h2 => by
    funext j
    show f (pl n' l' j) = g (pl n l j)
    unfold pl
    by_cases hj : j < l.length
    · rw [if_pos hj, if_pos (by rw [hlen]; exact hj), hl j hj, h1 j hj]
    · rw [if_neg hj, if_neg (by rw [hlen]; exact hj), h2]
  have e1 : sqC y base' n' l' = sqC x base n l := by
    funext j
    unfold sqC
    by_cases hj : j < l.length
    · rw [if_pos hj, if_pos (by rw [hlen]; exact hj), hl j hj, hct j hj]
    · rw [if_neg hj, if_neg (by rw [hlen]; exact hj)]
  have e2 := key y x (fun t ht => (hx t ht).1) hend.1
  have e3 := key kd' kd (fun t ht => (hx t ht).2.1) hend.2.1
  have e4 := key vl' vl (fun t ht => (hx t ht).2.2) hend.2.2
  have e5 : (fun j => decide (cls (y (pl n' l' j)) = 12)) = (fun j => decide (cls (x (pl n l j)) = 12)) := by
    funext j
    have h5 : y (pl n' l' j) = x (pl n l j) := congrFun e2 j
    show decide (cls (y (pl n' l' j)) = 12) = decide (cls (x (pl n l j)) = 12)
    rw [h5]
  unfold sqT
  rw [hlen, e1, e3, e4, e5, hV, hS, hE]
end

/-- How many of the first k are no boundary neutrals. -/
def kp (x : Nat → Int) : Nat → Nat
  | 0 => 0
  | k + 1 => kp x k + if x k = 11 then 0 else 1

section
variable {x : Nat → Int}
theorem kp_bn {k : Nat} (h : x k = 11) : kp x (k + 1) = kp x k := by rw [kp, if_pos h]; rfl
theorem kp_up {k : Nat} (h : x k ≠ 11) : kp x (k + 1) = kp x k + 1 := by rw [kp, if_neg h]
theorem kp_mono : ∀ {a b : Nat}, a ≤ b → kp x a ≤ kp x b
  | a, 0, h => by have : a = 0 := by omega
                  subst this; exact Nat.le_refl _
  | a, b + 1, h => by
    by_cases e : a = b + 1
    · subst e; exact Nat.le_refl _
    · have := kp_mono (show a ≤ b by omega)
      rw [kp]; omega
theorem kp_lt {a b : Nat} (h : a < b) (ha : x a ≠ 11) : kp x a < kp x b := by
  have := kp_mono (x := x) (show a + 1 ≤ b by omega)
  rw [kp_up ha] at this; omega
theorem kp_lt_iff {a b : Nat} (ha : x a ≠ 11) (hb : x b ≠ 11) : kp x a < kp x b ↔ a < b := by
  constructor
  · intro h
    rcases Nat.lt_or_ge a b with q | q
    · exact q
    · have := kp_mono (x := x) q; omega
  · exact fun h => kp_lt h ha
theorem kp_inj {a b : Nat} (ha : x a ≠ 11) (hb : x b ≠ 11) (h : kp x a = kp x b) : a = b := by
  rcases Nat.lt_trichotomy a b with q | q | q
  · have := kp_lt q ha; omega
  · exact q
  · have := kp_lt q hb; omega
theorem kp_sur : ∀ n k', k' < kp x n → ∃ k, k < n ∧ x k ≠ 11 ∧ kp x k = k'
  | 0, k', h => absurd h (Nat.not_lt_zero _)
  | n + 1, k', h => by
    by_cases e : x n = 11
    · rw [kp_bn e] at h
      obtain ⟨k, a, b⟩ := kp_sur n k' h
      exact ⟨k, by omega, b⟩
    · rw [kp_up e] at h
      by_cases e2 : k' = kp x n
      · exact ⟨n, by omega, e, e2.symm⟩
      · obtain ⟨k, a, b⟩ := kp_sur n k' (by omega)
        exact ⟨k, by omega, b⟩
end

/-- y is x without its boundary neutrals. -/
structure Less (x y : Nat → Int) (n : Nat) : Prop where
  at_ : ∀ i, i < n → x i ≠ 11 → y (kp x i) = x i

section
variable {x y : Nat → Int} {n : Nat}

theorem Less.scan (h : Less x y n) : ∀ f j d, j + f = n → scan (iniN y) (pdiN y) (kp x n) (kp x n - kp x j) (kp x j) d = kp x (scan (iniN x) (pdiN x) n f j d)
  | 0, j, d, hj => by
    have : j = n := by omega
    subst this
    rw [Nat.sub_self]; rfl
  | f + 1, j, d, hj => by
    have ih := fun d => h.scan f (j + 1) d (by omega)
    by_cases e : x j = 11
    · have h1 : iniN x j = false := by show iniB (x j) = false; rw [e]; decide
      have h2 : pdiN x j = false := by show (x j == 22) = false; rw [e]; decide
      rw [scan_other h1 h2, ← ih d, kp_bn e]
    · have hlt := kp_lt (x := x) (show j < n by omega) e
      have hy := h.at_ j (by omega) e
      have h1 : iniN y (kp x j) = iniN x j := by show iniB (y (kp x j)) = iniB (x j); rw [hy]
      have h2 : pdiN y (kp x j) = pdiN x j := by show (y (kp x j) == 22) = (x j == 22); rw [hy]
      have hs : kp x n - kp x j = (kp x n - kp x (j + 1)) + 1 := by rw [kp_up e]; omega
      rw [hs]
      cases hi : iniN x j with
      | true => rw [scan_ini hi, scan_ini (by rw [h1]; exact hi), ← ih (d + 1), kp_up e]
      | false =>
        cases hp : pdiN x j with
        | true =>
          by_cases hd : d = 1
          · subst hd
            rw [scan_hit hi hp, scan_hit (by rw [h1]; exact hi) (by rw [h2]; exact hp)]
          · rw [scan_pdi hi hp hd, scan_pdi (by rw [h1]; exact hi) (by rw [h2]; exact hp) hd, ← ih (d - 1), kp_up e]
        | false => rw [scan_other hi hp, scan_other (by rw [h1]; exact hi) (by rw [h2]; exact hp), ← ih d, kp_up e]

theorem Less.mat (h : Less x y n) {i : Nat} (hi : i < n) (e : x i ≠ 11) : mat (iniN y) (pdiN y) (kp x n) (kp x i) = kp x (mat (iniN x) (pdiN x) n i) := by
  have := h.scan (n - (i + 1)) (i + 1) 1 (by omega)
  rw [kp_up e] at this
  exact this

/-- Where an isolate ends there is a PDI, or the end of the text. -/
theorem mat_kept {i : Nat} (hi : i < n) (hini : iniN x i = true) (hm : Go.Proofs.YtkocpijloiamcaaDoor.mat (iniN x) (pdiN x) n i < n) : x (Go.Proofs.YtkocpijloiamcaaDoor.mat (iniN x) (pdiN x) n i) ≠ 11 := by
  have := ((in_isolate (x := x) (fs := fun _ => 0) (base := 0) (by omega) hi hini).2 hm).1
  rw [this]; decide

theorem Less.fs (h : Less x y n) {z : Nat} (hz : z ≤ n) : ∀ m i, z - i ≤ m → fsN y 0 (kp x n) (kp x i) (kp x z) = fsN x 0 n i z
  | m, i, hm => by
    induction m using Nat.strongRecOn generalizing i with
    | _ m ih =>
      have hzz := kp_mono (x := x) hz
      by_cases hiz : z ≤ i
      · rw [fsN_end hiz, fsN_end (kp_mono hiz)]
      · by_cases e : x i = 11
        · have h1 : sLN x i = false := by show (x i == 0) = false; rw [e]; decide
          have h2 : sRN x i = false := by show (x i == 1 || x i == 13) = false; rw [e]; decide
          have hj : jmp (iniN x) (pdiN x) n i = i + 1 := if_neg (by show ¬ iniB (x i) = true; rw [e]; decide)
          rw [fsN_jmp (by omega) hz h1 h2, hj, ← ih (m - 1) (by omega) (i + 1) (by omega), kp_bn e]
        · have hlt := kp_lt (x := x) (show i < z by omega) e
          have hy := h.at_ i (by omega) e
          have h1 : sLN y (kp x i) = sLN x i := by show (y (kp x i) == 0) = (x i == 0); rw [hy]
          have h2 : sRN y (kp x i) = sRN x i := by show (y (kp x i) == 1 || y (kp x i) == 13) = (x i == 1 || x i == 13); rw [hy]
          have h3 : iniN y (kp x i) = iniN x i := by show iniB (y (kp x i)) = iniB (x i); rw [hy]
          cases hL : sLN x i with
          | true => rw [fsN_L (by omega) hL, fsN_L hlt (by rw [h1]; exact hL)]
          | false =>
            cases hR : sRN x i with
            | true => rw [fsN_R (by omega) hL hR, fsN_R hlt (by rw [h1]; exact hL) (by rw [h2]; exact hR)]
            | false =>
              rw [fsN_jmp (by omega) hz hL hR, fsN_jmp hlt hzz (by rw [h1]; exact hL) (by rw [h2]; exact hR)]
              cases hi : iniN x i with
              | false =>
                have j1 : jmp (iniN x) (pdiN x) n i = i + 1 := if_neg (by rw [hi]; decide)
                have j2 : jmp (iniN y) (pdiN y) (kp x n) (kp x i) = kp x (i + 1) := by
                  rw [kp_up e]; exact if_neg (by rw [h3, hi]; decide)
                rw [j1, j2]
                exact ih (m - 1) (by omega) (i + 1) (by omega)
              | true =>
                have hgt := mat_gt (ini := iniN x) (pdi := pdiN x) (n := n) (show i < n by omega)
                have hle := mat_le (ini := iniN x) (pdi := pdiN x) (n := n) (show i < n by omega)
                have j1 : jmp (iniN x) (pdiN x) n i = Go.Proofs.YtkocpijloiamcaaDoor.mat (iniN x) (pdiN x) n i + 1 := if_pos hi
                have j2 : jmp (iniN y) (pdiN y) (kp x n) (kp x i) = kp x (Go.Proofs.YtkocpijloiamcaaDoor.mat (iniN x) (pdiN x) n i) + 1 := by
                  rw [← h.mat (by omega) e]; exact if_pos (by rw [h3]; exact hi)
                rw [j1, j2]
                by_cases hmn : Go.Proofs.YtkocpijloiamcaaDoor.mat (iniN x) (pdiN x) n i < n
                · have := mat_kept (by omega) hi hmn
                  rw [← kp_up this]
                  exact ih (m - (Go.Proofs.YtkocpijloiamcaaDoor.mat (iniN x) (pdiN x) n i + 1 - i)) (by omega) _ (by omega)
                · have em : Go.Proofs.YtkocpijloiamcaaDoor.mat (iniN x) (pdiN x) n i = n := by omega
                  rw [em, fsN_end (by omega), fsN_end (by omega)]

theorem Less.fsI (h : Less x y n) {i : Nat} (hi : i < n) (e : x i ≠ 11) : Go.Proofs.YtkocpijloiamcaaDoor.fsI (kp x n) y (kp x i) = Go.Proofs.YtkocpijloiamcaaDoor.fsI n x i := by
  unfold Go.Proofs.YtkocpijloiamcaaDoor.fsI
  rw [h.mat hi e, ← kp_up e]
  exact h.fs (mat_le hi) _ _ (Nat.le_refl _)

theorem Less.base (h : Less x y n) (g : Int) : (if g = -1 then fsN y 0 (kp x n) 0 (kp x n) else g) = (if g = -1 then fsN x 0 n 0 n else g) := by
  have := h.fs (Nat.le_refl n) n 0 (by omega)
  rw [show kp x 0 = 0 from rfl] at this
  rw [this]

theorem step_bn (m : Mst) (f : Int) : m.step 11 f = m := by
  unfold Mst.step
  rw [if_neg (by omega), if_neg (by omega), if_neg (by omega), if_neg (by omega), if_neg (by omega), if_neg (by omega), if_neg (by omega), if_neg (by omega), if_neg (by omega)]
theorem step_fs (m : Mst) {t f g : Int} (h : t = 21 → f = g) : m.step t f = m.step t g := by
  by_cases e : t = 21
  · rw [h e]
  · unfold Mst.step
    rw [if_neg (show ¬ t = 21 from e), if_neg (show ¬ t = 21 from e)]

theorem Less.mst (h : Less x y n) {base : Int} : ∀ i, i ≤ n → Go.Proofs.YtkocpijloiamcaaDoor.mst y (Go.Proofs.YtkocpijloiamcaaDoor.fsI (kp x n) y) base (kp x i) = Go.Proofs.YtkocpijloiamcaaDoor.mst x (Go.Proofs.YtkocpijloiamcaaDoor.fsI n x) base i
  | 0, _ => rfl
  | i + 1, hi => by
    have ih := h.mst (base := base) i (by omega)
    by_cases e : x i = 11
    · rw [kp_bn e, ih]
      show _ = (Go.Proofs.YtkocpijloiamcaaDoor.mst x (Go.Proofs.YtkocpijloiamcaaDoor.fsI n x) base i).step (x i) _
      rw [e, step_bn]
    · rw [kp_up e]
      show (Go.Proofs.YtkocpijloiamcaaDoor.mst y (Go.Proofs.YtkocpijloiamcaaDoor.fsI (kp x n) y) base (kp x i)).step (y (kp x i)) (Go.Proofs.YtkocpijloiamcaaDoor.fsI (kp x n) y (kp x i)) = (Go.Proofs.YtkocpijloiamcaaDoor.mst x (Go.Proofs.YtkocpijloiamcaaDoor.fsI n x) base i).step (x i) (Go.Proofs.YtkocpijloiamcaaDoor.fsI n x i)
      rw [ih, h.at_ i (by omega) e, h.fsI (by omega) e]

variable {base : Int}
theorem Less.lvP (h : Less x y n) {i : Nat} (hi : i < n) (e : x i ≠ 11) : LVP y base (kp x n) (kp x i) = LVP x base n i := by
  have h1 := h.mst (base := base) i (by omega)
  unfold LVP lvR lvl
  rw [h1, h.at_ i hi e]
theorem Less.ctP (h : Less x y n) {i : Nat} (hi : i < n) (e : x i ≠ 11) : CTP y base (kp x n) (kp x i) = CTP x base n i := by
  have h1 := h.mst (base := base) i (by omega)
  unfold CTP tI
  rw [h1, h.at_ i hi e]
theorem lvP_bn {i : Nat} (e : x i = 11) : LVP x base n i = -1 := by
  unfold LVP lvR
  rw [e]; exact if_pos (by decide)

theorem Less.lastL (h : Less x y n) : ∀ k, k ≤ n → Go.Proofs.YtkocpijloiamcaaDoor.lastL (LVP y base (kp x n)) (kp x k) = Go.Proofs.YtkocpijloiamcaaDoor.lastL (LVP x base n) k
  | 0, _ => rfl
  | k + 1, hk => by
    have ih := h.lastL k (by omega)
    by_cases e : x k = 11
    · rw [kp_bn e, ih, (rs_rem (lvP_bn e)).2]
    · rw [kp_up e]
      have hl := h.lvP (base := base) (show k < n by omega) e
      by_cases r : LVP x base n k = -1
      · rw [(rs_rem r).2, (rs_rem (by rw [hl]; exact r)).2, ih]
      · rw [lastL_of r, lastL_of (by rw [hl]; exact r), hl]
theorem Less.befL (h : Less x y n) {k : Nat} (hk : k ≤ n) : Go.Proofs.YtkocpijloiamcaaDoor.befL (LVP y base (kp x n)) base (kp x k) = Go.Proofs.YtkocpijloiamcaaDoor.befL (LVP x base n) base k := by
  unfold Go.Proofs.YtkocpijloiamcaaDoor.befL
  rw [h.lastL k hk]
theorem Less.aftL (h : Less x y n) : ∀ f k, k + f = n → Go.Proofs.YtkocpijloiamcaaDoor.aftL (LVP y base (kp x n)) base (kp x n - kp x k) (kp x k) = Go.Proofs.YtkocpijloiamcaaDoor.aftL (LVP x base n) base f k
  | 0, k, hk => by
    have : k = n := by omega
    subst this
    rw [Nat.sub_self]; rfl
  | f + 1, k, hk => by
    have ih := h.aftL f (k + 1) (by omega)
    by_cases e : x k = 11
    · rw [Go.Proofs.YtkocpijloiamcaaDoor.aftL, if_pos (lvP_bn e), ← ih, kp_bn e]
    · have hlt := kp_lt (x := x) (show k < n by omega) e
      have hl := h.lvP (base := base) (show k < n by omega) e
      have hs : kp x n - kp x k = (kp x n - kp x (k + 1)) + 1 := by rw [kp_up e]; omega
      rw [hs, Go.Proofs.YtkocpijloiamcaaDoor.aftL, Go.Proofs.YtkocpijloiamcaaDoor.aftL, hl, ← ih, kp_up e]

theorem kept_of (hb : base = 0 ∨ base = 1) {i : Nat} (h : LVP x base n i ≠ -1) : x i ≠ 11 := fun e => h (lvP_bn e)

theorem Less.lastR (h : Less x y n) {i : Nat} (hi : i < n) (e : x i ≠ 11) : Go.Proofs.YtkocpijloiamcaaDoor.lastR (LVP y base (kp x n)) (kp x n) (kp x i) ↔ Go.Proofs.YtkocpijloiamcaaDoor.lastR (LVP x base n) n i := by
  unfold Go.Proofs.YtkocpijloiamcaaDoor.lastR
  constructor
  · intro q j a b c d r
    have hj : x j ≠ 11 := fun z => c (lvP_bn z)
    refine q (kp x j) (kp_lt a e) (kp_lt b hj) (by rw [h.lvP b hj]; exact c) (fun k' k1 k2 => ?_) (by rw [h.lvP b hj, h.lvP hi e]; exact r)
    obtain ⟨k, hk, hk2, rfl⟩ := kp_sur (x := x) n k' (by have := kp_lt b hj; omega)
    rw [h.lvP hk hk2]
    exact d k ((kp_lt_iff e hk2).1 k1) ((kp_lt_iff hk2 hj).1 k2)
  · intro q j' a b c d r
    obtain ⟨j, hj, hj2, rfl⟩ := kp_sur (x := x) n j' b
    rw [h.lvP hj hj2] at c r
    rw [h.lvP hi e] at r
    refine q j ((kp_lt_iff e hj2).1 a) hj c (fun k k1 k2 => ?_) r
    by_cases z : x k = 11
    · exact lvP_bn z
    · rw [← h.lvP (base := base) (by omega) z]
      exact d (kp x k) (kp_lt k1 e) (kp_lt k2 z)

theorem Less.su (h : Less x y n) {i j : Nat} (hi : i < n) (hj : j < n) (ei : x i ≠ 11) (ej : x j ≠ 11) : SuX y (Go.Proofs.YtkocpijloiamcaaDoor.fsI (kp x n) y) base (kp x n) (kp x i) (kp x j) ↔ SuX x (Go.Proofs.YtkocpijloiamcaaDoor.fsI n x) base n i j := by
  have li := h.lvP (base := base) hi ei
  have lj := h.lvP (base := base) hj ej
  have hini : iniN y (kp x i) = iniN x i := by show iniB (y (kp x i)) = iniB (x i); rw [h.at_ i hi ei]
  show Su (LVP y base (kp x n)) (iniN y) (pdiN y) (kp x n) (kp x i) (kp x j) ↔ Su (LVP x base n) (iniN x) (pdiN x) n i j
  unfold Su
  rw [li, lj]
  constructor
  · rintro ⟨a, b, c, d, r⟩
    have hij := (kp_lt_iff ei ej).1 a
    refine ⟨hij, hj, c, d, ?_⟩
    rcases r with ⟨r1, r2⟩ | ⟨r1, r2, r3⟩
    · refine .inl ⟨fun k k1 k2 => ?_, r2⟩
      by_cases z : x k = 11
      · exact lvP_bn z
      · rw [← h.lvP (base := base) (by omega) z]
        exact r1 (kp x k) (kp_lt k1 ei) (kp_lt k2 z)
    · refine .inr ⟨(h.lastR hi ei).1 r1, by rw [← hini]; exact r2, ?_⟩
      rw [h.mat hi ei] at r3
      have hle := mat_le (ini := iniN x) (pdi := pdiN x) (n := n) hi
      by_cases hm : Go.Proofs.YtkocpijloiamcaaDoor.mat (iniN x) (pdiN x) n i < n
      · exact kp_inj ej (mat_kept hi (by rw [← hini]; exact r2) hm) r3
      · have em : Go.Proofs.YtkocpijloiamcaaDoor.mat (iniN x) (pdiN x) n i = n := by omega
        rw [em] at r3
        have := kp_lt hj ej
        omega
  · rintro ⟨a, b, c, d, r⟩
    refine ⟨kp_lt a ei, kp_lt b ej, c, d, ?_⟩
    rcases r with ⟨r1, r2⟩ | ⟨r1, r2, r3⟩
    · refine .inl ⟨fun k' k1 k2 => ?_, r2⟩
      obtain ⟨k, hk, hk2, rfl⟩ := kp_sur (x := x) n k' (by have := kp_lt b ej; omega)
      rw [h.lvP hk hk2]
      exact r1 k ((kp_lt_iff ei hk2).1 k1) ((kp_lt_iff hk2 ej).1 k2)
    · exact .inr ⟨(h.lastR hi ei).2 r1, by rw [hini]; exact r2, by rw [h.mat hi ei, ← r3]⟩

theorem Less.maps (h : Less x y n) (hb : base = 0 ∨ base = 1) : MapsTo (SuX x (Go.Proofs.YtkocpijloiamcaaDoor.fsI n x) base n) (SuX y (Go.Proofs.YtkocpijloiamcaaDoor.fsI (kp x n) y) base (kp x n)) (fun i => i < n ∧ x i ≠ 11) (kp x) where
  next i j hi hs := by
    have hj : j < n := hs.2.1
    have ej : x j ≠ 11 := kept_of hb hs.2.2.2.1
    exact ⟨⟨hj, ej⟩, (h.su hi.1 hj hi.2 ej).2 hs⟩
  noNext i j' hi hs := by
    obtain ⟨j, hj, ej, rfl⟩ := kp_sur (x := x) n j' hs.2.1
    exact ⟨j, (h.su hi.1 hj hi.2 ej).1 hs⟩
  prev i j hj hs := ⟨by have := hs.1; have := hj.1; omega, kept_of hb hs.2.2.1⟩
  noPrev i' j hj hs := by
    obtain ⟨i, hi, ei, rfl⟩ := kp_sur (x := x) n i' (by have := hs.1; have := hs.2.1; omega)
    exact ⟨i, (h.su hi hj.1 ei hj.2).1 hs⟩

/-- FnBoundaryNeutrals. -/
theorem boundary_ok {kd vl kd' vl' ft fl ft' fl' : Nat → Int} (hb : base = 0 ∨ base = 1) (h : Less x y n) (hB : ∀ i, i < n → x i = 7 → n ≤ i + 1) (hB' : ∀ i, i < kp x n → y i = 7 → kp x n ≤ i + 1)
    (hk : ∀ i, i < n → x i ≠ 11 → kd' (kp x i) = kd i ∧ vl' (kp x i) = vl i) (hend : y (kp x n) = x n ∧ kd' (kp x n) = kd n ∧ vl' (kp x n) = vl n)
    (D : Done x kd vl base n ft fl) (D' : Done y kd' vl' base (kp x n) ft' fl') {i : Nat} (hi : i < n) (hr : remN (x i) = false) : fl' (kp x i) = fl i := by
  have ei : x i ≠ 11 := fun e => by rw [e] at hr; exact absurd hr (by decide)
  obtain ⟨l, t, hl, ht, e1, _, e2⟩ := D.at_ hb hB hi hr
  obtain ⟨l', t', hl', ht', e1', _, e2'⟩ := D'.at_ hb hB' (kp_lt hi ei) (by rw [h.at_ i hi ei]; exact hr)
  have hc := chs_ok (x := x) (base := base) (n := n) hb hB
  have hc' := chs_ok (x := y) (base := base) (n := kp x n) hb hB'
  obtain ⟨rfl, hlen, hmap⟩ := (hc.ch l hl).map (S := SuX x (Go.Proofs.YtkocpijloiamcaaDoor.fsI n x) base n) (S' := SuX y (Go.Proofs.YtkocpijloiamcaaDoor.fsI (kp x n) y) base (kp x n)) (fun _ _ _ p q => Su.fn p q) (fun _ _ _ p q => SuX.inj hb hB' p q) (h.maps hb) (hc'.ch l' hl') ht ht' (by rw [e1]; exact ⟨hi, ei⟩) (by rw [e1', e1])
  have hne := (hc.ch l hl).ne
  have h0 := hmap 0 (len_pos hne)
  have hz := hmap (l.length - 1) (by have := len_pos hne; omega)
  have hV : sqV y base (kp x n) l' = sqV x base n l := by
    show LVP y base (kp x n) (l'.getD 0 0) = LVP x base n (l.getD 0 0)
    rw [h0.2, h.lvP h0.1.1 h0.1.2]
  have hS : sqS y base (kp x n) l' = sqS x base n l := by
    have e : Go.Proofs.YtkocpijloiamcaaDoor.befL (LVP y base (kp x n)) base (hd l') = Go.Proofs.YtkocpijloiamcaaDoor.befL (LVP x base n) base (hd l) := by
      show Go.Proofs.YtkocpijloiamcaaDoor.befL (LVP y base (kp x n)) base (l'.getD 0 0) = Go.Proofs.YtkocpijloiamcaaDoor.befL (LVP x base n) base (l.getD 0 0)
      rw [h0.2, h.befL (by have := h0.1.1; omega)]
    unfold sqS
    rw [hV, e]
  have hE : sqE y base (kp x n) l' = sqE x base n l := by
    have e : eosL (LVP y base (kp x n)) (CTP y base (kp x n)) base (kp x n) (lst0 l') = eosL (LVP x base n) (CTP x base n) base n (lst0 l) := by
      have q : lst0 l' = kp x (lst0 l) := by unfold lst0; rw [← hlen]; exact hz.2
      have q1 : lst0 l < n := hz.1.1
      have q2 : x (lst0 l) ≠ 11 := hz.1.2
      unfold eosL
      rw [q, h.ctP q1 q2]
      split
      · rfl
      · have := h.aftL (base := base) (n - (lst0 l + 1)) (lst0 l + 1) (by omega)
        rw [kp_up q2] at this
        exact this
    unfold sqE
    rw [hV, e]
  have hT := sqT_map (x := x) (y := y) (kd := kd) (vl := vl) (kd' := kd') (vl' := vl') (base := base) (base' := base) (n := n) (n' := kp x n) (φ := kp x) hlen.symm (fun t ht => (hmap t ht).2) (fun t ht => h.ctP (hmap t ht).1.1 (hmap t ht).1.2)
    (fun t ht => ⟨h.at_ _ (hmap t ht).1.1 (hmap t ht).1.2, hk _ (hmap t ht).1.1 (hmap t ht).1.2⟩) hend hV hS hE
  rw [e2, e2', hV, hT]
end
end Go.Proofs.YtkocpijloiamcaaDoor
