/- FnIsolatesAreClosed in plain Lean: what stands in an isolate does not change the levels outside of it. No program in sight. -/
import Derived.Test.YtkocpijloiamcaaDoorJnM
import Derived.Test.YtkocpijloiamcaaDoorJnB
namespace Go.Proofs.YtkocpijloiamcaaDoor
set_option linter.unusedVariables false

/-! ### The stack machine on states that are alike -/
namespace Mst
theorem Eqv.refl (a : Mst) : Eqv a a := ⟨rfl, fun _ _ => rfl, fun _ _ => rfl, fun _ _ => rfl, rfl, rfl, rfl⟩
theorem Eqv.symm {a b : Mst} (h : Eqv a b) : Eqv b a := ⟨h.d.symm, fun j hj => (h.lv j (by rw [h.d]; exact hj)).symm, fun j hj => (h.ov j (by rw [h.d]; exact hj)).symm, fun j hj => (h.iso j (by rw [h.d]; exact hj)).symm, h.oi.symm, h.oe.symm, h.vi.symm⟩
theorem Eqv.trans {a b c : Mst} (h : Eqv a b) (k : Eqv b c) : Eqv a c := ⟨h.d.trans k.d, fun j hj => (h.lv j hj).trans (k.lv j (by rw [← h.d]; exact hj)), fun j hj => (h.ov j hj).trans (k.ov j (by rw [← h.d]; exact hj)), fun j hj => (h.iso j hj).trans (k.iso j (by rw [← h.d]; exact hj)), h.oi.trans k.oi, h.oe.trans k.oe, h.vi.trans k.vi⟩

theorem below_congr {f g : Nat → Bool} : ∀ d, (∀ j, j < d → f j = g j) → below f d = below g d
  | 0, _ => rfl
  | d + 1, h => by rw [below, below, below_congr d (fun j hj => h j (by omega)), h d (by omega)]

variable {a b : Mst}
theorem Eqv.tov (h : Eqv a b) (h1 : 1 ≤ a.d) : a.tov = b.tov := by
  unfold Mst.tov
  rw [h.ov _ (by omega), h.d]
theorem Eqv.next (h : Eqv a b) (h1 : 1 ≤ a.d) (odd : Int) : a.next odd = b.next odd := by
  unfold Mst.next
  rw [h.top h1]
theorem Eqv.room (h : Eqv a b) (h1 : 1 ≤ a.d) (odd : Int) : a.room odd ↔ b.room odd := by
  unfold Mst.room
  rw [h.next h1, h.oi, h.oe]
theorem up_congr {α : Type} {f g : Nat → α} {d e : Nat} (hd : d = e) (v : α) (h : ∀ j, j < d → f j = g j) : ∀ j, j < d + 1 → up f d v j = up g e v j := by
  subst hd
  intro j hj
  by_cases q : j = d
  · rw [q, up_at, up_at]
  · rw [up_ne _ _ q, up_ne _ _ q]; exact h j (by omega)
theorem Eqv.push (h : Eqv a b) (l o : Int) (i : Bool) : Eqv (a.push l o i) (b.push l o i) :=
  ⟨by show a.d + 1 = b.d + 1; rw [h.d], up_congr h.d l h.lv, up_congr h.d o h.ov, up_congr h.d i h.iso, h.oi, h.oe, h.vi⟩
theorem Eqv.embed (h : Eqv a b) (h1 : 1 ≤ a.d) (odd asv : Int) : Eqv (a.embed odd asv) (b.embed odd asv) := by
  unfold Mst.embed
  by_cases r : a.room odd
  · rw [if_pos r, if_pos ((h.room h1 odd).1 r), h.next h1]
    exact h.push _ _ _
  · rw [if_neg r, if_neg (fun q => r ((h.room h1 odd).2 q)), h.oi]
    split
    · exact ⟨h.d, h.lv, h.ov, h.iso, (by first | exact h.oi | rfl), by show a.oe + 1 = b.oe + 1; rw [h.oe], h.vi⟩
    · exact h
theorem Eqv.begin_ (h : Eqv a b) (h1 : 1 ≤ a.d) (odd : Int) : Eqv (a.begin_ odd) (b.begin_ odd) := by
  unfold Mst.begin_
  by_cases r : a.room odd
  · rw [if_pos r, if_pos ((h.room h1 odd).1 r), h.next h1]
    have := h.push (b.next odd) (-1) true
    exact ⟨this.d, this.lv, this.ov, this.iso, this.oi, this.oe, by show a.vi + 1 = b.vi + 1; rw [h.vi]⟩
  · rw [if_neg r, if_neg (fun q => r ((h.room h1 odd).2 q))]
    exact ⟨h.d, h.lv, h.ov, h.iso, by show a.oi + 1 = b.oi + 1; rw [h.oi], h.oe, h.vi⟩
theorem Eqv.pop (h : Eqv a b) (h1 : 1 ≤ a.d) : Eqv a.pop b.pop := by
  have ht : a.tiso = b.tiso := by
    unfold Mst.tiso
    rw [h.iso _ (by omega), h.d]
  unfold Mst.pop
  rw [h.oi, h.oe, ht, h.d]
  split
  · exact h
  · split
    · exact ⟨(by first | exact h.d | rfl), fun j hj => h.lv j (by first | exact hj | (rw [h.d]; exact hj)), fun j hj => h.ov j (by first | exact hj | (rw [h.d]; exact hj)), fun j hj => h.iso j (by first | exact hj | (rw [h.d]; exact hj)), (by first | exact h.oi | rfl), rfl, h.vi⟩
    · split
      · have hd := h.d
        exact ⟨rfl, fun j hj => h.lv j (by have : j < b.d - 1 := hj; omega), fun j hj => h.ov j (by have : j < b.d - 1 := hj; omega), fun j hj => h.iso j (by have : j < b.d - 1 := hj; omega), (by first | exact h.oi | rfl), (by first | exact h.oe | rfl), h.vi⟩
      · exact h
theorem Eqv.close' (h : Eqv a b) : Eqv a.close b.close := by
  have hb : below a.iso a.d = below b.iso b.d := by rw [← h.d]; exact below_congr _ h.iso
  unfold Mst.close
  rw [h.oi, h.vi]
  split
  · exact ⟨h.d, h.lv, h.ov, h.iso, rfl, h.oe, (by first | exact h.vi | rfl)⟩
  · split
    · have hl := below_le a.iso a.d
      exact ⟨hb, fun j hj => h.lv j (by have : j < below a.iso a.d := hj; omega), fun j hj => h.ov j (by have : j < below a.iso a.d := hj; omega), fun j hj => h.iso j (by have : j < below a.iso a.d := hj; omega), (by first | exact h.oi | rfl), rfl, rfl⟩
    · exact h
theorem Eqv.step (h : Eqv a b) (h1 : 1 ≤ a.d) (t f : Int) : Eqv (a.step t f) (b.step t f) := by
  unfold Mst.step
  repeat' split
  · exact h.embed h1 _ _
  · exact h.embed h1 _ _
  · exact h.embed h1 _ _
  · exact h.embed h1 _ _
  · exact h.pop h1
  · exact h.begin_ h1 _
  · exact h.begin_ h1 _
  · exact h.begin_ h1 _
  · exact h.close'
  · exact h
end Mst

/-! ### A text with its isolates within it -/
/-- The depth of isolates behind k characters from place s on. -/
def dep (x : Nat → Int) (s : Nat) : Nat → Int
  | 0 => 0
  | k + 1 => dep x s k + (if iniN x (s + k) = true then 1 else if pdiN x (s + k) = true then -1 else 0)
structure Clo (x : Nat → Int) (s a : Nat) : Prop where
  ge : ∀ k, k ≤ a → 0 ≤ dep x s k
  end_ : dep x s a = 0
  no7 : ∀ k, k < a → x (s + k) ≠ 7

section
variable {x : Nat → Int} {s a n : Nat}
theorem ini_pdi {i : Nat} (h : iniN x i = true) : pdiN x i = false := by
  unfold iniN iniB at h
  have := of_decide_eq_true h
  unfold pdiN
  rw [beq_eq_false_iff_ne]
  omega
/-- A scan passes over a closed text. -/
theorem Clo.scan (h : Clo x s a) (d : Nat) (hd : 1 ≤ d) : ∀ k f, k ≤ a → scan (iniN x) (pdiN x) n (f + k) s d = scan (iniN x) (pdiN x) n f (s + k) (((d : Int) + dep x s k).toNat)
  | 0, f, _ => by
    show Go.Proofs.YtkocpijloiamcaaDoor.scan _ _ n f s d = Go.Proofs.YtkocpijloiamcaaDoor.scan _ _ n f s ((d : Int) + 0).toNat
    rw [Int.add_zero, Int.toNat_natCast]
  | k + 1, f, hk => by
    have ih := h.scan d hd k (f + 1) (by omega)
    have g1 := h.ge k (by omega)
    have g2 := h.ge (k + 1) hk
    rw [show f + (k + 1) = f + 1 + k by omega, ih]
    rw [dep] at g2 ⊢
    cases hi : iniN x (s + k) with
    | true =>
      rw [scan_ini hi, if_pos rfl]
      congr 1
      omega
    | false =>
      rw [hi] at g2
      cases hp : pdiN x (s + k) with
      | true =>
        rw [hp] at g2
        rw [if_neg (by decide), if_pos rfl] at g2
        rw [scan_pdi hi hp (by omega), if_neg (by decide), if_pos rfl]
        congr 1
        omega
      | false =>
        rw [scan_other hi hp, if_neg (by decide), if_neg (by decide), Int.add_zero]
        rfl

/-- A scan that begins within ends within. -/
theorem Clo.scanWithin (h : Clo x s a) : ∀ (m k f d : Nat), k + m = a → 1 ≤ d → (d : Int) + dep x s a - dep x s k ≤ 0 → Go.Proofs.YtkocpijloiamcaaDoor.scan (iniN x) (pdiN x) n (f + m) (s + k) d < s + a
  | 0, k, f, d, hk, hd, hz => by
    have : k = a := by omega
    subst this
    omega
  | m + 1, k, f, d, hk, hd, hz => by
    have e : dep x s (k + 1) = dep x s k + (if iniN x (s + k) = true then 1 else if pdiN x (s + k) = true then -1 else 0) := rfl
    have ih := fun d => h.scanWithin m (k + 1) f d (by omega)
    rw [show f + (m + 1) = f + m + 1 by omega]
    cases hi : iniN x (s + k) with
    | true =>
      rw [hi, if_pos rfl] at e
      rw [scan_ini hi]
      exact ih (d + 1) (by omega) (by omega)
    | false =>
      rw [hi, if_neg (by decide)] at e
      cases hp : pdiN x (s + k) with
      | true =>
        rw [hp, if_pos rfl] at e
        by_cases q : d = 1
        · subst q
          rw [scan_hit hi hp]; omega
        · rw [scan_pdi hi hp q]
          exact ih (d - 1) (by omega) (by omega)
      | false =>
        rw [hp, if_neg (by decide)] at e
        rw [scan_other hi hp]
        exact ih d hd (by omega)
end

/-! ### Two texts that differ within an isolate -/
/-- Where a place outside of the isolate goes to. -/
def phi (p a b i : Nat) : Nat := if i ≤ p then i else i - a + b
/-- A place outside. -/
def Out (p a i : Nat) : Prop := i ≤ p ∨ p + 1 + a ≤ i

theorem phi_lo {p a b i : Nat} (h : i ≤ p) : phi p a b i = i := if_pos h
theorem phi_hi {p a b i : Nat} (h : p + 1 + a ≤ i) : phi p a b i = i - a + b := if_neg (by omega)
theorem phi_inv {p a b i : Nat} (h : Out p a i) : phi p b a (phi p a b i) = i := by
  rcases h with h | h
  · rw [phi_lo h, phi_lo h]
  · rw [phi_hi h, phi_hi (by omega)]; omega
theorem phi_out {p a b i : Nat} (h : Out p a i) : Out p b (phi p a b i) := by
  rcases h with h | h
  · rw [phi_lo h]; exact .inl h
  · rw [phi_hi h]; exact .inr (by omega)
theorem phi_succ {p a b i : Nat} (h : Out p a i) (hp : i ≠ p) : phi p a b (i + 1) = phi p a b i + 1 ∧ Out p a (i + 1) := by
  rcases h with h | h
  · rw [phi_lo h, phi_lo (by omega)]; exact ⟨rfl, .inl (by omega)⟩
  · rw [phi_hi h, phi_hi (by omega)]; exact ⟨by omega, .inr (by omega)⟩
theorem phi_lt {p a b i j : Nat} (hi : Out p a i) (hj : Out p a j) : phi p a b i < phi p a b j ↔ i < j := by
  rcases hi with hi | hi <;> rcases hj with hj | hj
  · rw [phi_lo hi, phi_lo hj]
  · rw [phi_lo hi, phi_hi hj]; omega
  · rw [phi_hi hi, phi_lo hj]; omega
  · rw [phi_hi hi, phi_hi hj]; omega

structure Enc (x y : Nat → Int) (p a b h : Nat) : Prop where
  pre : ∀ i, i ≤ p → y i = x i
  suf : ∀ i, p + 1 + a ≤ i → i < p + a + h + 2 → y (i - a + b) = x i
  ini : iniN x p = true
  pdi : x (p + 1 + a) = 22
  cx : Clo x (p + 1) a
  cy : Clo y (p + 1) b

section
variable {x y : Nat → Int} {p a b h n n' : Nat} {base : Int}

theorem Enc.at_ (E : Enc x y p a b h) {i : Nat} (hi : Out p a i) (hn : i < p + a + h + 2) : y (phi p a b i) = x i := by
  rcases hi with q | q
  · rw [phi_lo q]; exact E.pre i q
  · rw [phi_hi q]; exact E.suf i q hn
theorem Enc.symm (E : Enc x y p a b h) : Enc y x p b a h where
  pre i hi := (E.pre i hi).symm
  suf i h1 h2 := by
    have := E.suf (i - b + a) (by omega) (by omega)
    rw [show i - b + a - a + b = i by omega] at this
    exact this.symm
  ini := by show iniB (y p) = true; rw [E.pre p (Nat.le_refl _)]; exact E.ini
  pdi := by
    have := E.suf (p + 1 + a) (Nat.le_refl _) (by omega)
    rw [show p + 1 + a - a + b = p + 1 + b by omega] at this
    rw [this]; exact E.pdi
  cx := E.cy
  cy := E.cx

theorem Enc.phin (hn : n = p + a + h + 2) (hn' : n' = p + b + h + 2) : phi p a b n = n' := by rw [phi_hi (by omega)]; omega

theorem Enc.iniE (E : Enc x y p a b h) {i : Nat} (hi : Out p a i) (hn : i < p + a + h + 2) : iniN y (phi p a b i) = iniN x i := by show iniB _ = iniB _; rw [E.at_ hi hn]
theorem Enc.pdiE (E : Enc x y p a b h) {i : Nat} (hi : Out p a i) (hn : i < p + a + h + 2) : pdiN y (phi p a b i) = pdiN x i := by show (y _ == 22) = (x i == 22); rw [E.at_ hi hn]
theorem Enc.pdiP (E : Enc x y p a b h) : iniN x (p + 1 + a) = false ∧ pdiN x (p + 1 + a) = true := by
  constructor
  · show iniB (x (p + 1 + a)) = false; rw [E.pdi]; decide
  · show (x (p + 1 + a) == 22) = true; rw [E.pdi]; decide

/-- Scans outside go alike. -/
theorem Enc.scanHi (E : Enc x y p a b h) (hn : n = p + a + h + 2) (hn' : n' = p + b + h + 2) : ∀ f j d, j + f = n → p + 1 + a ≤ j → Go.Proofs.YtkocpijloiamcaaDoor.scan (iniN y) (pdiN y) n' f (phi p a b j) d = phi p a b (Go.Proofs.YtkocpijloiamcaaDoor.scan (iniN x) (pdiN x) n f j d) ∧ Out p a (Go.Proofs.YtkocpijloiamcaaDoor.scan (iniN x) (pdiN x) n f j d)
  | 0, j, d, hj, hp => by
    rw [scan_none, scan_none, Enc.phin hn hn']
    exact ⟨rfl, .inr (by omega)⟩
  | f + 1, j, d, hj, hp => by
    have ho : Out p a j := .inr hp
    have ih := fun d => E.scanHi hn hn' f (j + 1) d (by omega) (by omega)
    have e1 := E.iniE ho (show j < p + a + h + 2 by omega)
    have e2 := E.pdiE ho (show j < p + a + h + 2 by omega)
    have e3 := (phi_succ (b := b) ho (by omega)).1
    rw [e3] at ih
    cases hi : iniN x j with
    | true => rw [scan_ini hi, scan_ini (by rw [e1]; exact hi)]; exact ih _
    | false =>
      cases hq : pdiN x j with
      | true =>
        by_cases hd : d = 1
        · subst hd
          rw [scan_hit hi hq, scan_hit (by rw [e1]; exact hi) (by rw [e2]; exact hq)]
          exact ⟨rfl, ho⟩
        · rw [scan_pdi hi hq hd, scan_pdi (by rw [e1]; exact hi) (by rw [e2]; exact hq) hd]; exact ih _
      | false => rw [scan_other hi hq, scan_other (by rw [e1]; exact hi) (by rw [e2]; exact hq)]; exact ih _

theorem Enc.scanP (E : Enc x y p a b h) (hn : n = p + a + h + 2) (d : Nat) (hd : 1 ≤ d) : Go.Proofs.YtkocpijloiamcaaDoor.scan (iniN x) (pdiN x) n (n - (p + 1)) (p + 1) d = Go.Proofs.YtkocpijloiamcaaDoor.scan (iniN x) (pdiN x) n (h + 1) (p + 1 + a) d := by
  have := E.cx.scan (n := n) d hd a (h + 1) (Nat.le_refl _)
  rw [E.cx.end_, Int.add_zero, Int.toNat_natCast] at this
  rw [show n - (p + 1) = h + 1 + a by omega]
  exact this

theorem Enc.matP (E : Enc x y p a b h) (hn : n = p + a + h + 2) : mat (iniN x) (pdiN x) n p = p + 1 + a := by
  unfold mat
  rw [E.scanP hn 1 (Nat.le_refl _), scan_hit E.pdiP.1 E.pdiP.2]

theorem Enc.scanLo (E : Enc x y p a b h) (hn : n = p + a + h + 2) (hn' : n' = p + b + h + 2) : ∀ m j d, j + m = p → 1 ≤ d → Go.Proofs.YtkocpijloiamcaaDoor.scan (iniN y) (pdiN y) n' (n' - j) j d = phi p a b (Go.Proofs.YtkocpijloiamcaaDoor.scan (iniN x) (pdiN x) n (n - j) j d) ∧ Out p a (Go.Proofs.YtkocpijloiamcaaDoor.scan (iniN x) (pdiN x) n (n - j) j d)
  | 0, j, d, hj, hd => by
    have ej : j = p := by omega
    subst ej
    rw [show n - j = n - (j + 1) + 1 by omega, show n' - j = n' - (j + 1) + 1 by omega, scan_ini E.ini, scan_ini E.symm.ini, E.scanP hn (d + 1) (by omega), E.symm.scanP hn' (d + 1) (by omega)]
    have := E.scanHi hn hn' (h + 1) (j + 1 + a) (d + 1) (by omega) (Nat.le_refl _)
    rw [phi_hi (Nat.le_refl _), show j + 1 + a - a + b = j + 1 + b by omega] at this
    exact this
  | m + 1, j, d, hj, hd => by
    have ho : Out p a j := .inl (by omega)
    have ih := fun d => E.scanLo hn hn' m (j + 1) d (by omega)
    have e1 := E.iniE ho (show j < p + a + h + 2 by omega)
    have e2 := E.pdiE ho (show j < p + a + h + 2 by omega)
    rw [phi_lo (by omega)] at e1 e2
    rw [show n - j = n - (j + 1) + 1 by omega, show n' - j = n' - (j + 1) + 1 by omega]
    cases hi : iniN x j with
    | true => rw [scan_ini hi, scan_ini (by rw [e1]; exact hi)]; exact ih _ (by omega)
    | false =>
      cases hq : pdiN x j with
      | true =>
        by_cases hd1 : d = 1
        · subst hd1
          rw [scan_hit hi hq, scan_hit (by rw [e1]; exact hi) (by rw [e2]; exact hq), phi_lo (by omega)]
          exact ⟨rfl, ho⟩
        · rw [scan_pdi hi hq hd1, scan_pdi (by rw [e1]; exact hi) (by rw [e2]; exact hq) hd1]; exact ih _ (by omega)
      | false => rw [scan_other hi hq, scan_other (by rw [e1]; exact hi) (by rw [e2]; exact hq)]; exact ih _ hd

theorem Enc.mat (E : Enc x y p a b h) (hn : n = p + a + h + 2) (hn' : n' = p + b + h + 2) {i : Nat} (hi : Out p a i) (hin : i < n) :
    Go.Proofs.YtkocpijloiamcaaDoor.mat (iniN y) (pdiN y) n' (phi p a b i) = phi p a b (Go.Proofs.YtkocpijloiamcaaDoor.mat (iniN x) (pdiN x) n i) ∧ Out p a (Go.Proofs.YtkocpijloiamcaaDoor.mat (iniN x) (pdiN x) n i) := by
  by_cases e : i = p
  · rw [e, phi_lo (Nat.le_refl _), E.matP hn, E.symm.matP hn', phi_hi (Nat.le_refl _)]
    exact ⟨by omega, .inr (Nat.le_refl _)⟩
  · obtain ⟨e1, _⟩ := phi_succ (b := b) hi e
    unfold Go.Proofs.YtkocpijloiamcaaDoor.mat
    rw [← e1]
    rcases hi with q | q
    · have := E.scanLo hn hn' (p - (i + 1)) (i + 1) 1 (by omega) (Nat.le_refl _)
      rw [phi_lo (by omega)]
      exact this
    · have := E.scanHi hn hn' (n - (i + 1)) (i + 1) 1 (by omega) (by omega)
      rw [phi_hi (by omega)] at this ⊢
      rw [show n' - (i + 1 - a + b) = n - (i + 1) by omega]
      exact this

theorem Enc.matIn (E : Enc x y p a b h) (hn : n = p + a + h + 2) {i : Nat} (h1 : p < i) (h2 : i < p + 1 + a) (hi : iniN x i = true) : Go.Proofs.YtkocpijloiamcaaDoor.mat (iniN x) (pdiN x) n i < p + 1 + a := by
  have e : dep x (p + 1) (i - (p + 1) + 1) = dep x (p + 1) (i - (p + 1)) + 1 := by
    rw [dep, show p + 1 + (i - (p + 1)) = i by omega, hi, if_pos rfl]
  have g := E.cx.ge (i - (p + 1)) (by omega)
  have z := E.cx.end_
  have := E.cx.scanWithin (n := n) (a - (i - (p + 1) + 1)) (i - (p + 1) + 1) (h + 1) 1 (by omega) (Nat.le_refl _) (by omega)
  rw [show h + 1 + (a - (i - (p + 1) + 1)) = n - (i + 1) by omega, show p + 1 + (i - (p + 1) + 1) = i + 1 by omega] at this
  exact this

/-- The first strong character goes past the isolate. -/
theorem Enc.fs (E : Enc x y p a b h) (hn : n = p + a + h + 2) (hn' : n' = p + b + h + 2) {z : Nat} (hz : z ≤ n) (hzo : Out p a z) : ∀ m i, z - i ≤ m → Out p a i → fsN y 0 n' (phi p a b i) (phi p a b z) = fsN x 0 n i z
  | m, i, hm, hi => by
    induction m using Nat.strongRecOn generalizing i with
    | _ m ih =>
      by_cases hiz : z ≤ i
      · rw [fsN_end hiz, fsN_end]
        rcases Nat.lt_or_ge (phi p a b i) (phi p a b z) with q | q
        · have := (phi_lt hi hzo).1 q; omega
        · exact q
      · have hlt := (phi_lt (b := b) hi hzo).2 (by omega)
        have hin : i < p + a + h + 2 := by omega
        have hy := E.at_ hi hin
        have h1 : sLN y (phi p a b i) = sLN x i := by show (y _ == 0) = (x i == 0); rw [hy]
        have h2 : sRN y (phi p a b i) = sRN x i := by show (y _ == 1 || y _ == 13) = (x i == 1 || x i == 13); rw [hy]
        have h3 := E.iniE hi hin
        have hzz : phi p a b z ≤ n' := by
          rw [← Enc.phin hn hn']
          rcases Nat.lt_or_ge (phi p a b n) (phi p a b z) with q | q
          · have := (phi_lt (b := b) (show Out p a n from .inr (by omega)) hzo).1 q; omega
          · exact q
        cases hL : sLN x i with
        | true => rw [fsN_L (by omega) hL, fsN_L hlt (by rw [h1]; exact hL)]
        | false =>
          cases hR : sRN x i with
          | true => rw [fsN_R (by omega) hL hR, fsN_R hlt (by rw [h1]; exact hL) (by rw [h2]; exact hR)]
          | false =>
            rw [fsN_jmp (by omega) hz hL hR, fsN_jmp hlt hzz (by rw [h1]; exact hL) (by rw [h2]; exact hR)]
            cases hini : iniN x i with
            | false =>
              have hip : i ≠ p := fun e => by rw [e, E.ini] at hini; cases hini
              obtain ⟨e1, e2⟩ := phi_succ (b := b) hi hip
              have j1 : jmp (iniN x) (pdiN x) n i = i + 1 := if_neg (by rw [hini]; decide)
              have j2 : jmp (iniN y) (pdiN y) n' (phi p a b i) = phi p a b (i + 1) := by
                rw [e1]; exact if_neg (by rw [h3, hini]; decide)
              rw [j1, j2]
              exact ih (m - 1) (by omega) (i + 1) (by omega) e2
            | true =>
              obtain ⟨m1, m2⟩ := E.mat hn hn' hi (show i < n by omega)
              have hgt := mat_gt (ini := iniN x) (pdi := pdiN x) (n := n) (show i < n by omega)
              have hle := mat_le (ini := iniN x) (pdi := pdiN x) (n := n) (show i < n by omega)
              obtain ⟨M, hM⟩ : ∃ M, M = Go.Proofs.YtkocpijloiamcaaDoor.mat (iniN x) (pdiN x) n i := ⟨_, rfl⟩
              have j1 : jmp (iniN x) (pdiN x) n i = M + 1 := by rw [hM]; exact if_pos hini
              have j2 : jmp (iniN y) (pdiN y) n' (phi p a b i) = phi p a b M + 1 := by
                rw [hM, ← m1]; exact if_pos (by rw [h3]; exact hini)
              have hMp : M ≠ p := fun e => by
                have h22 := ((in_isolate (x := x) (fs := fun _ => 0) (base := 0) (by omega) (show i < n by omega) hini).2 (by omega)).1
                rw [← hM, e] at h22
                have := E.ini
                unfold iniN iniB at this
                rw [h22] at this
                exact absurd this (by decide)
              rw [← hM] at m2 hgt hle
              obtain ⟨e1, e2⟩ := phi_succ (b := b) m2 hMp
              rw [j1, j2, ← e1]
              exact ih (m - (M + 1 - i)) (by omega) (M + 1) (by omega) e2

theorem Enc.fsI (E : Enc x y p a b h) (hn : n = p + a + h + 2) (hn' : n' = p + b + h + 2) {i : Nat} (hi : Out p a i) (hin : i < n) (hp : i ≠ p) : Go.Proofs.YtkocpijloiamcaaDoor.fsI n' y (phi p a b i) = Go.Proofs.YtkocpijloiamcaaDoor.fsI n x i := by
  obtain ⟨m1, m2⟩ := E.mat hn hn' hi hin
  obtain ⟨e1, e2⟩ := phi_succ (b := b) hi hp
  unfold Go.Proofs.YtkocpijloiamcaaDoor.fsI
  rw [m1, ← e1]
  exact E.fs hn hn' (mat_le hin) m2 _ _ (Nat.le_refl _) e2

theorem Enc.baseE (E : Enc x y p a b h) (hn : n = p + a + h + 2) (hn' : n' = p + b + h + 2) : fsN y 0 n' 0 n' = fsN x 0 n 0 n := by
  have := E.fs hn hn' (Nat.le_refl n) (show Out p a n from .inr (by omega)) n 0 (by omega) (.inl (Nat.zero_le _))
  rw [Enc.phin hn hn', phi_lo (Nat.zero_le _)] at this
  exact this

theorem Enc.mstLo (E : Enc x y p a b h) (hn : n = p + a + h + 2) (hn' : n' = p + b + h + 2) : ∀ i, i ≤ p → mst y (Go.Proofs.YtkocpijloiamcaaDoor.fsI n' y) base i = mst x (Go.Proofs.YtkocpijloiamcaaDoor.fsI n x) base i
  | 0, _ => rfl
  | i + 1, hi => by
    have ih := E.mstLo hn hn' i (by omega)
    have hf := E.fsI hn hn' (show Out p a i from .inl (by omega)) (show i < n by omega) (by omega)
    rw [phi_lo (by omega)] at hf
    show (mst y (Go.Proofs.YtkocpijloiamcaaDoor.fsI n' y) base i).step (y i) (Go.Proofs.YtkocpijloiamcaaDoor.fsI n' y i) = (mst x (Go.Proofs.YtkocpijloiamcaaDoor.fsI n x) base i).step (x i) (Go.Proofs.YtkocpijloiamcaaDoor.fsI n x i)
    rw [ih, E.pre i (by omega), hf]

/-- Behind the isolate the state is as ahead of it. -/
theorem Enc.mstP (E : Enc x y p a b h) (hn : n = p + a + h + 2) (hb : base ≤ 125) : Mst.Eqv (mst x (Go.Proofs.YtkocpijloiamcaaDoor.fsI n x) base (p + 2 + a)) (mst x (Go.Proofs.YtkocpijloiamcaaDoor.fsI n x) base p) := by
  have hm := E.matP hn
  have := ((in_isolate (x := x) (fs := Go.Proofs.YtkocpijloiamcaaDoor.fsI n x) hb (show p < n by omega) E.ini).2 (by omega)).2
  rw [hm] at this
  have e : mst x (Go.Proofs.YtkocpijloiamcaaDoor.fsI n x) base (p + 2 + a) = (mst x (Go.Proofs.YtkocpijloiamcaaDoor.fsI n x) base (p + 1 + a)).close := by
    rw [show p + 2 + a = p + 1 + a + 1 by omega]
    show (mst x (Go.Proofs.YtkocpijloiamcaaDoor.fsI n x) base (p + 1 + a)).step (x (p + 1 + a)) _ = _
    rw [E.pdi, step_pdi]
  rw [e]; exact this

theorem Enc.mstHi (E : Enc x y p a b h) (hn : n = p + a + h + 2) (hn' : n' = p + b + h + 2) (hb : base ≤ 125) : ∀ k, p + 2 + a + k ≤ n → Mst.Eqv (mst y (Go.Proofs.YtkocpijloiamcaaDoor.fsI n' y) base (p + 2 + b + k)) (mst x (Go.Proofs.YtkocpijloiamcaaDoor.fsI n x) base (p + 2 + a + k))
  | 0, _ => by
    have h1 := E.mstP (base := base) hn hb
    have h2 := E.symm.mstP (base := base) hn' hb
    rw [E.mstLo hn hn' p (Nat.le_refl _)] at h2
    exact h2.trans h1.symm
  | k + 1, hk => by
    have ih := E.mstHi hn hn' hb k (by omega)
    have hi : Out p a (p + 2 + a + k) := .inr (by omega)
    have e : phi p a b (p + 2 + a + k) = p + 2 + b + k := by rw [phi_hi (by omega)]; omega
    have hf := E.fsI hn hn' hi (show p + 2 + a + k < n by omega) (by omega)
    have hy := E.at_ hi (by omega)
    rw [e] at hf hy
    show Mst.Eqv ((mst y (Go.Proofs.YtkocpijloiamcaaDoor.fsI n' y) base (p + 2 + b + k)).step (y (p + 2 + b + k)) (Go.Proofs.YtkocpijloiamcaaDoor.fsI n' y (p + 2 + b + k))) ((mst x (Go.Proofs.YtkocpijloiamcaaDoor.fsI n x) base (p + 2 + a + k)).step (x (p + 2 + a + k)) (Go.Proofs.YtkocpijloiamcaaDoor.fsI n x (p + 2 + a + k)))
    rw [hf, hy]
    exact ih.step (mst_ok (x := y) (fs := Go.Proofs.YtkocpijloiamcaaDoor.fsI n' y) hb _).d1 _ _

theorem Enc.mst (E : Enc x y p a b h) (hn : n = p + a + h + 2) (hn' : n' = p + b + h + 2) (hb : base ≤ 125) {i : Nat} (hi : Out p a i) (hin : i < n) (hq : i ≠ p + 1 + a) : Mst.Eqv (Go.Proofs.YtkocpijloiamcaaDoor.mst y (Go.Proofs.YtkocpijloiamcaaDoor.fsI n' y) base (phi p a b i)) (Go.Proofs.YtkocpijloiamcaaDoor.mst x (Go.Proofs.YtkocpijloiamcaaDoor.fsI n x) base i) := by
  rcases hi with q | q
  · rw [phi_lo q, E.mstLo hn hn' i q]; exact Mst.Eqv.refl _
  · have := E.mstHi (base := base) hn hn' hb (i - (p + 2 + a)) (by omega)
    rw [show p + 2 + a + (i - (p + 2 + a)) = i by omega] at this
    rw [phi_hi q, show i - a + b = p + 2 + b + (i - (p + 2 + a)) by omega]
    exact this

theorem Enc.lvlE (E : Enc x y p a b h) (hn : n = p + a + h + 2) (hn' : n' = p + b + h + 2) (hb : base ≤ 125) {i : Nat} (hi : Out p a i) (hin : i < n) : lvl y (Go.Proofs.YtkocpijloiamcaaDoor.fsI n' y) base (phi p a b i) = lvl x (Go.Proofs.YtkocpijloiamcaaDoor.fsI n x) base i := by
  have gen : ∀ {i : Nat}, Out p a i → i < n → i ≠ p + 1 + a → lvl y (Go.Proofs.YtkocpijloiamcaaDoor.fsI n' y) base (phi p a b i) = lvl x (Go.Proofs.YtkocpijloiamcaaDoor.fsI n x) base i := fun {i} hi hin hq => by
    have hm := E.mst (base := base) hn hn' hb hi hin hq
    have hd := (mst_ok (x := y) (fs := Go.Proofs.YtkocpijloiamcaaDoor.fsI n' y) hb (phi p a b i)).d1
    have hdc := (mst_ok (x := y) (fs := Go.Proofs.YtkocpijloiamcaaDoor.fsI n' y) hb (phi p a b i)).close.d1
    unfold lvl
    rw [E.at_ hi (by omega), hm.top hd, hm.close'.top hdc]
  by_cases hq : i = p + 1 + a
  · have e1 := lvl_match (x := x) (fs := Go.Proofs.YtkocpijloiamcaaDoor.fsI n x) hb (show p < n by omega) E.ini (by rw [E.matP hn]; omega)
    have e2 := lvl_match (x := y) (fs := Go.Proofs.YtkocpijloiamcaaDoor.fsI n' y) hb (show p < n' by omega) E.symm.ini (by rw [E.symm.matP hn']; omega)
    rw [E.matP hn] at e1
    rw [E.symm.matP hn'] at e2
    have e3 := gen (show Out p a p from .inl (Nat.le_refl _)) (by omega) (by omega)
    rw [phi_lo (Nat.le_refl _)] at e3
    rw [hq, phi_hi (Nat.le_refl _), show p + 1 + a - a + b = p + 1 + b by omega, e1, e2, e3]
  · exact gen hi hin hq

theorem Enc.lv (E : Enc x y p a b h) (hn : n = p + a + h + 2) (hn' : n' = p + b + h + 2) (hb : base ≤ 125) {i : Nat} (hi : Out p a i) (hin : i < n) : LVP y base n' (phi p a b i) = LVP x base n i := by
  unfold LVP lvR
  rw [E.lvlE hn hn' hb hi hin, E.at_ hi (by omega)]
theorem Enc.ct (E : Enc x y p a b h) (hn : n = p + a + h + 2) (hn' : n' = p + b + h + 2) (hb : base ≤ 125) {i : Nat} (hi : Out p a i) (hin : i < n) : CTP y base n' (phi p a b i) = CTP x base n i := by
  have hy := E.at_ hi (show i < p + a + h + 2 by omega)
  unfold CTP tI
  rw [hy]
  by_cases hq : i = p + 1 + a
  · have : x i = 22 := by rw [hq]; exact E.pdi
    rw [if_pos (by omega), if_pos (by omega)]
  · have hm := E.mst (base := base) hn hn' hb hi hin hq
    have hd := (mst_ok (x := y) (fs := Go.Proofs.YtkocpijloiamcaaDoor.fsI n' y) hb (phi p a b i)).d1
    rw [hm.tov hd]

/-- With room all within the isolate lies higher. -/
theorem Enc.inside (E : Enc x y p a b h) (hn : n = p + a + h + 2) (h0 : 0 ≤ base) (hb : base ≤ 1) (hf : fmtN x p ≤ 60) {k : Nat} (h1 : p < k) (h2 : k < p + 1 + a) : lvl x (Go.Proofs.YtkocpijloiamcaaDoor.fsI n x) base p < lvl x (Go.Proofs.YtkocpijloiamcaaDoor.fsI n x) base k := by
  have hm := E.matP hn
  have h7 : x k ≠ 7 := by
    have := E.cx.no7 (k - (p + 1)) (by omega)
    rwa [show p + 1 + (k - (p + 1)) = k by omega] at this
  have r := (shal (x := x) (fs := Go.Proofs.YtkocpijloiamcaaDoor.fsI n x) h0 hb p hf).room (by omega) (oddOf (x p) (Go.Proofs.YtkocpijloiamcaaDoor.fsI n x p))
  obtain ⟨hin, _⟩ := in_isolate (x := x) (fs := Go.Proofs.YtkocpijloiamcaaDoor.fsI n x) (base := base) (by omega) (show p < n by omega) E.ini
  rw [hm] at hin
  have hi' : x p = 19 ∨ x p = 20 ∨ x p = 21 := by have := E.ini; unfold iniN iniB at this; simpa using this
  have el : lvl x (Go.Proofs.YtkocpijloiamcaaDoor.fsI n x) base p = (Go.Proofs.YtkocpijloiamcaaDoor.mst x (Go.Proofs.YtkocpijloiamcaaDoor.fsI n x) base p).top := by unfold lvl; rw [if_neg (by omega), if_neg (by omega)]
  have key : ∃ (c : Mst) (q D : Nat), Mst.Ok base q c ∧ Mst.In (Go.Proofs.YtkocpijloiamcaaDoor.mst x (Go.Proofs.YtkocpijloiamcaaDoor.fsI n x) base p) (oddOf (x p) (Go.Proofs.YtkocpijloiamcaaDoor.fsI n x p)) D c ∧ lvl x (Go.Proofs.YtkocpijloiamcaaDoor.fsI n x) base k = c.top := by
    by_cases e : x k = 22
    · obtain ⟨D, hD, hI⟩ := hin (k + 1) (by omega) (by omega)
      have e2 : Go.Proofs.YtkocpijloiamcaaDoor.mst x (Go.Proofs.YtkocpijloiamcaaDoor.fsI n x) base (k + 1) = (Go.Proofs.YtkocpijloiamcaaDoor.mst x (Go.Proofs.YtkocpijloiamcaaDoor.fsI n x) base k).close := by show (Go.Proofs.YtkocpijloiamcaaDoor.mst x (Go.Proofs.YtkocpijloiamcaaDoor.fsI n x) base k).step (x k) (Go.Proofs.YtkocpijloiamcaaDoor.fsI n x k) = _; rw [e, step_pdi]
      rw [e2] at hI
      exact ⟨_, k + 1, D, (mst_ok (x := x) (by omega) k).close, hI, by unfold lvl; rw [if_pos e]⟩
    · obtain ⟨D, hD, hI⟩ := hin k h1 (by omega)
      exact ⟨_, k, D, mst_ok (by omega) k, hI, by unfold lvl; rw [if_neg e, if_neg h7]⟩
  obtain ⟨c, q, D, ok, hI, hk⟩ := key
  rcases hI with ⟨_, hI⟩ | ⟨r', _⟩
  · rw [hk, el]
    have hd := hI.d
    have hg := Mst.Ok.next_gt (Go.Proofs.YtkocpijloiamcaaDoor.mst x (Go.Proofs.YtkocpijloiamcaaDoor.fsI n x) base p) (oddOf (x p) (Go.Proofs.YtkocpijloiamcaaDoor.fsI n x p))
    have hup : ∀ j, (Go.Proofs.YtkocpijloiamcaaDoor.mst x (Go.Proofs.YtkocpijloiamcaaDoor.fsI n x) base p).d ≤ j → j < c.d → c.lv (Go.Proofs.YtkocpijloiamcaaDoor.mst x (Go.Proofs.YtkocpijloiamcaaDoor.fsI n x) base p).d ≤ c.lv j := by
      intro j hj
      induction j with
      | zero => intro _; have : (Go.Proofs.YtkocpijloiamcaaDoor.mst x (Go.Proofs.YtkocpijloiamcaaDoor.fsI n x) base p).d = 0 := by omega
                rw [this]; exact Int.le_refl _
      | succ j ih =>
        intro hlt
        by_cases e : (Go.Proofs.YtkocpijloiamcaaDoor.mst x (Go.Proofs.YtkocpijloiamcaaDoor.fsI n x) base p).d = j + 1
        · rw [e]; exact Int.le_refl _
        · have := ih (by omega) (by omega)
          have := ok.up j hlt
          omega
    have := hup (c.d - 1) (by omega) (by omega)
    have hl := hI.lvl
    unfold Mst.top at hg ⊢
    omega
  · exact absurd r r'
end
end Go.Proofs.YtkocpijloiamcaaDoor
