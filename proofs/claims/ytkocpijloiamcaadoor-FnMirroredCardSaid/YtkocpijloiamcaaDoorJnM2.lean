/- FnMirrored in plain Lean, the rules W1 to I2. No program in sight. -/
import Derived.Test.YtkocpijloiamcaaDoorJnM
namespace Go.Proofs.YtkocpijloiamcaaDoor
set_option linter.unusedVariables false

/-- Two sides, each the other one. -/
def Opp (a b : Int) : Prop := (a = 0 ∧ b = 1) ∨ (a = 1 ∧ b = 0)
/-- Two classes behind W1, each with the sides of the other one. -/
def MirD (c c' : Int) : Prop := Opp c c' ∨ (c' = c ∧ ((7 ≤ c ∧ c ≤ 10) ∨ c = 24)) ∨ ((c = 21 ∨ c = 22) ∧ (c' = 21 ∨ c' = 22))
/-- .. or marks. -/
def MirC (c c' : Int) : Prop := MirD c c' ∨ (c = 12 ∧ c' = 12)

theorem MirD.of {a b : Int} (h : Opp a b) : MirD a b := .inl h

section
variable {n : Nat} {s s' e e' sos sos' eos eos' : Int} {c c' T T' : Nat → Int} {m : Nat → Bool}

theorem pr_mir (hs : Opp s s') (h : ∀ i, MirC (c i) (c' i)) : ∀ i, MirD (pr c s i) (pr c' s' i)
  | 0 => .inl hs
  | i + 1 => by
    rw [pr, pr]
    have ih := pr_mir hs h i
    rcases h i with q | ⟨q1, q2⟩
    · have h1 : c i ≠ 12 ∧ c' i ≠ 12 := by unfold MirD Opp at q; omega
      rw [if_neg h1.1, if_neg h1.2]; exact q
    · rw [if_pos q1, if_pos q2]; exact ih

theorem weak_mir (hs : Opp s s') (h : ∀ i, MirC (c i) (c' i)) (i : Nat) : MirD (weakI n s c i) (weakI n s' c' i) := by
  have h1 : MirD (w1 c s i) (w1 c' s' i) := pr_mir hs h (i + 1)
  have e1 : weakI n s c i = w1 c s i := by
    unfold weakI
    exact wrest_keeps (by unfold MirD Opp at h1; omega)
  have e2 : weakI n s' c' i = w1 c' s' i := by
    unfold weakI
    exact wrest_keeps (by unfold MirD Opp at h1; omega)
  rw [e1, e2]; exact h1

theorem gs_mir {a b : Int} (h : MirD a b) : Opp (gs a) (gs b) ∨ (gs a = 10 ∧ gs b = 10) := by
  unfold MirD Opp at *
  unfold gs
  rcases h with (⟨rfl, rfl⟩ | ⟨rfl, rfl⟩) | ⟨rfl, h⟩ | h
  · exact .inl (.inl ⟨by decide, by decide⟩)
  · exact .inl (.inr ⟨by decide, by decide⟩)
  · right
    rw [if_neg (by omega), if_neg (by omega)]; exact ⟨rfl, rfl⟩
  · right
    rw [if_neg (by omega), if_neg (by omega), if_neg (by omega), if_neg (by omega)]; exact ⟨rfl, rfl⟩

theorem hasS_mir (h : ∀ i, MirD (T i) (T' i)) (he : Opp e e') (o cl : Nat) : hasS (fun i => gs (T' i)) o cl e' = hasS (fun i => gs (T i)) o cl e := by
  unfold hasS
  rw [Bool.eq_iff_iff, decide_eq_true_iff, decide_eq_true_iff]
  have key : ∀ i, gs (T' i) = e' ↔ gs (T i) = e := fun i => by
    have := gs_mir (h i)
    unfold Opp at this he
    omega
  constructor
  · rintro ⟨i, a, b, q⟩; exact ⟨i, a, b, (key i).1 q⟩
  · rintro ⟨i, a, b, q⟩; exact ⟨i, a, b, (key i).2 q⟩

theorem bfr_mir (hs : Opp s s') (h : ∀ i, MirD (T i) (T' i)) : ∀ k, Opp (bfr (fun i => gs (T i)) s k) (bfr (fun i => gs (T' i)) s' k)
  | 0 => hs
  | k + 1 => by
    show Opp (if gs (T k) ≠ 10 then gs (T k) else bfr (fun i => gs (T i)) s k) (if gs (T' k) ≠ 10 then gs (T' k) else bfr (fun i => gs (T' i)) s' k)
    rcases gs_mir (h k) with q | ⟨q1, q2⟩
    · rw [if_pos (by unfold Opp at q; omega), if_pos (by unfold Opp at q; omega)]; exact q
    · rw [if_neg (by omega), if_neg (by omega)]; exact bfr_mir hs h k

theorem setB_mir {v v' : Int} (hv : Opp v v') (h : ∀ i, MirD (T i) (T' i)) (o cl i : Nat) : MirD (setB m o cl v T i) (setB m o cl v' T' i) := by
  unfold setB
  by_cases q : mkB m o cl i = true
  · rw [if_pos q, if_pos q]; exact .inl hv
  · rw [if_neg q, if_neg q]; exact h i

theorem n0_mir (hs : Opp s s') (he : Opp e e') (h : ∀ i, MirD (T i) (T' i)) (p : Nat × Nat) (i : Nat) : MirD (n0 gs m s e T p i) (n0 gs m s' e' T' p i) := by
  have he2 : Opp (1 - e) (1 - e') := by unfold Opp at *; omega
  unfold n0
  rw [hasS_mir h he, hasS_mir h he2]
  by_cases q1 : hasS (fun i => gs (T i)) p.1 p.2 e = true
  · rw [if_pos q1, if_pos q1]; exact setB_mir he h _ _ _
  · rw [if_neg q1, if_neg q1]
    by_cases q2 : hasS (fun i => gs (T i)) p.1 p.2 (1 - e) = true
    · rw [if_pos q2, if_pos q2]; exact setB_mir (bfr_mir hs h _) h _ _ _
    · rw [if_neg q2, if_neg q2]; exact h i

theorem n0s_mir (hs : Opp s s') (he : Opp e e') : ∀ (L : List (Nat × Nat)) (T T' : Nat → Int), (∀ i, MirD (T i) (T' i)) → ∀ i, MirD (n0s gs m s e T L i) (n0s gs m s' e' T' L i)
  | [], T, T', h, i => h i
  | p :: L, T, T', h, i => n0s_mir hs he L _ _ (fun i => n0_mir hs he h p i) i

theorem NB_mir {a b : Int} (h : MirD a b) : NB b = NB a := by
  rw [Bool.eq_iff_iff, NB_iff, NB_iff]
  unfold MirD Opp at h; omega
theorem side_mir {a b : Int} (h : MirD a b) (hN : NB a = false) : Opp a b := by
  rw [NB_not] at hN
  unfold MirD at h
  rcases h with h | h | h
  · exact h
  · omega
  · omega
theorem sd_opp {a b : Int} (h : Opp a b) : Opp (sd a) (sd b) := by
  unfold Opp at *
  unfold sd
  rw [if_neg (by omega), if_neg (by omega)]; exact h

theorem bef_mir (hs : Opp sos sos') (h : ∀ i, MirD (T i) (T' i)) : ∀ i, Opp (bef (fun j => NB (T j)) (fun j => sd (T j)) sos i) (bef (fun j => NB (T' j)) (fun j => sd (T' j)) sos' i)
  | 0 => hs
  | i + 1 => by
    rw [bef, bef, NB_mir (h i)]
    by_cases q : NB (T i) = true
    · rw [if_pos q, if_pos q]; exact bef_mir hs h i
    · rw [if_neg q, if_neg q]; exact sd_opp (side_mir (h i) (by simpa using q))
theorem beh_mir (hs : Opp eos eos') (h : ∀ i, MirD (T i) (T' i)) : ∀ f i, Opp (beh (fun j => NB (T j)) (fun j => sd (T j)) eos f i) (beh (fun j => NB (T' j)) (fun j => sd (T' j)) eos' f i)
  | 0, _ => hs
  | f + 1, i => by
    rw [beh, beh, NB_mir (h i)]
    by_cases q : NB (T i) = true
    · rw [if_pos q, if_pos q]; exact beh_mir hs h f (i + 1)
    · rw [if_neg q, if_neg q]; exact sd_opp (side_mir (h i) (by simpa using q))

theorem neu_mir (hs : Opp sos sos') (hes : Opp eos eos') (he : Opp e e') (h : ∀ i, MirD (T i) (T' i)) (i : Nat) : Opp (neu sos eos e n T i) (neu sos' eos' e' n T' i) := by
  have a := bef_mir hs h i
  have b := beh_mir hes h (n - i) i
  have hN := NB_mir (h i)
  show Opp (if NB (T i) = true then (if bef (fun j => NB (T j)) (fun j => sd (T j)) sos i = beh (fun j => NB (T j)) (fun j => sd (T j)) eos (n - i) i then bef (fun j => NB (T j)) (fun j => sd (T j)) sos i else e) else T i)
    (if NB (T' i) = true then (if bef (fun j => NB (T' j)) (fun j => sd (T' j)) sos' i = beh (fun j => NB (T' j)) (fun j => sd (T' j)) eos' (n - i) i then bef (fun j => NB (T' j)) (fun j => sd (T' j)) sos' i else e') else T' i)
  rw [hN]
  by_cases q : NB (T i) = true
  · rw [if_pos q, if_pos q]
    by_cases r : bef (fun j => NB (T j)) (fun j => sd (T j)) sos i = beh (fun j => NB (T j)) (fun j => sd (T j)) eos (n - i) i
    · rw [if_pos r, if_pos (by unfold Opp at a b; omega)]; exact a
    · rw [if_neg r, if_neg (by unfold Opp at a b; omega)]; exact he
  · rw [if_neg q, if_neg q]; exact side_mir (h i) (by simpa using q)

theorem resT_mir {kd vl : Nat → Int} (hs : Opp sos sos') (hes : Opp eos eos') (he : Opp e e') (h : ∀ i, MirC (c i) (c' i)) (i : Nat) : Opp (resT n c m kd vl e sos eos i) (resT n c' m kd vl e' sos' eos' i) := by
  have hw := fun i => weak_mir (n := n) hs h i
  have hn : (fun j => decide (weakI n sos' c' j = 10)) = (fun j => decide (weakI n sos c j = 10)) := by
    funext j
    have := hw j
    unfold MirD Opp at this
    rw [Bool.eq_iff_iff, decide_eq_true_iff, decide_eq_true_iff]
    omega
  unfold resT
  rw [hn]
  exact neu_mir hs hes he (fun j => n0s_mir hs he _ _ _ hw j) i

theorem imp_mir {lv t t' : Int} (h : Opp t t') : imp (lv + 1) t' = imp lv t + 1 := by
  unfold Opp at h
  unfold imp
  by_cases q : lv % 2 = 0
  · rw [if_neg (by omega), if_pos q]
    rcases h with ⟨rfl, rfl⟩ | ⟨rfl, rfl⟩ <;> simp <;> omega
  · rw [if_pos (by omega), if_neg q]
    rcases h with ⟨rfl, rfl⟩ | ⟨rfl, rfl⟩ <;> simp <;> omega
end

/-! ### Levels a step higher -/
/-- Levels of the one text and of the other one. -/
def Up (n : Nat) (lv lv' : Nat → Int) : Prop := ∀ i, i < n → (lv i = -1 → lv' i = -1) ∧ (lv i ≠ -1 → lv' i = lv i + 1 ∧ lv' i ≠ -1)

section
variable {n : Nat} {lv lv' : Nat → Int}
theorem Up.ne (h : Up n lv lv') {i : Nat} (hi : i < n) : lv' i = -1 ↔ lv i = -1 := by
  have := h i hi
  by_cases e : lv i = -1
  · exact ⟨fun _ => e, fun _ => this.1 e⟩
  · exact ⟨fun q => absurd q (this.2 e).2, fun q => absurd q e⟩
theorem Up.eq (h : Up n lv lv') {i j : Nat} (hi : i < n) (hj : j < n) (h1 : lv i ≠ -1) (h2 : lv j ≠ -1) : lv' i = lv' j ↔ lv i = lv j := by
  have a := (h i hi).2 h1
  have b := (h j hj).2 h2
  omega
theorem Up.last (h : Up n lv lv') : ∀ k, k ≤ n → (lastL lv k = -1 → lastL lv' k = -1) ∧ (lastL lv k ≠ -1 → lastL lv' k = lastL lv k + 1 ∧ lastL lv' k ≠ -1)
  | 0, _ => ⟨fun h => h, fun h => absurd rfl h⟩
  | k + 1, hk => by
    have ih := h.last k (by omega)
    have hu := h k (by omega)
    by_cases e : lv k = -1
    · rw [(rs_rem e).2, (rs_rem (hu.1 e)).2]; exact ih
    · rw [lastL_of e, lastL_of (hu.2 e).2]
      exact ⟨fun q => absurd q e, fun _ => hu.2 e⟩
theorem Up.bef (h : Up n lv lv') {base : Int} {k : Nat} (hk : k ≤ n) : befL lv' (base + 1) k = befL lv base k + 1 := by
  have := h.last k hk
  unfold befL
  by_cases e : lastL lv k = -1
  · rw [if_pos e, if_pos (this.1 e)]
  · rw [if_neg e, if_neg (this.2 e).2, (this.2 e).1]
theorem Up.aft (h : Up n lv lv') {base : Int} : ∀ f k, k + f ≤ n → aftL lv' (base + 1) f k = aftL lv base f k + 1
  | 0, _, _ => rfl
  | f + 1, k, hk => by
    have hu := h k (by omega)
    rw [aftL, aftL]
    by_cases e : lv k = -1
    · rw [if_pos e, if_pos (hu.1 e)]; exact h.aft f (k + 1) (by omega)
    · rw [if_neg e, if_neg (hu.2 e).2, (hu.2 e).1]
theorem Up.lstR (h : Up n lv lv') {i : Nat} (hi : i < n) (h1 : lv i ≠ -1) : lastR lv' n i ↔ lastR lv n i := by
  unfold lastR
  constructor
  · intro q j a b c d e
    exact q j a b (fun z => c ((h.ne b).1 z)) (fun k k1 k2 => (h.ne (by omega)).2 (d k k1 k2)) ((h.eq b hi c h1).2 e)
  · intro q j a b c d e
    have c' : lv j ≠ -1 := fun z => c ((h.ne b).2 z)
    exact q j a b c' (fun k k1 k2 => (h.ne (by omega)).1 (d k k1 k2)) ((h.eq b hi c' h1).1 e)
theorem Up.su (h : Up n lv lv') {ini pdi ini' pdi' : Nat → Bool} (h1 : ∀ i, i < n → ini' i = ini i) (h2 : ∀ i, i < n → pdi' i = pdi i) (i j : Nat) : Su lv' ini' pdi' n i j ↔ Su lv ini pdi n i j := by
  unfold Su
  constructor
  · rintro ⟨a, b, c, d, e⟩
    have c' : lv i ≠ -1 := fun z => c ((h.ne (by omega)).2 z)
    have d' : lv j ≠ -1 := fun z => d ((h.ne b).2 z)
    refine ⟨a, b, c', d', ?_⟩
    rcases e with ⟨e1, e2⟩ | ⟨e1, e2, e3⟩
    · exact .inl ⟨fun k k1 k2 => (h.ne (by omega)).1 (e1 k k1 k2), (h.eq b (by omega) d' c').1 e2⟩
    · refine .inr ⟨(h.lstR (by omega) c').1 e1, by rw [← h1 i (by omega)]; exact e2, ?_⟩
      rw [e3]; exact mat_congr h1 h2 (by omega)
  · rintro ⟨a, b, c, d, e⟩
    refine ⟨a, b, fun z => c ((h.ne (by omega)).1 z), fun z => d ((h.ne b).1 z), ?_⟩
    rcases e with ⟨e1, e2⟩ | ⟨e1, e2, e3⟩
    · exact .inl ⟨fun k k1 k2 => (h.ne (by omega)).2 (e1 k k1 k2), (h.eq b (by omega) d c).2 e2⟩
    · refine .inr ⟨(h.lstR (by omega) c).2 e1, by rw [h1 i (by omega)]; exact e2, ?_⟩
      rw [e3]; exact (mat_congr h1 h2 (by omega)).symm
end

theorem rem_mir (v : Int) : remN (mirN v) = remN v := by
  unfold remN mirN
  rw [Bool.eq_iff_iff, decide_eq_true_iff, decide_eq_true_iff]
  repeat' split
  all_goals omega
theorem ini_mir (v : Int) : iniB (mirN v) = iniB v := by
  unfold iniB mirN
  rw [Bool.eq_iff_iff, decide_eq_true_iff, decide_eq_true_iff]
  repeat' split
  all_goals omega
theorem mir_eq {v k : Int} (h : k = 22 ∨ k = 7 ∨ k = 12) : mirN v = k ↔ v = k := by
  unfold mirN
  repeat' split
  all_goals omega
theorem mir_ok {v : Int} (h : clsOk v) : clsOk (mirN v) := by
  unfold clsOk mirN at *
  repeat' split
  all_goals omega

theorem cls_12 {v : Int} : cls v = 12 ↔ v = 12 := by
  unfold cls
  split
  · omega
  · split <;> omega

section
variable {x x' : Nat → Int} {n : Nat}

theorem lvl_mir {fs fs' : Nat → Int} (hx : ∀ i, x' i = mirN (x i)) (hh : ∀ i, i < n → hasN (x i)) (hf : fmtN x n ≤ 60) {i : Nat} (hi : i < n) : lvl x' fs' 1 i = lvl x fs 0 i + 1 := by
  have key : ∀ k, k ≤ n → (mst x' fs' 1 k).top = (mst x fs 0 k).top + 1 := fun k hk => by
    have h1 := (mirS (fs := fs) (fs' := fs') (fun i _ => hx i) hh hf k hk).1
    have h2 := (mst_ok (x := x) (fs := fs) (base := 0) (by omega) k).d1
    unfold Mst.top
    rw [h1.d]; exact h1.lv _ (by omega)
  unfold lvl
  rw [hx i]
  by_cases e : x i = 22
  · have e1 : mst x fs 0 (i + 1) = (mst x fs 0 i).close := by show (mst x fs 0 i).step (x i) (fs i) = _; rw [e, step_pdi]
    have e2 : mst x' fs' 1 (i + 1) = (mst x' fs' 1 i).close := by show (mst x' fs' 1 i).step (x' i) (fs' i) = _; rw [hx i, (mir_eq (by omega)).2 e, step_pdi]
    rw [if_pos e, if_pos ((mir_eq (by omega)).2 e), ← e1, ← e2]; exact key (i + 1) (by omega)
  · rw [if_neg e, if_neg (fun q => e ((mir_eq (by omega)).1 q))]
    by_cases e7 : x i = 7
    · rw [if_pos e7, if_pos ((mir_eq (by omega)).2 e7)]; rfl
    · rw [if_neg e7, if_neg (fun q => e7 ((mir_eq (by omega)).1 q))]; exact key i (by omega)

theorem up_mir {fs fs' : Nat → Int} (hx : ∀ i, x' i = mirN (x i)) (hh : ∀ i, i < n → hasN (x i)) (hf : fmtN x n ≤ 60) : Up n (lvR x fs 0) (lvR x' fs' 1) := fun i hi => by
  have hl := lvl_mir (fs := fs) (fs' := fs') hx hh hf hi
  have hg := lvl_range (x := x) (fs := fs) (base := 0) (by omega) (by omega) i
  unfold lvR
  rw [hx i, rem_mir]
  by_cases r : remN (x i) = true
  · rw [if_pos r, if_pos r]; exact ⟨fun _ => rfl, fun q => absurd rfl q⟩
  · rw [if_neg r, if_neg r, hl]; exact ⟨fun q => by omega, fun _ => ⟨rfl, by omega⟩⟩

theorem ct_mir {fs fs' : Nat → Int} (hx : ∀ i, x' i = mirN (x i)) (hok : ∀ i, i < n → clsOk (x i)) (hh : ∀ i, i < n → hasN (x i)) (hf : fmtN x n ≤ 60) {i : Nat} (hi : i < n) (hr : remN (x i) = false) : MirC (cls (tI x fs 0 i)) (cls (tI x' fs' 1 i)) := by
  have h1 := (mirS (fs := fs) (fs' := fs') (fun i _ => hx i) hh hf i (by omega)).1
  have ok := mst_ok (x := x) (fs := fs) (base := 0) (by omega) i
  have htv : (mst x' fs' 1 i).tov = if (mst x fs 0 i).tov = 0 then 1 else if (mst x fs 0 i).tov = 1 then 0 else -1 := by
    unfold Mst.tov
    rw [h1.d]; exact h1.ov _ (by have := ok.d1; omega)
  have ho := ok.tov_or
  have hc := hok i hi
  have hhi := hh i hi
  unfold clsOk at hc
  unfold hasN at hhi
  unfold remN at hr
  rw [decide_eq_false_iff_not] at hr
  have hxv : x i = 0 ∨ x i = 1 ∨ x i = 7 ∨ x i = 8 ∨ x i = 9 ∨ x i = 10 ∨ x i = 12 ∨ x i = 19 ∨ x i = 20 ∨ x i = 22 := by omega
  have base : MirC (cls (x i)) (cls (mirN (x i))) := by
    rcases hxv with e | e | e | e | e | e | e | e | e | e <;> rw [e]
    · exact .inl (.inl (.inl ⟨rfl, rfl⟩))
    · exact .inl (.inl (.inr ⟨rfl, rfl⟩))
    · exact .inl (.inr (.inl ⟨rfl, .inl (by decide)⟩))
    · exact .inl (.inr (.inl ⟨rfl, .inl (by decide)⟩))
    · exact .inl (.inr (.inl ⟨rfl, .inl (by decide)⟩))
    · exact .inl (.inr (.inl ⟨rfl, .inl (by decide)⟩))
    · exact .inr ⟨rfl, rfl⟩
    · exact .inl (.inr (.inr ⟨.inl rfl, .inr rfl⟩))
    · exact .inl (.inr (.inr ⟨.inr rfl, .inl rfl⟩))
    · exact .inl (.inr (.inl ⟨rfl, .inr rfl⟩))
  unfold tI
  rw [hx i, htv]
  by_cases q : x i = 14 ∨ x i = 15 ∨ x i = 16 ∨ x i = 17 ∨ x i = 18 ∨ x i = 22 ∨ x i = 7
  · have q2 : mirN (x i) = x i := by unfold mirN; repeat' split
                                     all_goals omega
    rw [if_pos q, if_pos (by rw [q2]; exact q)]; exact base
  · have q2 : ¬ (mirN (x i) = 14 ∨ mirN (x i) = 15 ∨ mirN (x i) = 16 ∨ mirN (x i) = 17 ∨ mirN (x i) = 18 ∨ mirN (x i) = 22 ∨ mirN (x i) = 7) := by
      unfold mirN; repeat' split
      all_goals omega
    rw [if_neg q, if_neg q2]
    by_cases e1 : (mst x fs 0 i).tov = -1
    · rw [if_pos e1, e1]; exact base
    · rw [if_neg e1]
      rcases (show (mst x fs 0 i).tov = 0 ∨ (mst x fs 0 i).tov = 1 by omega) with e | e <;> rw [e]
      · exact .inl (.inl (.inl ⟨rfl, rfl⟩))
      · exact .inl (.inl (.inr ⟨rfl, rfl⟩))

set_option maxHeartbeats 1000000 in
/-- FnMirrored. -/
theorem mirrored_ok {kd vl ft fl ft' fl' : Nat → Int} (hx : ∀ i, x' i = mirN (x i)) (hok : ∀ i, i < n → clsOk (x i)) (hB : ∀ i, i < n → x i = 7 → n ≤ i + 1) (hh : ∀ i, i < n → hasN (x i)) (hf : fmtN x n ≤ 60)
    (h : Done x kd vl 0 n ft fl) (h' : Done x' kd vl 1 n ft' fl') {i : Nat} (hi : i < n) (hr : remN (x i) = false) : fl' i = fl i + 1 := by
  have hB' : ∀ i, i < n → x' i = 7 → n ≤ i + 1 := fun i hi e => hB i hi (by rw [hx i] at e; exact (mir_eq (by omega)).1 e)
  have hu := up_mir (fs := fsI n x) (fs' := fsI n x') hx hh hf
  obtain ⟨l, t, hl, ht, e1, _, e2⟩ := h.at_ (.inl rfl) hB hi hr
  obtain ⟨l', t', hl', ht', e1', _, e2'⟩ := h'.at_ (.inr rfl) hB' hi (by rw [hx i, rem_mir]; exact hr)
  have hc := chs_ok (x := x) (base := 0) (n := n) (.inl rfl) hB
  have hc' := chs_ok (x := x') (base := 1) (n := n) (.inr rfl) hB'
  have hS : SuX x' (fsI n x') 1 n = SuX x (fsI n x) 0 n := by
    funext a b
    exact propext (hu.su (fun i _ => by show iniB (x' i) = iniB (x i); rw [hx i, ini_mir]) (fun i _ => by
      show (x' i == 22) = (x i == 22)
      rw [Bool.eq_iff_iff, beq_iff_eq, beq_iff_eq, hx i]; exact mir_eq (by omega)) a b)
  have hch' := hc'.ch l' hl'
  rw [hS] at hch'
  obtain ⟨rfl, rfl⟩ := (hc.ch l hl).same (S := SuX x (fsI n x) 0 n) (fun _ _ _ p q => Su.fn p q) (fun _ _ _ p q => SuX.inj (.inl rfl) hB p q) hch' ht ht' (by rw [e1, e1'])
  have hne := (hc.ch l hl).ne
  have hhd := hc.mem l hl _ (getD_mem0 (len_pos hne))
  have hls := hc.mem l hl _ (getD_mem0 (show l.length - 1 < l.length by have := len_pos hne; omega))
  have hV : sqV x' 1 n l = sqV x 0 n l + 1 := ((hu _ hhd.1).2 ((lvR_ne (.inl rfl)).2 hhd.2)).1
  have hVr := sqV_range (x := x) (.inl rfl) hB hl
  have hdd : ∀ a : Int, 0 ≤ a → Opp (dirN a) (dirN (a + 1)) := fun a ha => by unfold dirN Opp; omega
  have hmx : ∀ a b : Int, max (a + 1) (b + 1) = max a b + 1 := fun a b => by omega
  have hSo : Opp (sqS x 0 n l) (sqS x' 1 n l) := by
    have e : befL (LVP x' 1 n) 1 (hd l) = befL (LVP x 0 n) 0 (hd l) + 1 := by
      have h1 := hu.bef (base := 0) (k := hd l) (Nat.le_of_lt hhd.1)
      rw [Int.zero_add] at h1
      exact h1
    unfold sqS
    rw [hV, e, hmx]
    exact hdd _ (by omega)
  have hct : ∀ j, j < n → remN (x j) = false → MirC (CTP x 0 n j) (CTP x' 1 n j) := fun j hj hr => ct_mir hx hok hh hf hj hr
  have hSe : Opp (sqE x 0 n l) (sqE x' 1 n l) := by
    have hm : memB [21, 22, 23] (CTP x' 1 n (lst0 l)) = memB [21, 22, 23] (CTP x 0 n (lst0 l)) := by
      have h1 := hct _ hls.1 hls.2
      have h2 : MirC (CTP x 0 n (lst0 l)) (CTP x' 1 n (lst0 l)) := h1
      rw [Bool.eq_iff_iff, memB_iff, memB_iff]
      simp only [List.mem_cons, List.not_mem_nil, or_false]
      unfold MirC MirD Opp at h2
      omega
    have e : eosL (LVP x' 1 n) (CTP x' 1 n) 1 n (lst0 l) = eosL (LVP x 0 n) (CTP x 0 n) 0 n (lst0 l) + 1 := by
      unfold eosL
      rw [hm]
      split
      · rfl
      · have hls1 : lst0 l < n := hls.1
        have h1 := hu.aft (base := 0) (n - (lst0 l + 1)) (lst0 l + 1) (by omega)
        rw [Int.zero_add] at h1
        exact h1
    unfold sqE
    rw [hV, e, hmx]
    exact hdd _ (by omega)
  have hT : Opp (sqT x kd vl 0 n l t) (sqT x' kd vl 1 n l t) := by
    unfold sqT
    have hmk : (fun j => decide (cls (x' (pl n l j)) = 12)) = (fun j => decide (cls (x (pl n l j)) = 12)) := by
      funext j
      rw [Bool.eq_iff_iff, decide_eq_true_iff, decide_eq_true_iff, hx, cls_12, cls_12]
      exact mir_eq (by omega)
    rw [hmk]
    refine resT_mir hSo hSe ?_ (fun j => ?_) t
    · unfold Opp; omega
    · unfold sqC
      by_cases hj : j < l.length
      · rw [if_pos hj, if_pos hj]
        have := hc.mem l hl _ (getD_mem0 hj)
        exact hct _ this.1 this.2
      · rw [if_neg hj, if_neg hj]; exact .inl (.inr (.inl ⟨rfl, .inl (by omega)⟩))
  rw [e2, e2', hV]
  exact imp_mir hT
end
end Go.Proofs.YtkocpijloiamcaaDoor
