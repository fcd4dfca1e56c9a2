/- What the rules keep of a sequence; FnSides and FnPlainRow in plain Lean. No program in sight. -/
import Derived.Test.YtkocpijloiamcaaDoorRes
namespace Go.Proofs.YtkocpijloiamcaaDoor
set_option linter.unusedVariables false

section
variable {m : Nat → Bool} {s e : Int}
theorem mkB_in {o cl i : Nat} (h : mkB m o cl i = true) : i = o ∨ i = cl ∨ m i = true := by
  rcases of_decide_eq_true h with h | h | ⟨h1, _, h2⟩ | ⟨h1, h2⟩
  · exact .inl h
  · exact .inr (.inl h)
  · exact .inr (.inr (h2 i (by omega) h1))
  · exact .inr (.inr (h2 i (by omega) h1))

theorem n0_off {g : Int → Int} {c : Nat → Int} {p : Nat × Nat} {i : Nat} (h1 : i ≠ p.1) (h2 : i ≠ p.2) (h3 : m i = false) : n0 g m s e c p i = c i := by
  have key : ∀ v : Int, setB m p.1 p.2 v c i = c i := fun v => by
    unfold setB
    rw [if_neg]
    intro q
    rcases mkB_in q with q | q | q
    · exact h1 q
    · exact h2 q
    · rw [h3] at q; cases q
  unfold n0
  split
  · exact key e
  · split
    · exact key _
    · rfl

theorem n0s_off {g : Int → Int} {i : Nat} (h3 : m i = false) : ∀ (L : List (Nat × Nat)) (c : Nat → Int), (∀ p, p ∈ L → i ≠ p.1 ∧ i ≠ p.2) → n0s g m s e c L i = c i
  | [], c, _ => rfl
  | p :: L, c, h => by
    show n0s g m s e (n0 g m s e c p) L i = c i
    rw [n0s_off h3 L _ (fun q hq => h q (List.mem_cons_of_mem _ hq)), n0_off (h p List.mem_cons_self).1 (h p List.mem_cons_self).2 h3]
end

theorem w_keep2 {n : Nat} {s : Int} {x : Nat → Int} {i : Nat} (h : x i = 2) : weakI n s x i = 0 ∨ weakI n s x i = 2 ∨ weakI n s x i = 5 := by
  have e1 : w1 x s i = 2 := by unfold w1; rw [pr, if_neg (by omega), h]
  have e2 : w2 (w1 x s) s i = 2 ∨ w2 (w1 x s) s i = 5 := by unfold w2; split <;> omega
  have e3 : w3 (w2 (w1 x s) s) i = 2 ∨ w3 (w2 (w1 x s) s) i = 5 := by unfold w3; rw [if_neg (by omega)]; exact e2
  have e4 : w4 n (w3 (w2 (w1 x s) s)) i = 2 ∨ w4 n (w3 (w2 (w1 x s) s)) i = 5 := by
    cases i with
    | zero => exact e3
    | succ i =>
      rw [w4]
      split
      · unfold st4; rw [if_neg (by omega), if_neg (by omega)]; exact e3
      · exact e3
  have e5 : w5 n (w4 n (w3 (w2 (w1 x s) s))) i = 2 ∨ w5 n (w4 n (w3 (w2 (w1 x s) s))) i = 5 := by
    unfold w5
    rw [if_neg (by unfold chg; omega)]; exact e4
  have e6 : w6 (w5 n (w4 n (w3 (w2 (w1 x s) s)))) i = 2 ∨ w6 (w5 n (w4 n (w3 (w2 (w1 x s) s)))) i = 5 := by unfold w6; rw [if_neg (by omega)]; exact e5
  show w7 (w6 (w5 n (w4 n (w3 (w2 (w1 x s) s))))) s i = 0 ∨ w7 (w6 (w5 n (w4 n (w3 (w2 (w1 x s) s))))) s i = 2 ∨ w7 (w6 (w5 n (w4 n (w3 (w2 (w1 x s) s))))) s i = 5
  unfold w7
  split
  · exact .inl rfl
  · exact .inr e6

theorem w_keep13 {n : Nat} {s : Int} {x : Nat → Int} {i : Nat} (h : x i = 13) : weakI n s x i = 1 := by
  have e1 : w1 x s i = 13 := by unfold w1; rw [pr, if_neg (by omega), h]
  have e2 : w2 (w1 x s) s i = 13 := by unfold w2; rw [if_neg (by omega), e1]
  have e3 : w3 (w2 (w1 x s) s) i = 1 := by unfold w3; rw [if_pos e2]
  have e4 : w4 n (w3 (w2 (w1 x s) s)) i = 1 := by
    cases i with
    | zero => exact e3
    | succ i =>
      rw [w4]
      split
      · unfold st4; rw [if_neg (by omega), if_neg (by omega)]; exact e3
      · exact e3
  have e5 : w5 n (w4 n (w3 (w2 (w1 x s) s))) i = 1 := by
    unfold w5
    rw [if_neg (by unfold chg; omega)]; exact e4
  have e6 : w6 (w5 n (w4 n (w3 (w2 (w1 x s) s)))) i = 1 := by unfold w6; rw [if_neg (by omega)]; exact e5
  show w7 (w6 (w5 n (w4 n (w3 (w2 (w1 x s) s))))) s i = 1
  unfold w7
  rw [if_neg (by omega)]; exact e6

section
variable {n : Nat} {c kd vl : Nat → Int} {mk : Nat → Bool} {e sos eos : Int} {i : Nat}
/-- What is neither neutral nor a mark behind W7 is left by N0 to N2. -/
theorem resT_keep (hm : mk i = false) (h : weakI n sos c i = 0 ∨ weakI n sos c i = 1 ∨ weakI n sos c i = 2 ∨ weakI n sos c i = 5) : resT n c mk kd vl e sos eos i = weakI n sos c i := by
  have h0 : n0s gs mk sos e (weakI n sos c) (prs (bk kd vl (fun j => decide (weakI n sos c j = 10)) n).cl n) i = weakI n sos c i := by
    refine n0s_off hm _ _ fun p hp => ?_
    obtain ⟨a, b, d⟩ := prs_mem.1 hp
    obtain ⟨_, _, _, _, _, _, q1, q2⟩ := (bk_ok (kd := kd) (vl := vl) (nn := fun j => decide (weakI n sos c j = 10)) n).pr _ b
    have q1' := of_decide_eq_true q1
    have q2' := of_decide_eq_true q2
    rw [← d] at q2'
    exact ⟨fun e => by rw [e] at h; omega, fun e => by rw [e] at h; omega⟩
  unfold resT neu
  rw [nout_not (by rw [h0, NB_not]; omega), h0]

/-- Without brackets N0 does nothing. -/
theorem bk_zero {vl : Nat → Int} {nn : Nat → Bool} (hk : ∀ j, kd j = 0) : ∀ k, bk kd vl nn k = ⟨[], fun _ => 0, true⟩
  | 0 => rfl
  | k + 1 => by
    show (bk kd vl nn k).step kd vl nn k = _
    rw [bk_zero hk k]
    unfold Bk.step
    rw [if_neg (by decide), if_pos (.inl (hk k))]

theorem prs_zero : prs (fun _ => 0) n = [] := by
  unfold prs
  rw [List.filterMap_eq_nil_iff]
  intro a _
  rfl

theorem resT_plain (hk : ∀ j, kd j = 0) : resT n c mk kd vl e sos eos = neu sos eos e n (weakI n sos c) := by
  unfold resT
  rw [bk_zero hk, prs_zero]
  rfl

/-- Letters of one side and what is neutral become that side between it. -/
theorem resT_row (hk : ∀ j, kd j = 0) (hs : sos = 0 ∨ sos = 1) (heq : eos = sos) (h : ∀ j, j < n → c j = sos ∨ (7 ≤ c j ∧ c j ≤ 10) ∨ c j = 12) (hi : i < n) : resT n c mk kd vl e sos eos i = sos := by
  rw [resT_plain hk]
  have hp : ∀ j, j ≤ n → pr c sos j = sos ∨ (7 ≤ pr c sos j ∧ pr c sos j ≤ 10) := by
    intro j
    induction j with
    | zero => intro _; exact .inl rfl
    | succ j ih =>
      intro hj
      rw [pr]
      have := h j (by omega)
      split
      · exact ih (by omega)
      · omega
  have hw : ∀ j, j < n → weakI n sos c j = sos ∨ (7 ≤ weakI n sos c j ∧ weakI n sos c j ≤ 10) := fun j hj => by
    have h1 : w1 c sos j = sos ∨ (7 ≤ w1 c sos j ∧ w1 c sos j ≤ 10) := hp (j + 1) hj
    unfold weakI
    rw [wrest_keeps (by omega)]; exact h1
  have hN : ∀ j, j < n → (NB (weakI n sos c j) = true ∨ weakI n sos c j = sos) := fun j hj => by
    rcases hw j hj with q | q
    · exact .inr q
    · exact .inl (NB_iff.2 (.inl q))
  have hsd : sd sos = sos := by unfold sd; rw [if_neg (by omega)]
  have hbef : ∀ j, j ≤ n → bef (fun j => NB (weakI n sos c j)) (fun j => sd (weakI n sos c j)) sos j = sos := by
    intro j
    induction j with
    | zero => intro _; rfl
    | succ j ih =>
      intro hj
      rcases hN j (by omega) with q | q
      · rw [bef_succ_neu q]; exact ih (by omega)
      · rw [bef_succ_not (by show NB (weakI n sos c j) = false; rw [q, NB_not]; omega)]
        show sd (weakI n sos c j) = sos
        rw [q, hsd]
  have hbeh : ∀ f j, j + f = n → beh (fun j => NB (weakI n sos c j)) (fun j => sd (weakI n sos c j)) eos f j = sos := by
    intro f
    induction f with
    | zero => intro j _; exact heq
    | succ f ih =>
      intro j hj
      rw [beh]
      rcases hN j (by omega) with q | q
      · rw [if_pos q]; exact ih (j + 1) (by omega)
      · rw [if_neg (by show ¬ NB (weakI n sos c j) = true; rw [q, Bool.not_eq_true, NB_not]; omega)]
        show sd (weakI n sos c j) = sos
        rw [q, hsd]
  unfold neu
  rcases hN i hi with q | q
  · unfold nout
    rw [if_pos q, hbef i (by omega), hbeh (n - i) i (by omega), if_pos rfl]
  · rw [nout_not (by rw [q, NB_not]; omega), q]
end

section
variable {x fs : Nat → Int} {base : Int} {n : Nat}
/-- Without overrides no class is overridden. -/
theorem ov_none (h : ∀ i, i < n → x i ≠ 14 ∧ x i ≠ 15) : ∀ i, i ≤ n → ∀ j, (mst x fs base i).ov j = -1
  | 0, _, j => rfl
  | i + 1, hi, j => by
    have ih := ov_none h i (by omega)
    have hx := h i (by omega)
    have hup : ∀ d, Mst.up (mst x fs base i).ov d (-1) j = -1 := fun d => by
      unfold Mst.up
      split
      · rfl
      · exact ih j
    have hemb : ∀ odd, ((mst x fs base i).embed odd (-1)).ov j = -1 := fun odd => by
      unfold Mst.embed
      split
      · exact hup _
      · split
        · exact ih j
        · exact ih j
    have hbeg : ∀ odd, ((mst x fs base i).begin_ odd).ov j = -1 := fun odd => by
      unfold Mst.begin_
      split
      · exact hup _
      · exact ih j
    have hclose : ((mst x fs base i).close).ov j = -1 := by
      unfold Mst.close
      split
      · exact ih j
      · split
        · exact ih j
        · exact ih j
    have hpop : ((mst x fs base i).pop).ov j = -1 := by
      unfold Mst.pop
      split
      · exact ih j
      · split
        · exact ih j
        · split
          · exact ih j
          · exact ih j
    show ((mst x fs base i).step (x i) (fs i)).ov j = -1
    unfold Mst.step
    rw [if_neg (show ¬ x i = 15 by omega), if_neg (show ¬ x i = 14 by omega)]
    repeat' split
    · exact hemb _
    · exact hemb _
    · exact hpop
    · exact hbeg _
    · exact hbeg _
    · exact hbeg _
    · exact hclose
    · exact ih j

theorem tI_none (h : ∀ i, i < n → x i ≠ 14 ∧ x i ≠ 15) {i : Nat} (hi : i < n) : tI x fs base i = x i := by
  unfold tI
  split
  · rfl
  · have : (mst x fs base i).tov = -1 := ov_none h i (by omega) _
    rw [if_pos this]
end

section
variable {x kd vl : Nat → Int} {base : Int} {n : Nat} {ft fl : Nat → Int}

/-- A place's sequence and its place on it. -/
theorem Done.at_ (hb : base = 0 ∨ base = 1) (hB : ∀ i, i < n → x i = 7 → n ≤ i + 1) (h : Done x kd vl base n ft fl) {i : Nat} (hi : i < n) (hr : remN (x i) = false) :
    ∃ l t, l ∈ CHS x base n ∧ t < l.length ∧ l.getD t 0 = i ∧ ft i = sqT x kd vl base n l t ∧ fl i = imp (sqV x base n l) (sqT x kd vl base n l t) := by
  have hc := chs_ok (x := x) (n := n) hb hB
  obtain ⟨l, hl, hm⟩ := hc.cov i hi hr
  obtain ⟨t, ht, e⟩ := memN_getD hm
  exact ⟨l, t, hl, ht, e, by rw [← e]; exact h.typ l hl t ht, by rw [← e]; exact h.lev l hl t ht⟩

/-- FnSides. -/
theorem sides (hb : base = 0 ∨ base = 1) (hB : ∀ i, i < n → x i = 7 → n ≤ i + 1) (hok : ∀ i, i < n → clsOk (x i)) (h : Done x kd vl base n ft fl) (ho : ∀ i, i < n → x i ≠ 14 ∧ x i ≠ 15) {i : Nat} (hi : i < n) (hr : remN (x i) = false) :
    base ≤ fl i ∧ ((x i = 0 ∨ x i = 2 ∨ x i = 5) → fl i % 2 = 0) ∧ ((x i = 1 ∨ x i = 13) → fl i % 2 = 1) := by
  obtain ⟨l, t, hl, ht, e, _, e2⟩ := h.at_ hb hB hi hr
  have hv := sqV_range hb hB hl
  have hx := tI_none (fs := fsI n x) (base := base) ho hi
  have hC : sqC x base n l t = cls (x i) := by unfold sqC CTP; rw [if_pos ht, e, hx]
  have hmk : ∀ v : Int, cls (x i) = v → v ≠ 12 → (fun j => decide (cls (x (pl n l j)) = 12)) t = false := fun v hv hv2 => by
    show decide (cls (x (pl n l t)) = 12) = false
    rw [pl_lt ht, e, hv]
    exact decide_eq_false hv2
  have hkeep := fun (hm : (fun j => decide (cls (x (pl n l j)) = 12)) t = false) h2 => resT_keep (n := l.length) (c := sqC x base n l) (mk := fun j => decide (cls (x (pl n l j)) = 12)) (kd := fun j => kd (pl n l j)) (vl := fun j => vl (pl n l j)) (e := sqV x base n l % 2) (sos := sqS x base n l) (eos := sqE x base n l) (i := t) hm h2
  have hg := imp_range (v := sqT x kd vl base n l t) (show 0 ≤ sqV x base n l by omega) hv.2
  refine ⟨by rw [e2]; omega, fun q => ?_, fun q => ?_⟩
  · have hT : sqT x kd vl base n l t = 0 ∨ sqT x kd vl base n l t = 2 ∨ sqT x kd vl base n l t = 5 := by
      rcases q with q | q | q
      · have c0 : sqC x base n l t = 0 := by rw [hC, q]; rfl
        have w0 := weakI_keeps (n := l.length) (s := sqS x base n l) (x := sqC x base n l) (i := t) (by omega)
        have := hkeep (hmk 0 (by rw [q]; rfl) (by omega)) (by omega)
        unfold sqT; omega
      · have c0 : sqC x base n l t = 2 := by rw [hC, q]; rfl
        have w0 := w_keep2 (n := l.length) (s := sqS x base n l) c0
        have := hkeep (hmk 2 (by rw [q]; rfl) (by omega)) (by omega)
        unfold sqT; omega
      · have c0 : sqC x base n l t = 5 := by rw [hC, q]; rfl
        have w0 := weakI_keeps (n := l.length) (s := sqS x base n l) (x := sqC x base n l) (i := t) (by omega)
        have := hkeep (hmk 5 (by rw [q]; rfl) (by omega)) (by omega)
        unfold sqT; omega
    rw [e2]
    unfold imp
    rcases hT with hT | hT | hT <;> rw [hT] <;> split <;> simp <;> omega
  · have hT : sqT x kd vl base n l t = 1 := by
      rcases q with q | q
      · have c0 : sqC x base n l t = 1 := by rw [hC, q]; rfl
        have w0 := weakI_keeps (n := l.length) (s := sqS x base n l) (x := sqC x base n l) (i := t) (by omega)
        have := hkeep (hmk 1 (by rw [q]; rfl) (by omega)) (by omega)
        unfold sqT; omega
      · have c0 : sqC x base n l t = 13 := by rw [hC, q]; rfl
        have w0 := w_keep13 (n := l.length) (s := sqS x base n l) c0
        have := hkeep (hmk 13 (by rw [q]; rfl) (by omega)) (by omega)
        unfold sqT; omega
    rw [e2, hT]
    unfold imp
    split <;> simp <;> omega
end
end Go.Proofs.YtkocpijloiamcaaDoor
