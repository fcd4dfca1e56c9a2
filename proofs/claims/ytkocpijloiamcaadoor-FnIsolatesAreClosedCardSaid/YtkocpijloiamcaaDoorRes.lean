/- What the rules W1 to I2 make of an isolating run sequence and of a paragraph, in plain Lean. No program in sight. -/
import Derived.Test.YtkocpijloiamcaaDoorChs
import Derived.Test.YtkocpijloiamcaaDoorIrs
import Derived.Test.YtkocpijloiamcaaDoorGE
import Derived.Test.YtkocpijloiamcaaDoorGF
import Derived.Test.YtkocpijloiamcaaDoorGG
import Derived.Test.YtkocpijloiamcaaDoorWeakW
import Derived.Test.YtkocpijloiamcaaDoorGH
namespace Go.Proofs.YtkocpijloiamcaaDoor
set_option linter.unusedVariables false

/-- The classes behind W1 to N2 of a sequence with n characters of the classes c. -/
def resT (n : Nat) (c : Nat → Int) (mk : Nat → Bool) (kd vl : Nat → Int) (e sos eos : Int) : Nat → Int :=
  neu sos eos e n (n0s gs mk sos e (weakI n sos c) (prs (bk kd vl (fun j => decide (weakI n sos c j = 10)) n).cl n))

/-- What is of a class that W1 meets. -/
def okW (v : Int) : Prop := memB weakL v = true
def okN (v : Int) : Prop := memB [0, 1, 2, 5, 7, 8, 9, 10, 22, 21, 23, 24] v = true

theorem okW_iff {v : Int} : okW v ↔ (0 ≤ v ∧ v ≤ 10) ∨ v = 12 ∨ v = 13 ∨ (21 ≤ v ∧ v ≤ 24) := by
  unfold okW weakL
  rw [memB_iff]
  simp only [List.mem_cons, List.not_mem_nil, or_false]
  omega
theorem okN_iff {v : Int} : okN v ↔ (0 ≤ v ∧ v ≤ 2) ∨ v = 5 ∨ (7 ≤ v ∧ v ≤ 10) ∨ (21 ≤ v ∧ v ≤ 24) := by
  unfold okN
  rw [memB_iff]
  simp only [List.mem_cons, List.not_mem_nil, or_false]
  omega
theorem NB_iff {v : Int} : NB v = true ↔ (7 ≤ v ∧ v ≤ 10) ∨ (21 ≤ v ∧ v ≤ 24) := by
  unfold NB neuL
  rw [memB_iff]
  simp only [List.mem_cons, List.not_mem_nil, or_false]
  omega
theorem NB_not {v : Int} : NB v = false ↔ ¬ ((7 ≤ v ∧ v ≤ 10) ∨ (21 ≤ v ∧ v ≤ 24)) := by
  rw [← NB_iff]; simp

section
variable {n : Nat} {s : Int} {f c : Nat → Int}

/-- Classes that are left of W1 on. -/
def inC (v : Int) : Prop := (0 ≤ v ∧ v ≤ 10) ∨ v = 13 ∨ (21 ≤ v ∧ v ≤ 24)

theorem pr_inC (hs : s = 0 ∨ s = 1) : ∀ i, (∀ j, j < i → okW (f j)) → inC (pr f s i)
  | 0, _ => by unfold inC; rw [pr]; omega
  | i + 1, h => by
    rw [pr]
    have h1 := okW_iff.1 (h i (by omega))
    split
    · exact pr_inC hs i (fun j hj => h j (by omega))
    · unfold inC; omega

theorem w2_inC {i : Nat} (h : inC (f i)) : inC (w2 f s i) := by unfold w2 inC at *; split <;> omega
theorem w3_inC {i : Nat} (h : inC (f i)) : inC (w3 f i) ∧ w3 f i ≠ 13 := by unfold w3 inC at *; split <;> omega
theorem st4_inC {a v b : Int} (h : inC v ∧ v ≠ 13) : inC (st4 a v b) ∧ st4 a v b ≠ 13 := by
  unfold st4 inC at *
  split
  · omega
  · split <;> omega
theorem w4_inC {i : Nat} (h : inC (f i) ∧ f i ≠ 13) : inC (w4 n f i) ∧ w4 n f i ≠ 13 := by
  cases i with
  | zero => exact h
  | succ i =>
    rw [w4]
    split
    · exact st4_inC h
    · exact h
theorem w5_inC {i : Nat} (h : inC (f i) ∧ f i ≠ 13) : inC (w5 n f i) ∧ w5 n f i ≠ 13 := by unfold w5 inC at *; split <;> omega
theorem w6_inC {i : Nat} (h : inC (f i) ∧ f i ≠ 13) : inC (w6 f i) ∧ w6 f i ≠ 13 ∧ w6 f i ≠ 3 ∧ w6 f i ≠ 4 ∧ w6 f i ≠ 6 := by unfold w6 inC at *; split <;> omega
theorem w7_inC {i : Nat} (h : inC (f i) ∧ f i ≠ 13 ∧ f i ≠ 3 ∧ f i ≠ 4 ∧ f i ≠ 6) : inC (w7 f s i) ∧ w7 f s i ≠ 13 ∧ w7 f s i ≠ 3 ∧ w7 f s i ≠ 4 ∧ w7 f s i ≠ 6 := by unfold w7 inC at *; split <;> omega

/-- W1 to W7 leave what N0 to N2 meet. -/
theorem weakI_okN (hs : s = 0 ∨ s = 1) (h : ∀ j, j < n → okW (c j)) {i : Nat} (hi : i < n) : okN (weakI n s c i) := by
  have h1 : inC (w1 c s i) := pr_inC hs (i + 1) (fun j hj => h j (by omega))
  have h2 := w7_inC (s := s) (w6_inC (w5_inC (n := n) (w4_inC (n := n) (w3_inC (w2_inC (s := s) h1)))))
  have h3 : inC (weakI n s c i) ∧ weakI n s c i ≠ 13 ∧ weakI n s c i ≠ 3 ∧ weakI n s c i ≠ 4 ∧ weakI n s c i ≠ 6 := h2
  unfold inC at h3
  rw [okN_iff]; omega

theorem n0_okN {m : Nat → Bool} {e : Int} {p : Nat × Nat} (hs : s = 0 ∨ s = 1) (he : e = 0 ∨ e = 1) (i : Nat) : n0 gs m s e f p i = f i ∨ n0 gs m s e f p i = 0 ∨ n0 gs m s e f p i = 1 := by
  have hb := bfr_side (g := fun i => gs (f i)) hs (fun i => gs_cases _) p.1
  have key : ∀ v : Int, v = 0 ∨ v = 1 → setB m p.1 p.2 v f i = f i ∨ setB m p.1 p.2 v f i = 0 ∨ setB m p.1 p.2 v f i = 1 := fun v hv => by
    unfold setB
    by_cases q : mkB m p.1 p.2 i = true
    · rw [if_pos q]; exact .inr hv
    · rw [if_neg q]; exact .inl rfl
  unfold n0
  split
  · exact key e he
  · split
    · exact key _ hb
    · exact .inl rfl

theorem n0s_okN {m : Nat → Bool} {e : Int} (hs : s = 0 ∨ s = 1) (he : e = 0 ∨ e = 1) (i : Nat) : ∀ (L : List (Nat × Nat)) (f : Nat → Int), n0s gs m s e f L i = f i ∨ n0s gs m s e f L i = 0 ∨ n0s gs m s e f L i = 1
  | [], f => .inl rfl
  | p :: L, f => by
    have h1 := n0_okN (m := m) (f := f) (p := p) hs he i
    have h2 : n0s gs m s e (n0 gs m s e f p) L i = n0 gs m s e f p i ∨ n0s gs m s e (n0 gs m s e f p) L i = 0 ∨ n0s gs m s e (n0 gs m s e f p) L i = 1 := n0s_okN hs he i L _
    show n0s gs m s e (n0 gs m s e f p) L i = f i ∨ n0s gs m s e (n0 gs m s e f p) L i = 0 ∨ n0s gs m s e (n0 gs m s e f p) L i = 1
    rcases h2 with h2 | h2
    · rw [h2]; exact h1
    · exact .inr h2

theorem okN_side {v : Int} (h : v = 0 ∨ v = 1) : okN v := by rw [okN_iff]; omega

/-- N1 and N2 leave letters and numbers. -/
theorem neu_in {sos eos e : Int} (hs : sos = 0 ∨ sos = 1) (he : e = 0 ∨ e = 1) (h : ∀ j, j < n → okN (f j)) {i : Nat} (hi : i < n) : neu sos eos e n f i = 0 ∨ neu sos eos e n f i = 1 ∨ neu sos eos e n f i = 2 ∨ neu sos eos e n f i = 5 := by
  unfold neu
  by_cases hN : NB (f i) = true
  · rcases nout_side (N := fun j => NB (f j)) (st := fun j => sd (f j)) (eos := eos) (c := f) hs he (fun j hj hj2 => sd_side (h j hj) hj2) hi hN with q | q
    · exact .inl q
    · exact .inr (.inl q)
  · have hN' : NB (f i) = false := by simpa using hN
    rw [nout_not hN']
    have h1 := okN_iff.1 (h i hi)
    have h2 := NB_not.1 hN'
    omega

theorem resT_in {mk : Nat → Bool} {kd vl : Nat → Int} {e sos eos : Int} (hs : sos = 0 ∨ sos = 1) (he : e = 0 ∨ e = 1) (h : ∀ j, j < n → okW (c j)) {i : Nat} (hi : i < n) :
    resT n c mk kd vl e sos eos i = 0 ∨ resT n c mk kd vl e sos eos i = 1 ∨ resT n c mk kd vl e sos eos i = 2 ∨ resT n c mk kd vl e sos eos i = 5 := by
  unfold resT
  refine neu_in hs he (fun j hj => ?_) hi
  rcases n0s_okN (m := mk) (s := sos) (e := e) hs he j (prs (bk kd vl (fun j => decide (weakI n sos c j = 10)) n).cl n) (weakI n sos c) with q | q
  · rw [q]; exact weakI_okN hs h hj
  · exact okN_side q

theorem imp_range {lv v : Int} (h0 : 0 ≤ lv) (h1 : lv ≤ 125) : lv ≤ imp lv v ∧ imp lv v ≤ 127 := by
  unfold imp
  split
  · split
    · omega
    · split <;> omega
  · split <;> omega
end

/-! ### A paragraph -/
/-- The place of a sequence's character, N for one that it does not have. -/
def pl (N : Nat) (l : List Nat) (j : Nat) : Nat := if j < l.length then l.getD j 0 else N

theorem pl_lt {N : Nat} {l : List Nat} {j : Nat} (h : j < l.length) : pl N l j = l.getD j 0 := if_pos h

section
variable (x kd vl : Nat → Int) (base : Int) (n : Nat)

def LVP (i : Nat) : Int := lvR x (fsI n x) base i
def CTP (i : Nat) : Int := cls (tI x (fsI n x) base i)
def CHS : List (List Nat) := chains (runs (lvR x (fsI n x) base) n) (nxR x (fsI n x) base n) (pdR x (fsI n x) base n) (runs (lvR x (fsI n x) base) n).length
def sqV (l : List Nat) : Int := LVP x base n (hd l)
def sqS (l : List Nat) : Int := dirN (max (befL (LVP x base n) base (hd l)) (sqV x base n l))
def sqE (l : List Nat) : Int := dirN (max (eosL (LVP x base n) (CTP x base n) base n (lst0 l)) (sqV x base n l))
def sqC (l : List Nat) (j : Nat) : Int := if j < l.length then CTP x base n (l.getD j 0) else 10
def sqT (l : List Nat) : Nat → Int :=
  resT l.length (sqC x base n l) (fun j => decide (cls (x (pl n l j)) = 12)) (fun j => kd (pl n l j)) (fun j => vl (pl n l j)) (sqV x base n l % 2) (sqS x base n l) (sqE x base n l)

/-- What run leaves: classes and levels. -/
structure Done (ft fl : Nat → Int) : Prop where
  typ : ∀ l, l ∈ CHS x base n → ∀ j, j < l.length → ft (l.getD j 0) = sqT x kd vl base n l j
  lev : ∀ l, l ∈ CHS x base n → ∀ j, j < l.length → fl (l.getD j 0) = imp (sqV x base n l) (sqT x kd vl base n l j)
  remT : ∀ i, i < n → remN (x i) = true → ft i = cls (x i)
  rem0 : 0 < n → remN (x 0) = true → fl 0 = base
  remL : ∀ i, i + 1 < n → remN (x (i + 1)) = true → fl (i + 1) = fl i
end

section
variable {x kd vl : Nat → Int} {base : Int} {n : Nat} {ft fl ft' fl' : Nat → Int}

theorem chs_len : (CHS x base n).length ≤ n := by
  unfold CHS chains heads
  rw [List.length_map]
  have h1 := List.length_filter_le (headB (pdR x (fsI n x) base n)) (List.range (runs (lvR x (fsI n x) base) n).length)
  have h2 := runs_len (lvR x (fsI n x) base) n
  rw [List.length_range] at h1
  omega

theorem chs_ok (hb : base = 0 ∨ base = 1) (hB : ∀ i, i < n → x i = 7 → n ≤ i + 1) : ChOk x (fsI n x) base n (CHS x base n) := chOk hb hB

theorem Done.uniq (hb : base = 0 ∨ base = 1) (hB : ∀ i, i < n → x i = 7 → n ≤ i + 1) (h : Done x kd vl base n ft fl) (h' : Done x kd vl base n ft' fl') : ∀ i, i < n → ft i = ft' i ∧ fl i = fl' i := by
  have hc := chs_ok (x := x) (n := n) hb hB
  intro i
  induction i with
  | zero =>
    intro hi
    cases hr : remN (x 0) with
    | true => rw [h.remT 0 hi hr, h'.remT 0 hi hr, h.rem0 hi hr, h'.rem0 hi hr]; exact ⟨rfl, rfl⟩
    | false =>
      obtain ⟨l, hl, hm⟩ := hc.cov 0 hi hr
      obtain ⟨t, ht, e⟩ := memN_getD hm
      rw [← e, h.typ l hl t ht, h'.typ l hl t ht, h.lev l hl t ht, h'.lev l hl t ht]; exact ⟨rfl, rfl⟩
  | succ i ih =>
    intro hi
    cases hr : remN (x (i + 1)) with
    | true => rw [h.remT _ hi hr, h'.remT _ hi hr, h.remL i hi hr, h'.remL i hi hr]; exact ⟨rfl, (ih (by omega)).2⟩
    | false =>
      obtain ⟨l, hl, hm⟩ := hc.cov _ hi hr
      obtain ⟨t, ht, e⟩ := memN_getD hm
      rw [← e, h.typ l hl t ht, h'.typ l hl t ht, h.lev l hl t ht, h'.lev l hl t ht]; exact ⟨rfl, rfl⟩

theorem dirN_side (l : Int) : dirN l = 0 ∨ dirN l = 1 := by unfold dirN; omega

theorem lvp_range (hb : base = 0 ∨ base = 1) {i : Nat} (hr : remN (x i) = false) : base ≤ LVP x base n i ∧ LVP x base n i ≤ 125 := by
  unfold LVP
  rw [lvR_of hr]
  exact lvl_range (by omega) (by omega) i

theorem cls_okW {v : Int} (h : clsOk v) (hr : remN v = false) : okW (cls v) := by
  unfold clsOk at h
  obtain ⟨k, rfl⟩ := Int.eq_ofNat_of_zero_le h.1
  have hk : k < 23 := by omega
  have key : ∀ j : Fin 23, remN (j.val : Int) = false → memB weakL (cls (j.val : Int)) = true := by decide
  exact key ⟨k, hk⟩ hr

theorem tI_ok' {fs : Nat → Int} {i : Nat} (h : clsOk (x i)) (hb : base ≤ 125) : clsOk (tI x fs base i) := by
  unfold tI
  split
  · exact h
  · have := (mst_ok (x := x) (fs := fs) hb i).tov_or
    split
    · exact h
    · unfold clsOk; omega

theorem tI_nrem {fs : Nat → Int} (hb : base ≤ 125) {i : Nat} (hr : remN (x i) = false) : remN (tI x fs base i) = false := by
  unfold tI
  split
  · exact hr
  · have := (mst_ok (x := x) (fs := fs) hb i).tov_or
    split
    · exact hr
    · next h1 h2 =>
      have : (mst x fs base i).tov = 0 ∨ (mst x fs base i).tov = 1 := by omega
      rcases this with q | q <;> rw [q] <;> decide

theorem sqC_ok (hb : base = 0 ∨ base = 1) (hB : ∀ i, i < n → x i = 7 → n ≤ i + 1) (hok : ∀ i, i < n → clsOk (x i)) {l : List Nat} (hl : l ∈ CHS x base n) : ∀ j, j < l.length → okW (sqC x base n l j) := fun j hj => by
  have hm := (chs_ok (x := x) hb hB).mem l hl _ (getD_mem0 hj)
  unfold sqC CTP
  rw [if_pos hj]
  exact cls_okW (tI_ok' (hok _ hm.1) (by omega)) (tI_nrem (by omega) hm.2)

theorem sqV_range (hb : base = 0 ∨ base = 1) (hB : ∀ i, i < n → x i = 7 → n ≤ i + 1) {l : List Nat} (hl : l ∈ CHS x base n) : base ≤ sqV x base n l ∧ sqV x base n l ≤ 125 := by
  have hc := chs_ok (x := x) hb hB
  have h1 := hc.ch l hl
  exact lvp_range hb (hc.mem l hl _ (getD_mem0 (len_pos h1.ne))).2

theorem sqT_in (hb : base = 0 ∨ base = 1) (hB : ∀ i, i < n → x i = 7 → n ≤ i + 1) (hok : ∀ i, i < n → clsOk (x i)) {l : List Nat} (hl : l ∈ CHS x base n) {j : Nat} (hj : j < l.length) :
    sqT x kd vl base n l j = 0 ∨ sqT x kd vl base n l j = 1 ∨ sqT x kd vl base n l j = 2 ∨ sqT x kd vl base n l j = 5 :=
  resT_in (dirN_side _) (by omega) (sqC_ok hb hB hok hl) hj

/-- What comes out are classes, and levels that fit. -/
theorem Done.range (hb : base = 0 ∨ base = 1) (hB : ∀ i, i < n → x i = 7 → n ≤ i + 1) (hok : ∀ i, i < n → clsOk (x i)) (h : Done x kd vl base n ft fl) : ∀ i, i < n → (∃ y, clsOk y ∧ ft i = cls y) ∧ base ≤ fl i ∧ fl i ≤ 127 := by
  have hc := chs_ok (x := x) (n := n) hb hB
  have key : ∀ i, i < n → remN (x i) = false → (∃ y, clsOk y ∧ ft i = cls y) ∧ base ≤ fl i ∧ fl i ≤ 127 := fun i hi hr => by
    obtain ⟨l, hl, hm⟩ := hc.cov i hi hr
    obtain ⟨t, ht, e⟩ := memN_getD hm
    have hv := sqV_range hb hB hl
    have hr2 := imp_range (v := sqT x kd vl base n l t) (show 0 ≤ sqV x base n l by omega) hv.2
    have hin := sqT_in (kd := kd) (vl := vl) hb hB hok hl ht
    rw [← e, h.typ l hl t ht, h.lev l hl t ht]
    refine ⟨⟨sqT x kd vl base n l t, by unfold clsOk; omega, ?_⟩, by omega, hr2.2⟩
    rcases hin with q | q | q | q <;> rw [q] <;> rfl
  intro i
  induction i with
  | zero =>
    intro hi
    cases hr : remN (x 0) with
    | true => rw [h.remT 0 hi hr, h.rem0 hi hr]; exact ⟨⟨x 0, hok 0 hi, rfl⟩, by omega, by omega⟩
    | false => exact key 0 hi hr
  | succ i ih =>
    intro hi
    cases hr : remN (x (i + 1)) with
    | true => rw [h.remT _ hi hr, h.remL i hi hr]; exact ⟨⟨x (i + 1), hok _ hi, rfl⟩, (ih (by omega)).2⟩
    | false => exact key _ hi hr
end
end Go.Proofs.YtkocpijloiamcaaDoor
