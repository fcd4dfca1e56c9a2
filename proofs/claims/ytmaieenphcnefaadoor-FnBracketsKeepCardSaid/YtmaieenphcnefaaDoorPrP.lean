/- BD16 in plain Lean: the bracket pairs by a stack of 63 openers. No program in sight. (Not built yet.) -/
namespace Go.Proofs.YtmaieenphcnefaaDoor
set_option linter.unusedVariables false
set_option linter.unusedSimpArgs false

/-- The openers that stand open (the latest first), the closer of each opener that has one (0: none), and whether the search goes on. -/
structure Bk where
  st : List Nat
  cl : Nat → Nat
  on : Bool

def Bk.step (kd vl : Nat → Int) (nn : Nat → Bool) (m : Bk) (i : Nat) : Bk :=
  if m.on = false then m else
  if kd i = 0 ∨ nn i = false then m else
  if kd i = 1 then (if m.st.length = 63 then { m with st := [], on := false } else { m with st := i :: m.st }) else
  match m.st.findIdx? (fun o => decide (vl o = vl i)) with
  | none => m
  | some c => { m with st := m.st.drop (c + 1), cl := fun j => if j = m.st.getD c 0 then i else m.cl j }

def bk (kd vl : Nat → Int) (nn : Nat → Bool) : Nat → Bk
  | 0 => ⟨[], fun _ => 0, true⟩
  | k + 1 => (bk kd vl nn k).step kd vl nn k

/-- The pairs, ordered by their openers. -/
def prs (cl : Nat → Nat) (n : Nat) : List (Nat × Nat) := (List.range n).filterMap fun i => if cl i = 0 then none else some (i, cl i)

structure Bk.Ok (kd vl : Nat → Int) (nn : Nat → Bool) (m : Bk) (k : Nat) : Prop where
  lt : ∀ o, o ∈ m.st → o < k
  desc : m.st.Pairwise (fun a b => b < a)
  op : ∀ o, o ∈ m.st → m.cl o = 0 ∧ kd o = 1 ∧ nn o = true
  pr : ∀ j, m.cl j ≠ 0 → j < m.cl j ∧ m.cl j < k ∧ kd j = 1 ∧ kd (m.cl j) ≠ 0 ∧ kd (m.cl j) ≠ 1 ∧ vl j = vl (m.cl j) ∧ nn j = true ∧ nn (m.cl j) = true
  out : ∀ j, m.cl j ≠ 0 → ∀ o, o ∈ m.st → o < j ∨ m.cl j < o
  nest : ∀ a b, m.cl a ≠ 0 → m.cl b ≠ 0 → a < b → m.cl a < b ∨ m.cl b < m.cl a

section
variable {kd vl : Nat → Int} {nn : Nat → Bool}

theorem findIdx?_spec {p : Nat → Bool} : ∀ {l : List Nat} {c : Nat}, l.findIdx? p = some c → c < l.length ∧ p (l.getD c 0) = true ∧ ∀ j, j < c → p (l.getD j 0) = false
  | [], c, h => by simp at h
  | a :: l, c, h => by
    rw [List.findIdx?_cons] at h
    by_cases ha : p a = true
    · rw [if_pos ha] at h
      simp only [Option.some.injEq] at h
      subst h
      exact ⟨by simp, by simpa using ha, fun j hj => absurd hj (Nat.not_lt_zero _)⟩
    · rw [if_neg ha] at h
      cases e : l.findIdx? p with
      | none => rw [e] at h; cases h
      | some c' =>
        rw [e] at h
        simp only [Option.map_some, Option.some.injEq] at h
        subst h
        obtain ⟨h1, h2, h3⟩ := findIdx?_spec e
        refine ⟨by simp; omega, by simpa using h2, fun j hj => ?_⟩
        cases j with
        | zero => simpa using ha
        | succ j => simpa using h3 j (by omega)

theorem findIdx?_none' {p : Nat → Bool} {l : List Nat} (h : l.findIdx? p = none) : ∀ a, a ∈ l → p a = false := by
  rw [List.findIdx?_eq_none_iff] at h
  exact fun a ha => by simpa using h a ha

theorem drop_desc {l : List Nat} {c : Nat} (h : l.Pairwise (fun a b => b < a)) (hc : c < l.length) : ∀ o, o ∈ l.drop (c + 1) → o < l.getD c 0 := by
  intro o ho
  obtain ⟨i, hi, rfl⟩ := List.getElem_of_mem ho
  rw [List.getElem_drop]
  rw [List.length_drop] at hi
  have := (List.pairwise_iff_getElem.1 h) c (c + 1 + i) hc (by omega) (by omega)
  rw [List.getD_eq_getElem?_getD, List.getElem?_eq_getElem hc]
  exact this

theorem mem_getD {l : List Nat} {c : Nat} (h : c < l.length) : l.getD c 0 ∈ l := by
  rw [List.getD_eq_getElem?_getD, List.getElem?_eq_getElem h]; exact List.getElem_mem h

theorem Bk.Ok.step {m : Bk} {k : Nat} (h : Bk.Ok kd vl nn m k) : Bk.Ok kd vl nn (m.step kd vl nn k) (k + 1) := by
  have up : Bk.Ok kd vl nn m (k + 1) := ⟨fun o ho => by have := h.lt o ho; omega, h.desc, h.op, fun j hj => by
    obtain ⟨a, b, c⟩ := h.pr j hj
    exact ⟨a, by omega, c⟩, h.out, h.nest⟩
  unfold Bk.step
  by_cases h1 : m.on = false
  · rw [if_pos h1]; exact up
  rw [if_neg h1]
  by_cases h2 : kd k = 0 ∨ nn k = false
  · rw [if_pos h2]; exact up
  rw [if_neg h2]
  have hn : nn k = true := by
    cases e : nn k with
    | true => rfl
    | false => exact absurd (Or.inr e) h2
  by_cases h3 : kd k = 1
  · rw [if_pos h3]
    by_cases h4 : m.st.length = 63
    · rw [if_pos h4]
      exact ⟨fun o ho => (by cases ho), List.Pairwise.nil, fun o ho => (by cases ho), up.pr, fun j _ o ho => (by cases ho), up.nest⟩
    · rw [if_neg h4]
      have hk0 : m.cl k = 0 := by
        apply Classical.byContradiction
        intro hc
        have := (h.pr k hc).1
        have := (h.pr k hc).2.1
        omega
      refine ⟨fun o ho => ?_, List.pairwise_cons.2 ⟨fun o ho => h.lt o ho, h.desc⟩, fun o ho => ?_, up.pr, fun j hj o ho => ?_, up.nest⟩
      · rcases List.mem_cons.1 ho with rfl | ho
        · omega
        · have := h.lt o ho; omega
      · rcases List.mem_cons.1 ho with rfl | ho
        · exact ⟨hk0, h3, hn⟩
        · exact h.op o ho
      · rcases List.mem_cons.1 ho with rfl | ho
        · right; exact (h.pr j hj).2.1
        · exact h.out j hj o ho
  · rw [if_neg h3]
    cases hf : m.st.findIdx? (fun o => decide (vl o = vl k)) with
    | none => exact up
    | some c =>
      obtain ⟨hc, hp, _⟩ := findIdx?_spec hf
      have hm := mem_getD hc
      obtain ⟨o, ho⟩ : ∃ o, o = m.st.getD c 0 := ⟨_, rfl⟩
      have hdr := drop_desc h.desc hc
      rw [← ho] at hm hp hdr
      have hv : vl o = vl k := by simpa using hp
      have hlt := h.lt o hm
      obtain ⟨q1, q2, q3⟩ := h.op o hm
      have hsub : ∀ a, a ∈ m.st.drop (c + 1) → a ∈ m.st := fun a ha => List.mem_of_mem_drop ha
      have hk : kd k ≠ 0 := fun e => h2 (Or.inl e)
      simp only [← ho]
      have hin : ∀ j, m.cl j ≠ 0 → j ≠ o := fun j hj e => by rw [e] at hj; exact hj q1
      refine ⟨fun a ha => by have := h.lt a (hsub a ha); omega, h.desc.sublist (List.drop_sublist _ _), fun a ha => ?_, fun j hj => ?_, fun j hj a ha => ?_, fun a b ha hb hab => ?_⟩
      · have hne : a ≠ o := by have := hdr a ha; omega
        show (if a = o then k else m.cl a) = 0 ∧ _
        rw [if_neg hne]
        exact h.op a (hsub a ha)
      · by_cases e : j = o
        · subst e
          simp only [if_true] at hj ⊢
          exact ⟨hlt, by omega, q2, hk, h3, hv, q3, hn⟩
        · simp only [if_neg e] at hj ⊢
          exact up.pr j hj
      · by_cases e : j = o
        · subst e
          left
          exact hdr a ha
        · simp only [if_neg e] at hj ⊢
          exact h.out j hj a (hsub a ha)
      · by_cases e1 : a = o
        · subst e1
          have e2 : b ≠ a := by omega
          simp only [if_true, if_neg e2] at ha hb ⊢
          right
          exact (h.pr b hb).2.1
        · by_cases e2 : b = o
          · subst e2
            simp only [if_true, if_neg e1] at ha hb ⊢
            rcases h.out a ha b hm with q | q
            · omega
            · exact Or.inl q
          · simp only [if_neg e1, if_neg e2] at ha hb ⊢
            exact h.nest a b ha hb hab

theorem bk_ok : ∀ k, Bk.Ok kd vl nn (bk kd vl nn k) k
  | 0 => ⟨fun o ho => (by cases ho), List.Pairwise.nil, fun o ho => (by cases ho), fun j hj => absurd rfl hj, fun j hj => absurd rfl hj, fun a b ha => absurd rfl ha⟩
  | k + 1 => (bk_ok k).step

/-- A closer stays. -/
theorem step_cl {m : Bk} {k j : Nat} (h : Bk.Ok kd vl nn m k) (hj : m.cl j ≠ 0) : (m.step kd vl nn k).cl j = m.cl j := by
  unfold Bk.step
  by_cases h1 : m.on = false
  · rw [if_pos h1]
  rw [if_neg h1]
  by_cases h2 : kd k = 0 ∨ nn k = false
  · rw [if_pos h2]
  rw [if_neg h2]
  by_cases h3 : kd k = 1
  · rw [if_pos h3]
    by_cases h4 : m.st.length = 63
    · rw [if_pos h4]
    · rw [if_neg h4]
  · rw [if_neg h3]
    cases hf : m.st.findIdx? (fun o => decide (vl o = vl k)) with
    | none => rfl
    | some c =>
      obtain ⟨hc, _, _⟩ := findIdx?_spec hf
      have hm := (h.op _ (mem_getD hc)).1
      have hne : j ≠ m.st.getD c 0 := fun e => by rw [← e] at hm; exact hj hm
      show (if j = m.st.getD c 0 then k else m.cl j) = m.cl j
      rw [if_neg hne]

theorem bk_cl_stays {k j : Nat} (hj : (bk kd vl nn k).cl j ≠ 0) : ∀ d, (bk kd vl nn (k + d)).cl j = (bk kd vl nn k).cl j
  | 0 => rfl
  | d + 1 => by
    have h := bk_cl_stays hj d
    have := step_cl (bk_ok (k + d)) (j := j) (by rw [h]; exact hj)
    exact this.trans h

/-- How many openers there are ahead of a place. -/
def ops (kd : Nat → Int) : Nat → Nat
  | 0 => 0
  | k + 1 => ops kd k + (if kd k = 1 then 1 else 0)

theorem ops_mono : ∀ {a b : Nat}, a ≤ b → ops kd a ≤ ops kd b
  | a, 0, h => by rw [show a = 0 by omega]; exact Nat.le_refl _
  | a, b + 1, h => by
    by_cases e : a = b + 1
    · rw [e]; exact Nat.le_refl _
    · have := ops_mono (a := a) (b := b) (by omega)
      show ops kd a ≤ ops kd b + _
      omega

/-- With at most 63 openers the search goes on to the end. -/
theorem bk_on {n : Nat} (h : ops kd n ≤ 63) : ∀ k, k ≤ n → (bk kd vl nn k).on = true ∧ (bk kd vl nn k).st.length ≤ ops kd k
  | 0, _ => ⟨rfl, Nat.le_refl _⟩
  | k + 1, hk => by
    obtain ⟨h1, h2⟩ := bk_on h k (by omega)
    have hm := ops_mono (kd := kd) hk
    show ((bk kd vl nn k).step kd vl nn k).on = true ∧ ((bk kd vl nn k).step kd vl nn k).st.length ≤ ops kd k + (if kd k = 1 then 1 else 0)
    have hm2 : ops kd k + (if kd k = 1 then 1 else 0) ≤ ops kd n := hm
    unfold Bk.step
    rw [if_neg (by rw [h1]; decide)]
    by_cases c2 : kd k = 0 ∨ nn k = false
    · rw [if_pos c2]; exact ⟨h1, by omega⟩
    rw [if_neg c2]
    by_cases c3 : kd k = 1
    · rw [if_pos c3, if_pos c3] at *
      have : ¬ (bk kd vl nn k).st.length = 63 := by omega
      rw [if_neg this]
      exact ⟨h1, by simp; omega⟩
    · rw [if_neg c3]
      cases hf : (bk kd vl nn k).st.findIdx? (fun o => decide (vl o = vl k)) with
      | none => exact ⟨h1, Nat.le_trans h2 (Nat.le_add_right _ _)⟩
      | some c =>
        refine ⟨h1, ?_⟩
        show ((bk kd vl nn k).st.drop (c + 1)).length ≤ _
        rw [List.length_drop]
        exact Nat.le_trans (Nat.sub_le _ _) (Nat.le_trans h2 (Nat.le_add_right _ _))

/-- An opener and a closer side by side are a pair. -/
theorem bk_side {n i : Nat} (h : ops kd n ≤ 63) (hi : i + 1 < n) (h1 : kd i = 1) (h2 : kd (i + 1) ≠ 0) (h3 : kd (i + 1) ≠ 1) (h4 : nn i = true) (h5 : nn (i + 1) = true) (h6 : vl i = vl (i + 1)) : (bk kd vl nn n).cl i = i + 1 := by
  obtain ⟨g1, g2⟩ := bk_on (vl := vl) (nn := nn) h i (by omega)
  have hops := ops_mono (kd := kd) (show i + 1 ≤ n by omega)
  have hops2 : ops kd (i + 1) = ops kd i + 1 := by show ops kd i + _ = _; rw [if_pos h1]
  have s1 : bk kd vl nn (i + 1) = { bk kd vl nn i with st := i :: (bk kd vl nn i).st } := by
    show (bk kd vl nn i).step kd vl nn i = _
    unfold Bk.step
    rw [if_neg (by rw [g1]; decide), if_neg (by rw [h1, h4]; simp), if_pos h1, if_neg (by omega)]
  have s2 : (bk kd vl nn (i + 2)).cl i = i + 1 := by
    show ((bk kd vl nn (i + 1)).step kd vl nn (i + 1)).cl i = _
    rw [s1]
    unfold Bk.step
    rw [if_neg (by rw [g1]; decide), if_neg (by rw [h5]; simp [h2]), if_neg h3]
    have : (i :: (bk kd vl nn i).st).findIdx? (fun o => decide (vl o = vl (i + 1))) = some 0 := by
      rw [List.findIdx?_cons, if_pos (by simpa using h6)]
    rw [this]
    show (if i = (i :: (bk kd vl nn i).st).getD 0 0 then i + 1 else _) = i + 1
    rw [if_pos (by simp)]
  have s3 := bk_cl_stays (kd := kd) (vl := vl) (nn := nn) (k := i + 2) (j := i) (by rw [s2]; omega) (n - (i + 2))
  rw [show i + 2 + (n - (i + 2)) = n by omega] at s3
  rw [s3, s2]
end
end Go.Proofs.YtmaieenphcnefaaDoor
