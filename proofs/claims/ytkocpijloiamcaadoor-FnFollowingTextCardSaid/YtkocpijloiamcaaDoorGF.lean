/- BD16 in plain Lean: the bracket pairs by a stack of 63 openers. No program in sight. (Not built yet.) -/
import Derived.Sort.LotA
import Derived.Sort.LotB
import Derived.Sort.LotD3
import Derived.Sort.WalkA
import Derived.Sort.WalkB2
import Derived.Sort.WalkB3
import Derived.Lib.Hide
import Derived.Test.YtkocpijloiamcaaDoorGA
import Derived.Deep.LoopGhost
import Derived.Deep.MidRow
import Derived.RegionTactic
import Derived.Shelf.Abstract
import Derived.Sort.WalkB12
import Derived.BigRegion
import Derived.Test.YtkocpijloiamcaaDoorGB
namespace Go.Proofs.YtkocpijloiamcaaDoor
set_option linter.unusedVariables false
set_option linter.unusedSimpArgs false

/-- The openers that stand open (the latest first), the closer of each opener that has one (0: none), and whether the search goes on. -/
structure Bk where
  st : List Nat
  cl : Nat → Nat
  on : Bool

def Bk.step (kd vl : Nat → Int) (nn : Nat → Bool) (m : Bk) (i : Nat) : Bk :=
  if m.on = false then m else
  if kd i = 0 ∨ nn i = false then m else
  if kd i = 1 then (if m.st.length = 63 then { m with st := [], on := false } else { m with st := i :: m.st }) else
  match m.st.findIdx? (fun o => decide (vl o = vl i)) with
  | none => m
  | some c => { m with st := m.st.drop (c + 1), cl := fun j => if j = m.st.getD c 0 then i else m.cl j }

def bk (kd vl : Nat → Int) (nn : Nat → Bool) : Nat → Bk
  | 0 => ⟨[], fun _ => 0, true⟩
  | k + 1 => (bk kd vl nn k).step kd vl nn k

/-- The pairs, ordered by their openers. -/
def prs (cl : Nat → Nat) (n : Nat) : List (Nat × Nat) := (List.range n).filterMap fun i => if cl i = 0 then none else some (i, cl i)

structure Bk.Ok (kd vl : Nat → Int) (nn : Nat → Bool) (m : Bk) (k : Nat) : Prop where
  lt : ∀ o, o ∈ m.st → o < k
  desc : m.st.Pairwise (fun a b => b < a)
  op : ∀ o, o ∈ m.st → m.cl o = 0 ∧ kd o = 1 ∧ nn o = true
  pr : ∀ j, m.cl j ≠ 0 → j < m.cl j ∧ m.cl j < k ∧ kd j = 1 ∧ kd (m.cl j) ≠ 0 ∧ kd (m.cl j) ≠ 1 ∧ vl j = vl (m.cl j) ∧ nn j = true ∧ nn (m.cl j) = true
  out : ∀ j, m.cl j ≠ 0 → ∀ o, o ∈ m.st → o < j ∨ m.cl j < o
  nest : ∀ a b, m.cl a ≠ 0 → m.cl b ≠ 0 → a < b → m.cl a < b ∨ m.cl b < m.cl a

section
variable {kd vl : Nat → Int} {nn : Nat → Bool}

theorem findIdx?_spec {p : Nat → Bool} : ∀ {l : List Nat} {c : Nat}, l.findIdx? p = some c → c < l.length ∧ p (l.getD c 0) = true ∧ ∀ j, j < c → p (l.getD j 0) = false
  | [], c, h => by simp at h
  | a :: l, c, h => by
    rw [List.findIdx?_cons] at h
    by_cases ha : p a = true
    · rw [if_pos ha] at h
      simp only [Option.some.injEq] at h
      subst h
      exact ⟨by simp, by simpa using ha, fun j hj => absurd hj (Nat.not_lt_zero _)⟩
    · rw [if_neg ha] at h
      cases e : l.findIdx? p with
      | none => rw [e] at h; cases h
      | some c' =>
        rw [e] at h
        simp only [Option.map_some, Option.some.injEq] at h
        subst h
        obtain ⟨h1, h2, h3⟩ := findIdx?_spec e
        refine ⟨by simp; omega, by simpa using h2, fun j hj => ?_⟩
        cases j with
        | zero => simpa using ha
        | succ j => simpa using h3 j (by omega)

theorem findIdx?_none' {p : Nat → Bool} {l : List Nat} (h : l.findIdx? p = none) : ∀ a, a ∈ l → p a = false := by
  rw [List.findIdx?_eq_none_iff] at h
  exact fun a ha => by simpa using h a ha

theorem drop_desc {l : List Nat} {c : Nat} (h : l.Pairwise (fun a b => b < a)) (hc : c < l.length) : ∀ o, o ∈ l.drop (c + 1) → o < l.getD c 0 := by
  intro o ho
  obtain ⟨i, hi, rfl⟩ := List.getElem_of_mem ho
  rw [List.getElem_drop]
  rw [List.length_drop] at hi
  have := (List.pairwise_iff_getElem.1 h) c (c + 1 + i) hc (by omega) (by omega)
  rw [List.getD_eq_getElem?_getD, List.getElem?_eq_getElem hc]
  exact this

theorem mem_getD {l : List Nat} {c : Nat} (h : c < l.length) : l.getD c 0 ∈ l := by
  rw [List.getD_eq_getElem?_getD, List.getElem?_eq_getElem h]; exact List.getElem_mem h

theorem Bk.Ok.step {m : Bk} {k : Nat} (h : Bk.Ok kd vl nn m k) : Bk.Ok kd vl nn (m.step kd vl nn k) (k + 1) := by
  have up : Bk.Ok kd vl nn m (k + 1) := ⟨fun o ho => by have := h.lt o ho; omega, h.desc, h.op, fun j hj => by
    obtain ⟨a, b, c⟩ := h.pr j hj
    exact ⟨a, by omega, c⟩, h.out, h.nest⟩
  unfold Bk.step
  by_cases h1 : m.on = false
  · rw [if_pos h1]; exact up
  rw [if_neg h1]
  by_cases h2 : kd k = 0 ∨ nn k = false
  · rw [if_pos h2]; exact up
  rw [if_neg h2]
  have hn : nn k = true := by
    cases e : nn k with
    | true => rfl
    | false => exact absurd (Or.inr e) h2
  by_cases h3 : kd k = 1
  · rw [if_pos h3]
    by_cases h4 : m.st.length = 63
    · rw [if_pos h4]
      exact ⟨fun o ho => (by cases ho), List.Pairwise.nil, fun o ho => (by cases ho), up.pr, fun j _ o ho => (by cases ho), up.nest⟩
    · rw [if_neg h4]
      have hk0 : m.cl k = 0 := by
        apply Classical.byContradiction
        intro hc
        have := (h.pr k hc).1
        have := (h.pr k hc).2.1
        omega
      refine ⟨fun o ho => ?_, List.pairwise_cons.2 ⟨fun o ho => h.lt o ho, h.desc⟩, fun o ho => ?_, up.pr, fun j hj o ho => ?_, up.nest⟩
      · rcases List.mem_cons.1 ho with rfl | ho
        · omega
        · have := h.lt o ho; omega
      · rcases List.mem_cons.1 ho with rfl | ho
        · exact ⟨hk0, h3, hn⟩
        · exact h.op o ho
      · rcases List.mem_cons.1 ho with rfl | ho
        · right; exact (h.pr j hj).2.1
        · exact h.out j hj o ho
  · rw [if_neg h3]
    cases hf : m.st.findIdx? (fun o => decide (vl o = vl k)) with
    | none => exact up
    | some c =>
      obtain ⟨hc, hp, _⟩ := findIdx?_spec hf
      have hm := mem_getD hc
      obtain ⟨o, ho⟩ : ∃ o, o = m.st.getD c 0 := ⟨_, rfl⟩
      have hdr := drop_desc h.desc hc
      rw [← ho] at hm hp hdr
      have hv : vl o = vl k := by simpa using hp
      have hlt := h.lt o hm
      obtain ⟨q1, q2, q3⟩ := h.op o hm
      have hsub : ∀ a, a ∈ m.st.drop (c + 1) → a ∈ m.st := fun a ha => List.mem_of_mem_drop ha
      have hk : kd k ≠ 0 := fun e => h2 (Or.inl e)
      simp only [← ho]
      have hin : ∀ j, m.cl j ≠ 0 → j ≠ o := fun j hj e => by rw [e] at hj; exact hj q1
      refine ⟨fun a ha => by have := h.lt a (hsub a ha); omega, h.desc.sublist (List.drop_sublist _ _), fun a ha => ?_, fun j hj => ?_, fun j hj a ha => ?_, fun a b ha hb hab => ?_⟩
      · have hne : a ≠ o := by have := hdr a ha; omega
        show (if a = o then k else m.cl a) = 0 ∧ _
        rw [if_neg hne]
        exact h.op a (hsub a ha)
      · by_cases e : j = o
        · subst e
          simp only [if_true] at hj ⊢
          exact ⟨hlt, by omega, q2, hk, h3, hv, q3, hn⟩
        · simp only [if_neg e] at hj ⊢
          exact up.pr j hj
      · by_cases e : j = o
        · subst e
          left
          exact hdr a ha
        · simp only [if_neg e] at hj ⊢
          exact h.out j hj a (hsub a ha)
      · by_cases e1 : a = o
        · subst e1
          have e2 : b ≠ a := by omega
          simp only [if_true, if_neg e2] at ha hb ⊢
          right
          exact (h.pr b hb).2.1
        · by_cases e2 : b = o
          · subst e2
            simp only [if_true, if_neg e1] at ha hb ⊢
            rcases h.out a ha b hm with q | q
            · omega
            · exact Or.inl q
          · simp only [if_neg e1, if_neg e2] at ha hb ⊢
            exact h.nest a b ha hb hab

theorem bk_ok : ∀ k, Bk.Ok kd vl nn (bk kd vl nn k) k
  | 0 => ⟨fun o ho => (by cases ho), List.Pairwise.nil, fun o ho => (by cases ho), fun j hj => absurd rfl hj, fun j hj => absurd rfl hj, fun a b ha => absurd rfl ha⟩
  | k + 1 => (bk_ok k).step

/-- A closer stays. -/
theorem step_cl {m : Bk} {k j : Nat} (h : Bk.Ok kd vl nn m k) (hj : m.cl j ≠ 0) : (m.step kd vl nn k).cl j = m.cl j := by
  unfold Bk.step
  by_cases h1 : m.on = false
  · rw [if_pos h1]
  rw [if_neg h1]
  by_cases h2 : kd k = 0 ∨ nn k = false
  · rw [if_pos h2]
  rw [if_neg h2]
  by_cases h3 : kd k = 1
  · rw [if_pos h3]
    by_cases h4 : m.st.length = 63
    · rw [if_pos h4]
    · rw [if_neg h4]
  · rw [if_neg h3]
    cases hf : m.st.findIdx? (fun o => decide (vl o = vl k)) with
    | none => rfl
    | some c =>
      obtain ⟨hc, _, _⟩ := findIdx?_spec hf
      have hm := (h.op _ (mem_getD hc)).1
      have hne : j ≠ m.st.getD c 0 := fun e => by rw [← e] at hm; exact hj hm
      show (if j = m.st.getD c 0 then k else m.cl j) = m.cl j
      rw [if_neg hne]

theorem bk_cl_stays {k j : Nat} (hj : (bk kd vl nn k).cl j ≠ 0) : ∀ d, (bk kd vl nn (k + d)).cl j = (bk kd vl nn k).cl j
  | 0 => rfl
  | d + 1 => by
    have h := bk_cl_stays hj d
    have := step_cl (bk_ok (k + d)) (j := j) (by rw [h]; exact hj)
    exact this.trans h

/-- How many openers there are ahead of a place. -/
def ops (kd : Nat → Int) : Nat → Nat
  | 0 => 0
  | k + 1 => ops kd k + (if kd k = 1 then 1 else 0)

theorem ops_mono : ∀ {a b : Nat}, a ≤ b → ops kd a ≤ ops kd b
  | a, 0, h => by rw [show a = 0 by omega]; exact Nat.le_refl _
  | a, b + 1, h => by
    by_cases e : a = b + 1
    · rw [e]; exact Nat.le_refl _
    · have := ops_mono (a := a) (b := b) (by omega)
      show ops kd a ≤ ops kd b + _
      omega

/-- With at most 63 openers the search goes on to the end. -/
theorem bk_on {n : Nat} (h : ops kd n ≤ 63) : ∀ k, k ≤ n → (bk kd vl nn k).on = true ∧ (bk kd vl nn k).st.length ≤ ops kd k
  | 0, _ => ⟨rfl, Nat.le_refl _⟩
  | k + 1, hk => by
    obtain ⟨h1, h2⟩ := bk_on h k (by omega)
    have hm := ops_mono (kd := kd) hk
    show ((bk kd vl nn k).step kd vl nn k).on = true ∧ ((bk kd vl nn k).step kd vl nn k).st.length ≤ ops kd k + (if kd k = 1 then 1 else 0)
    have hm2 : ops kd k + (if kd k = 1 then 1 else 0) ≤ ops kd n := hm
    unfold Bk.step
    rw [if_neg (by rw [h1]; decide)]
    by_cases c2 : kd k = 0 ∨ nn k = false
    · rw [if_pos c2]; exact ⟨h1, by omega⟩
    rw [if_neg c2]
    by_cases c3 : kd k = 1
    · rw [if_pos c3, if_pos c3] at *
      have : ¬ (bk kd vl nn k).st.length = 63 := by omega
      rw [if_neg this]
      exact ⟨h1, by simp; omega⟩
    · rw [if_neg c3]
      cases hf : (bk kd vl nn k).st.findIdx? (fun o => decide (vl o = vl k)) with
      | none => exact ⟨h1, Nat.le_trans h2 (Nat.le_add_right _ _)⟩
      | some c =>
        refine ⟨h1, ?_⟩
        show ((bk kd vl nn k).st.drop (c + 1)).length ≤ _
        rw [List.length_drop]
        exact Nat.le_trans (Nat.sub_le _ _) (Nat.le_trans h2 (Nat.le_add_right _ _))

/-- An opener and a closer side by side are a pair. -/
theorem bk_side {n i : Nat} (h : ops kd n ≤ 63) (hi : i + 1 < n) (h1 : kd i = 1) (h2 : kd (i + 1) ≠ 0) (h3 : kd (i + 1) ≠ 1) (h4 : nn i = true) (h5 : nn (i + 1) = true) (h6 : vl i = vl (i + 1)) : (bk kd vl nn n).cl i = i + 1 := by
  obtain ⟨g1, g2⟩ := bk_on (vl := vl) (nn := nn) h i (by omega)
  have hops := ops_mono (kd := kd) (show i + 1 ≤ n by omega)
  have hops2 : ops kd (i + 1) = ops kd i + 1 := by show ops kd i + _ = _; rw [if_pos h1]
  have s1 : bk kd vl nn (i + 1) = { bk kd vl nn i with st := i :: (bk kd vl nn i).st } := by
    show (bk kd vl nn i).step kd vl nn i = _
    unfold Bk.step
    rw [if_neg (by rw [g1]; decide), if_neg (by rw [h1, h4]; simp), if_pos h1, if_neg (by omega)]
  have s2 : (bk kd vl nn (i + 2)).cl i = i + 1 := by
    show ((bk kd vl nn (i + 1)).step kd vl nn (i + 1)).cl i = _
    rw [s1]
    unfold Bk.step
    rw [if_neg (by rw [g1]; decide), if_neg (by rw [h5]; simp [h2]), if_neg h3]
    have : (i :: (bk kd vl nn i).st).findIdx? (fun o => decide (vl o = vl (i + 1))) = some 0 := by
      rw [List.findIdx?_cons, if_pos (by simpa using h6)]
    rw [this]
    show (if i = (i :: (bk kd vl nn i).st).getD 0 0 then i + 1 else _) = i + 1
    rw [if_pos (by simp)]
  have s3 := bk_cl_stays (kd := kd) (vl := vl) (nn := nn) (k := i + 2) (j := i) (by rw [s2]; omega) (n - (i + 2))
  rw [show i + 2 + (n - (i + 2)) = n by omega] at s3
  rw [s3, s2]
end
end Go.Proofs.YtkocpijloiamcaaDoor

/- bidi.bracketPairs' methods, and sort.insertionSort, reverseRange, siftDown, heapSort over them: what they make of the pairs is what the plain functions say. -/
namespace Go.Proofs.YtkocpijloiamcaaDoor
set_option linter.unusedVariables false
set_option linter.unusedSimpArgs false
open Go.RowKit Go.Sort Go.Lib

/-- A pair as it lies in memory. -/
def prc (p : Nat × Nat) : List Value := [.int .i64 ((p.1 : Nat) : Int), .int .i64 ((p.2 : Nat) : Int)]
theorem prc_len (p : Nat × Nat) : (prc p).length = 2 := rfl

/-- The n pairs d lie in block q, in a slice of capacity cap. -/
structure Hp (w : World) (B q cap n : Nat) (d : Array (Nat × Nat)) : Prop where
  sz : d.size = n
  gw : Gw w B 132 2 (.slice (some ⟨q, 0, none⟩) n cap) n (fun i => prc d[i]!)

/-- 'Less' of two pairs. -/
def ltp (x y : Nat × Nat) : Bool := decide (x.1 < y.1)

theorem swo_ltp : SWO ltp where
  irrefl x := by simp [ltp]
  trans x y z h1 h2 := by simp only [ltp, decide_eq_true_eq] at *; omega
  ntrans x y z h1 h2 := by simp only [ltp, decide_eq_false_iff_not] at *; omega

/-- The receiver: the pairs' slice. -/
abbrev rvp (q n cap : Nat) : Value := .slice (some ⟨q, 0, none⟩) n cap

section
variable {w w' : World} {B q cap n : Nat} {d : Array (Nat × Nat)}

theorem Hp.c0 (h : Hp w B q cap n d) {i : Nat} (hi : i < n) : w.cell? ⟨q, i * 2, none⟩ = some (.int .i64 ((d[i]!.1 : Nat) : Int)) := h.gw.cell (c := 0) (fun _ _ => rfl) hi (by omega) _ rfl
theorem Hp.c1 (h : Hp w B q cap n d) {i : Nat} (hi : i < n) : w.cell? ⟨q, i * 2 + 1, none⟩ = some (.int .i64 ((d[i]!.2 : Nat) : Int)) := h.gw.cell (c := 1) (fun _ _ => rfl) hi (by omega) _ rfl
theorem Hp.lt (h : Hp w B q cap n d) : B ≤ q ∧ q < w.heap.size := h.gw.ge q rfl
theorem Hp.kept (h : Hp w B q cap n d) (e : w'.heap[q]? = w.heap[q]?) : Hp w' B q cap n d := ⟨h.sz, h.gw.kept' (fun k hk => by
  simp only [Value.ownBlock, Option.some.injEq] at hk
  subst hk; exact e)⟩
theorem Hp.drewN (h : Hp w B q cap n d) (k : Nat) : Hp (w.drewN k) B q cap n d := h.kept rfl
theorem Hp.frozen (h : Hp w B q cap n d) (i : Nat) : w.frozen? ⟨q, i, none⟩ = false := World.ownsRow.frozenAt h.gw i
theorem Hp.set (h : Hp w B q cap n d) {i c : Nat} (u : Value) (d' : Array (Nat × Nat)) (hs : d'.size = n) (hc : c < 2) (hi : i < n) (ho : ∀ j, j < n → prc d'[j]! = if j = i then (prc d[j]!).set c u else prc d[j]!) : Hp (w.setCell ⟨q, i * 2 + c, none⟩ u) B q cap n d' := by
  refine ⟨hs, ?_⟩
  have h2 := (World.ownsRow.stored h.gw (i * 2 + c) u).1
  unfold Gw
  have : (List.range n).flatMap (fun j => prc d'[j]!) = ((List.range n).flatMap (fun j => prc d[j]!)).set (i * 2 + c) u := by
    have l1 := flat_len (F := fun j => prc d'[j]!) (s := 2) n (fun _ _ => rfl)
    have l2 := flat_len (F := fun j => prc d[j]!) (s := 2) n (fun _ _ => rfl)
    apply List.ext_getElem?
    intro t
    by_cases ht : t < n * 2
    · have hj : t / 2 < n := by omega
      have e1 : t = t / 2 * 2 + t % 2 := by omega
      have hm : t % 2 < 2 := by omega
      have f1 := flat_at (F := fun j => prc d'[j]!) n (fun _ _ => rfl) (t / 2) (t % 2) hj hm
      have f2 := flat_at (F := fun j => prc d[j]!) n (fun _ _ => rfl) (t / 2) (t % 2) hj hm
      rw [← e1] at f1 f2
      rw [f1, List.getElem?_set, l2, f2]
      show (prc d'[t / 2]!)[t % 2]? = _
      rw [ho _ hj]
      by_cases e : t / 2 = i
      · rw [if_pos e]
        by_cases e3 : i * 2 + c = t
        · rw [if_pos e3, if_pos (by omega), List.getElem?_set, if_pos (by omega)]
          simp [prc, show c < 2 from hc, show t % 2 = c by omega]
        · rw [if_neg e3, List.getElem?_set, if_neg (by omega)]
      · rw [if_neg e, if_neg (by omega)]
    · rw [List.getElem?_eq_none (by omega), List.getElem?_eq_none (by rw [List.length_set]; omega)]
  rw [this]; exact h2

/-- What a function of the sort's family hands back: nothing; the pairs are d' now; nothing else has turned. -/
def SP (w : World) (B q cap n : Nat) (d' : Array (Nat × Nat)) (e : Ending) (w' : World) : Prop :=
  e = .returned (.tuple #[]) ∧ Hp w' B q cap n d' ∧ Kp (fun k => k = q) w w'
end

theorem mLen (rv : Value) : ∀ w, Sem.run Tryd.prog (method 283 115 rv "Len") w = .ok (139, rv) w := fun _ => by kernel_rfl
theorem mLess (rv : Value) : ∀ w, Sem.run Tryd.prog (method 283 115 rv "Less") w = .ok (140, rv) w := fun _ => by kernel_rfl
theorem mSwap (rv : Value) : ∀ w, Sem.run Tryd.prog (method 283 115 rv "Swap") w = .ok (141, rv) w := fun _ => by kernel_rfl
theorem eLen : ∀ args w, (callFunc 139 args).run Tryd.prog w = .ok (.enter 139 args) w := enters_of Tryd.func139 (by kernel_rfl) rfl
theorem eLess : ∀ args w, (callFunc 140 args).run Tryd.prog w = .ok (.enter 140 args) w := enters_of Tryd.func140 (by kernel_rfl) rfl
theorem eSwap : ∀ args w, (callFunc 141 args).run Tryd.prog w = .ok (.enter 141 args) w := enters_of Tryd.func141 (by kernel_rfl) rfl

section
variable {B q cap n : Nat} {d : Array (Nat × Nat)}

set_option maxHeartbeats 1000000 in
theorem len_p (w : World) : Calls Tryd.prog 139 #[rvp q n cap] w fun e w' => e = .returned (.int .i64 n) ∧ w' = w := by
  go_enter Tryd.func139, Tryd.ntmps139
  go_wp2
  go_ret
  exact ⟨rfl, rfl⟩

theorem prc_swp (hs : d.size = n) {i j : Nat} (hi : i < n) (hj : j < n) (k : Nat) : (swp d i j)[k]! = if k = j then d[i]! else if k = i then d[j]! else d[k]! := by
  by_cases e1 : k = j
  · subst e1; rw [if_pos rfl, swp_right d i k (by omega)]
  · rw [if_neg e1]
    by_cases e2 : k = i
    · subst e2; rw [if_pos rfl, swp_left d k j (by omega) e1]
    · rw [if_neg e2, swp_other d i j k e2 e1]

set_option maxHeartbeats 1000000 in
theorem less_p (w : World) (h : Hp w B q cap n d) (hn : n ≤ 4294967296) (i j : Nat) (hi : i < n) (hj : j < n) :
    Calls Tryd.prog 140 #[rvp q n cap, .int .i64 i, .int .i64 j] w fun e w' => e = .returned (.bool (ltp d[i]! d[j]!)) ∧ ∃ k, w' = w.drewN k := by
  have c1 := h.c0 hi
  have c2 := h.c0 hj
  have hiz : (i : Int) < (n : Int) := by omega
  have hjz : (j : Int) < (n : Int) := by omega
  unfold ltp
  clear h
  go_enter Tryd.func140, Tryd.ntmps140
  go_wp2
  go_quiet (fail)
  go_wp2
  go_ret
  exact ⟨by simp, _, rfl⟩

/-- 'Less', as a walk meets it. -/
theorem lessAt (w : World) (h : Hp w B q cap n d) (hn : n ≤ 4294967296) (i j : Nat) {v : Bool} (hv : ltp d[i]! d[j]! = v) (hi : i < n) (hj : j < n) {x y : Int} (hx : x = i) (hy : y = j) :
    Calls Tryd.prog 140 #[rvp q n cap, .int .i64 x, .int .i64 y] w fun e w' => e = .returned (.bool v) ∧ ∃ k, w' = w.drewN k := by
  subst hx; subst hy; subst hv
  exact less_p w h hn i j hi hj

theorem gset (d : Array (Nat × Nat)) (i k : Nat) (x : Nat × Nat) (hi : i < d.size) : (d.setIfInBounds i x)[k]! = if k = i then x else d[k]! := by
  by_cases hk : k < d.size
  · rw [getElem!_pos _ k (by simpa using hk), getElem!_pos d k hk, Array.getElem_setIfInBounds]
    · by_cases e : k = i
      · subst e; simp
      · rw [if_neg e, if_neg (fun h => e h.symm)]
  · rw [getElem!_neg _ k (by simpa using hk), getElem!_neg d k hk, if_neg (by omega)]

theorem swap_hp {w : World} (h : Hp w B q cap n d) {i j : Nat} (hi : i < n) (hj : j < n) :
    Hp ((((w.setCell ⟨q, i * 2, none⟩ (.int .i64 ((d[j]!.1 : Nat) : Int))).setCell ⟨q, i * 2 + 1, none⟩ (.int .i64 ((d[j]!.2 : Nat) : Int))).setCell ⟨q, j * 2, none⟩ (.int .i64 ((d[i]!.1 : Nat) : Int))).setCell ⟨q, j * 2 + 1, none⟩ (.int .i64 ((d[i]!.2 : Nat) : Int))) B q cap n (swp d i j) := by
  have hs := h.sz
  have h1 := h.set (c := 0) (i := i) (.int .i64 ((d[j]!.1 : Nat) : Int)) (d.setIfInBounds i (d[j]!.1, d[i]!.2)) (by simpa using hs) (by omega) hi (fun k hk => by
    rw [gset d i k _ (by omega)]
    by_cases e : k = i
    · subst e; rw [if_pos rfl, if_pos rfl]; rfl
    · rw [if_neg e, if_neg e])
  have h2 := h1.set (c := 1) (i := i) (.int .i64 ((d[j]!.2 : Nat) : Int)) (d.setIfInBounds i d[j]!) (by simpa using hs) (by omega) hi (fun k hk => by
    rw [gset d i k _ (by omega), gset d i k _ (by omega)]
    by_cases e : k = i
    · subst e; rw [if_pos rfl, if_pos rfl, if_pos rfl]; rfl
    · rw [if_neg e, if_neg e, if_neg e])
  obtain ⟨D, hD⟩ : ∃ D, D = d.setIfInBounds i d[j]! := ⟨_, rfl⟩
  have hDs : D.size = n := by rw [hD]; simpa using hs
  rw [← hD] at h2
  have h3 := h2.set (c := 0) (i := j) (.int .i64 ((d[i]!.1 : Nat) : Int)) (D.setIfInBounds j (d[i]!.1, D[j]!.2)) (by simpa using hDs) (by omega) hj (fun k hk => by
    rw [gset D j k _ (by omega)]
    by_cases e : k = j
    · subst e; rw [if_pos rfl, if_pos rfl]; rfl
    · rw [if_neg e, if_neg e])
  have h4 := h3.set (c := 1) (i := j) (.int .i64 ((d[i]!.2 : Nat) : Int)) (D.setIfInBounds j d[i]!) (by simpa using hDs) (by omega) hj (fun k hk => by
    rw [gset D j k _ (by omega), gset D j k _ (by omega)]
    by_cases e : k = j
    · subst e; rw [if_pos rfl, if_pos rfl, if_pos rfl]; rfl
    · rw [if_neg e, if_neg e, if_neg e])
  rw [hD] at h4
  exact h4

set_option maxHeartbeats 4000000 in
theorem swap_p (w : World) (h : Hp w B q cap n d) (hn : n ≤ 4294967296) (i j : Nat) (hi : i < n) (hj : j < n) :
    Calls Tryd.prog 141 #[rvp q n cap, .int .i64 i, .int .i64 j] w (SP w B q cap n (swp d i j)) := by
  have c1 := h.c0 hi
  have c2 := h.c1 hi
  have c3 := h.c0 hj
  have c4 := h.c1 hj
  have hf := h.frozen
  have hiz : (i : Int) < (n : Int) := by omega
  have hjz : (j : Int) < (n : Int) := by omega
  have H := hid h
  clear h
  obtain ⟨x1, hx1⟩ : ∃ x : Int, x = ((d[i]!.1 : Nat) : Int) := ⟨_, rfl⟩
  obtain ⟨x2, hx2⟩ : ∃ x : Int, x = ((d[i]!.2 : Nat) : Int) := ⟨_, rfl⟩
  obtain ⟨y1, hy1⟩ : ∃ x : Int, x = ((d[j]!.1 : Nat) : Int) := ⟨_, rfl⟩
  obtain ⟨y2, hy2⟩ : ∃ x : Int, x = ((d[j]!.2 : Nat) : Int) := ⟨_, rfl⟩
  rw [← hx1] at c1
  rw [← hx2] at c2
  rw [← hy1] at c3
  rw [← hy2] at c4
  have HX1 := hid hx1
  have HX2 := hid hx2
  have HY1 := hid hy1
  have HY2 := hid hy2
  clear hx1 hx2 hy1 hy2
  obtain ⟨u3, hu3⟩ : ∃ u, ((w.setCell ⟨q, i * 2, none⟩ (.int .i64 y1)).setCell ⟨q, i * 2 + 1, none⟩ (.int .i64 y2)).cell? ⟨q, j * 2, none⟩ = some u := by
    obtain ⟨u, hu⟩ := cell?_setCell_some (w := w) (p := ⟨q, i * 2, none⟩) (x := .int .i64 y1) (q := ⟨q, j * 2, none⟩) c3
    exact cell?_setCell_some hu
  obtain ⟨u4, hu4⟩ : ∃ u, (((w.setCell ⟨q, i * 2, none⟩ (.int .i64 y1)).setCell ⟨q, i * 2 + 1, none⟩ (.int .i64 y2)).setCell ⟨q, j * 2, none⟩ (.int .i64 x1)).cell? ⟨q, j * 2 + 1, none⟩ = some u := by
    obtain ⟨u, hu⟩ := cell?_setCell_some (w := w) (p := ⟨q, i * 2, none⟩) (x := .int .i64 y1) (q := ⟨q, j * 2 + 1, none⟩) c4
    obtain ⟨u, hu⟩ := cell?_setCell_some (p := ⟨q, i * 2 + 1, none⟩) (x := .int .i64 y2) hu
    exact cell?_setCell_some hu
  go_enter Tryd.func141, Tryd.ntmps141
  go_wp2
  go_region
  all_goals (try go_wp2)
  all_goals go_end0
  all_goals exact ⟨rfl, (by rw [HX1.out, HX2.out, HY1.out, HY2.out]; exact (swap_hp H.out hi hj).drewN 1), ((((Kp.refl (fun k => k = q) _).drewN 1 |>.setCell (a := ⟨q, i * 2, none⟩) (.inl rfl) _).setCell (a := ⟨q, i * 2 + 1, none⟩) (.inl rfl) _).setCell (a := ⟨q, j * 2, none⟩) (.inl rfl) _).setCell (a := ⟨q, j * 2 + 1, none⟩) (.inl rfl) _⟩

/-- 'Swap', as a walk meets it. -/
theorem swapAt (w : World) (h : Hp w B q cap n d) (hn : n ≤ 4294967296) (i j : Nat) (hi : i < n) (hj : j < n) {x y : Int} (hx : x = i) (hy : y = j) :
    Calls Tryd.prog 141 #[rvp q n cap, .int .i64 x, .int .i64 y] w fun e w' => e = .returned (.tuple #[]) ∧ Hid (Hp w' B q cap n (swp d i j)) ∧ Hid (Kp (fun k => k = q) w w') := by
  subst hx; subst hy
  exact swap_p w h hn i j hi hj
end
end Go.Proofs.YtkocpijloiamcaaDoor

/- The pairs of BD16 as a list: what an added pair does to it; a sorted permutation of it is the list itself. -/
namespace Go.Proofs.YtkocpijloiamcaaDoor
set_option linter.unusedVariables false
set_option linter.unusedSimpArgs false
open Go.Sort

section
variable {cl : Nat → Nat} {n : Nat}

theorem prs_sorted : (prs cl n).Pairwise (fun a b => a.1 < b.1) := by
  unfold prs
  refine List.Pairwise.filterMap (R := fun a b => a < b) _ ?_ List.pairwise_lt_range
  intro a a' h b hb b' hb'
  by_cases e : cl a = 0
  · rw [if_pos e] at hb; cases hb
  · by_cases e' : cl a' = 0
    · rw [if_pos e'] at hb'; cases hb'
    · rw [if_neg e] at hb
      rw [if_neg e'] at hb'
      cases hb; cases hb'; exact h

theorem prs_len : (prs cl n).length ≤ n := by
  unfold prs
  have := List.length_filterMap_le (fun i => if cl i = 0 then none else some (i, cl i)) (List.range n)
  simpa using this

theorem prs_mem {x : Nat × Nat} : x ∈ prs cl n ↔ x.1 < n ∧ cl x.1 ≠ 0 ∧ x.2 = cl x.1 := by
  unfold prs
  rw [List.mem_filterMap]
  constructor
  · rintro ⟨a, ha, h⟩
    by_cases e : cl a = 0
    · rw [if_pos e] at h; cases h
    · rw [if_neg e] at h
      cases h
      exact ⟨List.mem_range.1 ha, e, rfl⟩
  · rintro ⟨h1, h2, h3⟩
    refine ⟨x.1, List.mem_range.2 h1, ?_⟩
    rw [if_neg h2, ← h3]

theorem fm_congr {α β : Type} {f g : α → Option β} : ∀ {l : List α}, (∀ a, a ∈ l → f a = g a) → l.filterMap f = l.filterMap g
  | [], _ => rfl
  | a :: l, h => by
    rw [List.filterMap_cons, List.filterMap_cons, h a List.mem_cons_self, fm_congr (fun b hb => h b (List.mem_cons_of_mem _ hb))]

theorem prs_insert {o i : Nat} (ho : o < n) (h0 : cl o = 0) (hi : i ≠ 0) : (prs cl n ++ [(o, i)]).Perm (prs (fun j => if j = o then i else cl j) n) := by
  have e : List.range n = List.range o ++ o :: (List.range (n - o - 1)).map (o + 1 + ·) := by
    have h1 : n = o + (1 + (n - o - 1)) := by omega
    conv => lhs; rw [h1, List.range_add, List.range_add]
    simp [List.map_map, Function.comp_def, Nat.add_assoc]
  unfold prs
  rw [e, List.filterMap_append, List.filterMap_append, List.filterMap_cons, List.filterMap_cons, if_pos h0]
  simp only [if_true]
  rw [if_neg hi]
  have a1 : (List.range o).filterMap (fun j => if (if j = o then i else cl j) = 0 then none else some (j, if j = o then i else cl j)) = (List.range o).filterMap (fun j => if cl j = 0 then none else some (j, cl j)) := by
    refine fm_congr fun j hj => ?_
    have : j ≠ o := by have := List.mem_range.1 hj; omega
    rw [if_neg this]
  have a2 : ((List.range (n - o - 1)).map (o + 1 + ·)).filterMap (fun j => if (if j = o then i else cl j) = 0 then none else some (j, if j = o then i else cl j)) = ((List.range (n - o - 1)).map (o + 1 + ·)).filterMap (fun j => if cl j = 0 then none else some (j, cl j)) := by
    refine fm_congr fun j hj => ?_
    obtain ⟨t, _, rfl⟩ := List.mem_map.1 hj
    have : o + 1 + t ≠ o := by omega
    rw [if_neg this]
  rw [a1, a2]
  refine (List.perm_append_comm).trans ?_
  generalize (List.range o).filterMap (fun j => if cl j = 0 then none else some (j, cl j)) = A
  generalize ((List.range (n - o - 1)).map (o + 1 + ·)).filterMap (fun j => if cl j = 0 then none else some (j, cl j)) = B
  show ((o, i) :: (A ++ B)).Perm (A ++ (o, i) :: B)
  exact List.perm_middle.symm

theorem eq_of_perm : ∀ {l1 l2 : List (Nat × Nat)}, l1.Perm l2 → l1.Pairwise (fun a b => a.1 < b.1) → l2.Pairwise (fun a b => a.1 < b.1) → l1 = l2
  | [], l2, h, _, _ => by rw [List.nil_perm.1 h]
  | a :: l1, [], h, _, _ => absurd h (by simp)
  | a :: l1, b :: l2, h, h1, h2 => by
    have hab : a = b := by
      apply Classical.byContradiction
      intro hne
      have m1 : a ∈ b :: l2 := h.mem_iff.1 List.mem_cons_self
      have m2 : b ∈ a :: l1 := h.mem_iff.2 List.mem_cons_self
      rcases List.mem_cons.1 m1 with e | m1
      · exact hne e
      rcases List.mem_cons.1 m2 with e | m2
      · exact hne e.symm
      have q1 := (List.pairwise_cons.1 h1).1 b m2
      have q2 := (List.pairwise_cons.1 h2).1 a m1
      omega
    subst hab
    rw [eq_of_perm (List.Perm.cons_inv h) (List.pairwise_cons.1 h1).2 (List.pairwise_cons.1 h2).2]

/-- A sorted permutation of pairs with openers of their own is the one list. -/
theorem sorted_is {d d' : Array (Nat × Nat)} {l : List (Nat × Nat)} {m : Nat} (hm : d.size = m) (hp : PermIn 0 m d d') (hs : SortedIn ltp 0 m d') (hl : d.toList.Perm l) (hls : l.Pairwise (fun a b => a.1 < b.1)) : d'.toList = l := by
  have hm' : d'.size = m := by rw [hp.1]; exact hm
  have e1 : (d'.extract 0 m).toList = d'.toList := by rw [← hm']; simp
  have e2 : (d.extract 0 m).toList = d.toList := by rw [← hm]; simp
  have hperm : d'.toList.Perm l := by
    have := hp.2.2
    rw [e1, e2] at this
    exact this.trans hl
  refine eq_of_perm hperm ?_ hls
  have hnd : (d'.toList.map Prod.fst).Nodup := by
    have h1 : (l.map Prod.fst).Nodup := by
      rw [List.nodup_iff_pairwise_ne, List.pairwise_map]
      exact hls.imp (fun h e => by omega)
    exact ((hperm.map Prod.fst).nodup_iff).2 h1
  rw [List.pairwise_iff_getElem]
  intro i j hi hj hij
  have hi' : i < d'.size := by simpa using hi
  have hj' : j < d'.size := by simpa using hj
  have q := hs i j (Nat.zero_le _) hij (by omega)
  rw [getElem!_pos d' i hi', getElem!_pos d' j hj'] at q
  simp only [ltp, decide_eq_false_iff_not, Nat.not_lt] at q
  have hne : d'[i].1 ≠ d'[j].1 := by
    intro e
    have h2 := (List.pairwise_iff_getElem.1 (List.nodup_iff_pairwise_ne.1 hnd)) i j (by simpa using hi) (by simpa using hj) hij
    simp at h2
    exact h2 e
  show d'.toList[i].1 < d'.toList[j].1
  simp only [Array.getElem_toList]
  omega
end

section
variable {kd vl : Nat → Int} {nn : Nat → Bool}
theorem bk_off {k : Nat} (h : (bk kd vl nn k).on = false) : ∀ d, bk kd vl nn (k + d) = bk kd vl nn k
  | 0 => rfl
  | d + 1 => by
    have e := bk_off h d
    show (bk kd vl nn (k + d)).step kd vl nn (k + d) = _
    rw [e]
    unfold Bk.step
    rw [if_pos h]
end
end Go.Proofs.YtkocpijloiamcaaDoor

/- N0 in plain Lean: the brackets of a pair, and the marks behind them, get one type. No program in sight. -/
namespace Go.Proofs.YtkocpijloiamcaaDoor
set_option linter.unusedVariables false
set_option linter.unusedSimpArgs false

/-- Is there a place between two places where g is v? -/
def hasS (g : Nat → Int) (o cl : Nat) (v : Int) : Bool := decide (∃ i, i < cl ∧ o < i ∧ g i = v)

/-- The last strong value ahead of a place, s if there is none. -/
def bfr (g : Nat → Int) (s : Int) : Nat → Int
  | 0 => s
  | k + 1 => if g k ≠ 10 then g k else bfr g s k

/-- Is a place a bracket of the pair, or a mark behind one? -/
def mkB (m : Nat → Bool) (o cl i : Nat) : Bool := decide (i = o ∨ i = cl ∨ (o < i ∧ i < cl ∧ ∀ k, k < i + 1 → o < k → m k = true) ∨ (cl < i ∧ ∀ k, k < i + 1 → cl < k → m k = true))

def setB (m : Nat → Bool) (o cl : Nat) (v : Int) (c : Nat → Int) (i : Nat) : Int := if mkB m o cl i = true then v else c i

/-- N0 for one pair: g the strong value of a type (0, 1, and 10 for none), e the embedding direction. -/
def n0 (g : Int → Int) (m : Nat → Bool) (sos e : Int) (c : Nat → Int) (p : Nat × Nat) : Nat → Int :=
  if hasS (fun i => g (c i)) p.1 p.2 e = true then setB m p.1 p.2 e c
  else if hasS (fun i => g (c i)) p.1 p.2 (1 - e) = true then setB m p.1 p.2 (bfr (fun i => g (c i)) sos p.1) c
  else c

def n0s (g : Int → Int) (m : Nat → Bool) (sos e : Int) (c : Nat → Int) (l : List (Nat × Nat)) : Nat → Int := l.foldl (n0 g m sos e) c

/-- The strong value of a class, of a number. -/
def gs (v : Int) : Int := if v = 2 ∨ v = 5 ∨ v = 13 ∨ v = 1 then 1 else if v = 0 then 0 else 10

theorem gs_cases (v : Int) : gs v = 0 ∨ gs v = 1 ∨ gs v = 10 := by
  unfold gs
  split
  · exact .inr (.inl rfl)
  · split
    · exact .inl rfl
    · exact .inr (.inr rfl)

theorem bfr_side {g : Nat → Int} {s : Int} (hs : s = 0 ∨ s = 1) (hg : ∀ i, g i = 0 ∨ g i = 1 ∨ g i = 10) : ∀ k, bfr g s k = 0 ∨ bfr g s k = 1
  | 0 => hs
  | k + 1 => by
    show (if g k ≠ 10 then g k else bfr g s k) = 0 ∨ (if g k ≠ 10 then g k else bfr g s k) = 1
    have := hg k
    by_cases h : g k ≠ 10
    · rw [if_pos h]; omega
    · rw [if_neg h]; exact bfr_side hs hg k

theorem hasS_of {g : Nat → Int} {o cl i : Nat} {v : Int} (h1 : i < cl) (h2 : o < i) (h3 : g i = v) : hasS g o cl v = true := decide_eq_true ⟨i, h1, h2, h3⟩
theorem hasS_no {g : Nat → Int} {o cl : Nat} {v : Int} (h : ∀ i, o < i → i < cl → g i ≠ v) : hasS g o cl v = false := decide_eq_false (fun ⟨i, h1, h2, h3⟩ => h i h2 h1 h3)

theorem mkB_o {m : Nat → Bool} {o cl : Nat} : mkB m o cl o = true := decide_eq_true (.inl rfl)
theorem mkB_c {m : Nat → Bool} {o cl : Nat} : mkB m o cl cl = true := decide_eq_true (.inr (.inl rfl))

/-- Marks behind the opener up to k, those behind the closer up to l. -/
def prB (o cl k l i : Nat) : Bool := decide (i = o ∨ i = cl ∨ (o < i ∧ i < k) ∨ (cl < i ∧ i < l))

theorem prB_mk {m : Nat → Bool} {o cl k l n i : Nat} (hi : i < n) (hko : o < k) (hkc : k ≤ cl) (hm1 : ∀ i, o < i → i < k → m i = true) (he1 : k = cl ∨ m k = false) (hlc : cl < l) (hm2 : ∀ i, cl < i → i < l → m i = true) (he2 : l = n ∨ m l = false) :
    prB o cl k l i = mkB m o cl i := by
  unfold prB mkB
  rw [Bool.eq_iff_iff, decide_eq_true_iff, decide_eq_true_iff]
  constructor
  · rintro (h | h | ⟨h1, h2⟩ | ⟨h1, h2⟩)
    · exact .inl h
    · exact .inr (.inl h)
    · exact .inr (.inr (.inl ⟨h1, by omega, fun j hj hj2 => hm1 j hj2 (by omega)⟩))
    · exact .inr (.inr (.inr ⟨h1, fun j hj hj2 => hm2 j hj2 (by omega)⟩))
  · rintro (h | h | ⟨h1, h2, h3⟩ | ⟨h1, h2⟩)
    · exact .inl h
    · exact .inr (.inl h)
    · refine .inr (.inr (.inl ⟨h1, ?_⟩))
      rcases he1 with e | e
      · omega
      · apply Classical.byContradiction
        intro hc
        have := h3 k (by omega) hko
        rw [e] at this; cases this
    · refine .inr (.inr (.inr ⟨h1, ?_⟩))
      rcases he2 with e | e
      · omega
      · apply Classical.byContradiction
        intro hc
        have := h2 l (by omega) hlc
        rw [e] at this; cases this

theorem prB_start {o cl i : Nat} : prB o cl (o + 1) (cl + 1) i = decide (i = o ∨ i = cl) := by
  unfold prB
  rw [Bool.eq_iff_iff, decide_eq_true_iff, decide_eq_true_iff]
  omega

theorem prB_k {o cl k l i : Nat} (h1 : o < k) (h2 : i ≠ k) : prB o cl (k + 1) l i = prB o cl k l i := by
  unfold prB
  rw [Bool.eq_iff_iff, decide_eq_true_iff, decide_eq_true_iff]
  omega
theorem prB_kk {o cl k l : Nat} (h1 : o < k) : prB o cl (k + 1) l k = true := by
  unfold prB
  rw [decide_eq_true_iff]; omega
theorem prB_l {o cl k l i : Nat} (h1 : cl < l) (h2 : i ≠ l) : prB o cl k (l + 1) i = prB o cl k l i := by
  unfold prB
  rw [Bool.eq_iff_iff, decide_eq_true_iff, decide_eq_true_iff]
  omega
theorem prB_ll {o cl k l : Nat} (h1 : cl < l) : prB o cl k (l + 1) l = true := by
  unfold prB
  rw [decide_eq_true_iff]; omega
end Go.Proofs.YtkocpijloiamcaaDoor
