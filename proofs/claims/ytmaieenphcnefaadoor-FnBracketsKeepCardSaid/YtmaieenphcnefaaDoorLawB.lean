/- Small laws for the statements on N0. -/
import Derived.Test.YtmaieenphcnefaaDoorSpBk
import Derived.Test.YtmaieenphcnefaaDoorLawP
import Derived.Test.YtmaieenphcnefaaDoorLieP
import Derived.Test.YtmaieenphcnefaaDoorBrJ
namespace Go.Proofs.YtmaieenphcnefaaDoor
open Go.RowKit

theorem cls_twelve {n : Int} (h : 0 ≤ n ∧ n < 23) : decide (cls n = 12) = decide (n = 12) := by
  obtain ⟨k, rfl⟩ := Int.eq_ofNat_of_zero_le h.1
  have hk : k < 23 := by omega
  have : ∀ j : Fin 23, decide (cls (j.val : Int) = 12) = decide ((j.val : Int) = 12) := by decide
  exact this ⟨k, hk⟩

section
variable {m : Nat → Bool} {s e : Int}
theorem mkB_in {o cl i : Nat} (h : mkB m o cl i = true) : i = o ∨ i = cl ∨ m i = true := by
  rcases of_decide_eq_true h with h | h | ⟨h1, _, h2⟩ | ⟨h1, h2⟩
  · exact .inl h
  · exact .inr (.inl h)
  · exact .inr (.inr (h2 i (by omega) h1))
  · exact .inr (.inr (h2 i (by omega) h1))

theorem n0_at {g : Int → Int} {c : Nat → Int} {p : Nat × Nat} (hs : s = 0 ∨ s = 1) (he : e = 0 ∨ e = 1) (hg : ∀ v, g v = 0 ∨ g v = 1 ∨ g v = 10) (i : Nat) :
    n0 g m s e c p i = c i ∨ ((n0 g m s e c p i = 0 ∨ n0 g m s e c p i = 1) ∧ (i = p.1 ∨ i = p.2 ∨ m i = true)) := by
  have hb := bfr_side (g := fun i => g (c i)) hs (fun i => hg _) p.1
  have key : ∀ v : Int, v = 0 ∨ v = 1 → setB m p.1 p.2 v c i = c i ∨ ((setB m p.1 p.2 v c i = 0 ∨ setB m p.1 p.2 v c i = 1) ∧ (i = p.1 ∨ i = p.2 ∨ m i = true)) := fun v hv => by
    unfold setB
    by_cases q : mkB m p.1 p.2 i = true
    · rw [if_pos q]; exact .inr ⟨hv, mkB_in q⟩
    · rw [if_neg q]; exact .inl rfl
  unfold n0
  split
  · exact key e he
  · split
    · exact key _ hb
    · exact .inl rfl

theorem n0_pair {g : Int → Int} {c : Nat → Int} {p : Nat × Nat} (h : c p.1 = c p.2) : n0 g m s e c p p.1 = n0 g m s e c p p.2 := by
  have key : ∀ v : Int, setB m p.1 p.2 v c p.1 = setB m p.1 p.2 v c p.2 := fun v => by
    unfold setB
    rw [if_pos mkB_o, if_pos mkB_c]
  unfold n0
  split
  · exact key e
  · split
    · exact key _
    · exact h

theorem n0s_change {g : Int → Int} (hs : s = 0 ∨ s = 1) (he : e = 0 ∨ e = 1) (hg : ∀ v, g v = 0 ∨ g v = 1 ∨ g v = 10) : ∀ (L : List (Nat × Nat)) (T : Nat → Int) (i : Nat),
    n0s g m s e T L i = T i ∨ ((n0s g m s e T L i = 0 ∨ n0s g m s e T L i = 1) ∧ ((∃ p, p ∈ L ∧ (i = p.1 ∨ i = p.2)) ∨ m i = true))
  | [], T, i => .inl rfl
  | p :: L, T, i => by
    show n0s g m s e (n0 g m s e T p) L i = T i ∨ ((n0s g m s e (n0 g m s e T p) L i = 0 ∨ n0s g m s e (n0 g m s e T p) L i = 1) ∧ _)
    rcases n0s_change hs he hg L (n0 g m s e T p) i with h | ⟨h1, h2⟩
    · rw [h]
      rcases n0_at (m := m) (c := T) (p := p) hs he hg i with h3 | ⟨h3, h4⟩
      · exact .inl h3
      · refine .inr ⟨h3, ?_⟩
        rcases h4 with h4 | h4 | h4
        · exact .inl ⟨p, List.mem_cons_self, .inl h4⟩
        · exact .inl ⟨p, List.mem_cons_self, .inr h4⟩
        · exact .inr h4
    · refine .inr ⟨h1, ?_⟩
      rcases h2 with ⟨q, hq, h3⟩ | h3
      · exact .inl ⟨q, List.mem_cons_of_mem _ hq, h3⟩
      · exact .inr h3

/-- Two pairs are one, or have no place in common. -/
def apartP (p q : Nat × Nat) : Prop := p = q ∨ (p.1 ≠ q.1 ∧ p.1 ≠ q.2 ∧ p.2 ≠ q.1 ∧ p.2 ≠ q.2)

theorem n0s_pair {g : Int → Int} (hs : s = 0 ∨ s = 1) (he : e = 0 ∨ e = 1) (hg : ∀ v, g v = 0 ∨ g v = 1 ∨ g v = 10) {P : Nat × Nat → Prop} (hm : ∀ p, P p → m p.1 = false ∧ m p.2 = false) (ha : ∀ p q, P p → P q → apartP p q) :
    ∀ (L : List (Nat × Nat)) (T : Nat → Int), (∀ p, p ∈ L → P p) → (∀ p, P p → T p.1 = T p.2) → ∀ p, P p → n0s g m s e T L p.1 = n0s g m s e T L p.2
  | [], T, _, hT, p, hp => hT p hp
  | q :: L, T, hL, hT, p, hp => by
    refine n0s_pair hs he hg hm ha L (n0 g m s e T q) (fun p h => hL p (List.mem_cons_of_mem _ h)) (fun r hr => ?_) p hp
    rcases ha r q hr (hL q List.mem_cons_self) with rfl | ⟨h1, h2, h3, h4⟩
    · exact n0_pair (hT _ hr)
    · have a1 : n0 g m s e T q r.1 = T r.1 := by
        rcases n0_at (m := m) (c := T) (p := q) hs he hg r.1 with h | ⟨_, h | h | h⟩
        · exact h
        · exact absurd h h1
        · exact absurd h h2
        · rw [(hm r hr).1] at h; cases h
      have a2 : n0 g m s e T q r.2 = T r.2 := by
        rcases n0_at (m := m) (c := T) (p := q) hs he hg r.2 with h | ⟨_, h | h | h⟩
        · exact h
        · exact absurd h h3
        · exact absurd h h4
        · rw [(hm r hr).2] at h; cases h
      rw [a1, a2]
      exact hT r hr
end

/-- Are the brackets of the first k pairs at a place? -/
def inB (P0 P1 : Nat → Nat) (k i : Nat) : Bool := decide (∃ j, j < k ∧ (i = P0 j ∨ i = P1 j))
theorem inB_zero {P0 P1 : Nat → Nat} {i : Nat} : inB P0 P1 0 i = false := decide_eq_false (fun ⟨_, h, _⟩ => absurd h (Nat.not_lt_zero _))
theorem inB_step {P0 P1 : Nat → Nat} {k i : Nat} : inB P0 P1 (k + 1) i = if i = P1 k then true else if i = P0 k then true else inB P0 P1 k i := by
  unfold inB
  by_cases h1 : i = P1 k
  · rw [if_pos h1]; exact decide_eq_true ⟨k, by omega, .inr h1⟩
  · rw [if_neg h1]
    by_cases h0 : i = P0 k
    · rw [if_pos h0]; exact decide_eq_true ⟨k, by omega, .inl h0⟩
    · rw [if_neg h0, Bool.eq_iff_iff, decide_eq_true_iff, decide_eq_true_iff]
      constructor
      · rintro ⟨j, hj, h⟩
        by_cases e : j = k
        · subst e; rcases h with h | h
          · exact absurd h h0
          · exact absurd h h1
        · exact ⟨j, by omega, h⟩
      · rintro ⟨j, hj, h⟩; exact ⟨j, by omega, h⟩

/-- What N0 keeps, over the pairs told as two functions. -/
structure KeepOk (x z : Nat → Int) (n : Nat) (N : Nat → Int) (R : List (List Nat)) (P0 P1 : Nat → Nat) : Prop where
  len : R.length ≤ n
  row : ∀ k, k < R.length → R.getD k [] = [P0 k, P1 k]
  lt : ∀ k, k < R.length → P0 k < P1 k ∧ P1 k < n
  same : ∀ k, k < R.length → N (P0 k) = N (P1 k)
  chg : ∀ i, i < n → N i = x i ∨ ((N i = 0 ∨ N i = 1) ∧ (inB P0 P1 R.length i = true ∨ z i = 12))

theorem keep_ok {x z kd vl : Nat → Int} {n : Nat} {s e : Int} (hs : s = 0 ∨ s = 1) (he : e = 0 ∨ e = 1) (hc : ∀ i, i < n → 0 ≤ x i ∧ x i < 23) (hkd : ∀ j, j < n → kd j = 0 ∨ kd j = 1 ∨ kd j = 2) (hop : ops kd n ≤ 63) (hmk : ∀ i, i < n → 0 < kd i → z i ≠ 12) :
    ∃ P0 P1, KeepOk x z n (n0s gN (fun i => decide (z i = 12)) s e x (pairsOf kd vl (fun i => cls (x i)) n)) (pairLists (pairsOf kd vl (fun i => cls (x i)) n)) P0 P1 := by
  obtain ⟨P0, P1, h⟩ := pairs_ok (vl := vl) hc hkd hop
  refine ⟨P0, P1, h.len, h.row, h.lt, ?_, ?_⟩
  · obtain ⟨L, hL⟩ : ∃ L, L = pairsOf kd vl (fun i => cls (x i)) n := ⟨_, rfl⟩
    rw [← hL] at h ⊢
    have hll : (pairLists L).length = L.length := by unfold pairLists; rw [List.length_map]
    have hget : ∀ k, k < L.length → (P0 k, P1 k) = L.getD k (0, 0) := fun k hk => by
      have h1 := h.row k (by rw [hll]; exact hk)
      rw [pairLists_getD hk] at h1
      simp only [List.cons.injEq, and_true] at h1
      rw [← h1.1, ← h1.2]
    have hin : ∀ p, p ∈ L → ∃ k, k < L.length ∧ p = (P0 k, P1 k) := fun p hp => by
      obtain ⟨k, hk, hk2⟩ := List.getElem_of_mem hp
      refine ⟨k, hk, ?_⟩
      rw [hget k hk, List.getD_eq_getElem?_getD, List.getElem?_eq_getElem hk, hk2]; rfl
    intro k hk
    rw [hll] at hk
    refine n0s_pair (g := gN) hs he (fun v => gs_cases _) (P := fun p => ∃ k, k < L.length ∧ p = (P0 k, P1 k)) ?_ ?_ L x (fun p hp => hin p hp) ?_ (P0 k, P1 k) ⟨k, hk, rfl⟩
    · rintro p ⟨j, hj, rfl⟩
      rw [← hll] at hj
      have h1 := h.lt j hj
      have h2 := h.kds j hj
      exact ⟨decide_eq_false (hmk _ (by show P0 j < n; omega) (by show 0 < kd (P0 j); omega)), decide_eq_false (hmk _ h1.2 (by show 0 < kd (P1 j); omega))⟩
    · rintro p q ⟨j, hj, rfl⟩ ⟨k, hk, rfl⟩
      rw [← hll] at hj hk
      have ne : ∀ a b, a < (pairLists L).length → b < (pairLists L).length → P0 a ≠ P1 b := fun a b ha hb e => by
        have h2 := h.kds a ha
        have h3 := h.kds b hb
        rw [e] at h2; omega
      rcases Nat.lt_trichotomy j k with e | e | e
      · have := h.two j k e hk
        exact .inr ⟨by show P0 j ≠ P0 k; omega, ne j k hj hk, fun e => ne k j hk hj e.symm, this.2.1⟩
      · subst e; exact .inl rfl
      · have := h.two k j e hj
        exact .inr ⟨by show P0 j ≠ P0 k; omega, ne j k hj hk, fun e => ne k j hk hj e.symm, fun e => this.2.1 e.symm⟩
    · rintro p ⟨j, hj, rfl⟩
      rw [← hll] at hj
      have := h.x0 j hj
      show x (P0 j) = x (P1 j)
      rw [this.1, this.2]
  · intro i hi
    rcases n0s_change (m := fun i => decide (z i = 12)) (g := gN) hs he (fun v => gs_cases _) (pairsOf kd vl (fun i => cls (x i)) n) x i with q | ⟨q1, q2⟩
    · exact .inl q
    · refine .inr ⟨q1, ?_⟩
      rcases q2 with ⟨p, hp, q⟩ | q
      · obtain ⟨k, hk, hk2⟩ := List.getElem_of_mem hp
        have hll : (pairLists (pairsOf kd vl (fun i => cls (x i)) n)).length = (pairsOf kd vl (fun i => cls (x i)) n).length := by unfold pairLists; rw [List.length_map]
        have h1 := h.row k (by rw [hll]; exact hk)
        rw [pairLists_getD hk, List.getD_eq_getElem?_getD, List.getElem?_eq_getElem hk] at h1
        simp only [Option.getD_some, hk2, List.cons.injEq, and_true] at h1
        exact .inl (decide_eq_true ⟨k, by rw [hll]; exact hk, by rw [← h1.1, ← h1.2]; exact q⟩)
      · exact .inr (of_decide_eq_true q)
end Go.Proofs.YtmaieenphcnefaaDoor
