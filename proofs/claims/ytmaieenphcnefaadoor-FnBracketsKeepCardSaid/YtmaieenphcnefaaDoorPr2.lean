/- The pairs of BD16 as a list: what an added pair does to it; a sorted permutation of it is the list itself. -/
import Derived.Test.YtmaieenphcnefaaDoorPrP
import Derived.Test.YtmaieenphcnefaaDoorSrt1
namespace Go.Proofs.YtmaieenphcnefaaDoor
set_option linter.unusedVariables false
set_option linter.unusedSimpArgs false
open Go.Sort

section
variable {cl : Nat → Nat} {n : Nat}

theorem prs_sorted : (prs cl n).Pairwise (fun a b => a.1 < b.1) := by
  unfold prs
  refine List.Pairwise.filterMap (R := fun a b => a < b) _ ?_ List.pairwise_lt_range
  intro a a' h b hb b' hb'
  by_cases e : cl a = 0
  · rw [if_pos e] at hb; cases hb
  · by_cases e' : cl a' = 0
    · rw [if_pos e'] at hb'; cases hb'
    · rw [if_neg e] at hb
      rw [if_neg e'] at hb'
      cases hb; cases hb'; exact h

theorem prs_len : (prs cl n).length ≤ n := by
  unfold prs
  have := List.length_filterMap_le (fun i => if cl i = 0 then none else some (i, cl i)) (List.range n)
  simpa using this

theorem prs_mem {x : Nat × Nat} : x ∈ prs cl n ↔ x.1 < n ∧ cl x.1 ≠ 0 ∧ x.2 = cl x.1 := by
  unfold prs
  rw [List.mem_filterMap]
  constructor
  · rintro ⟨a, ha, h⟩
    by_cases e : cl a = 0
    · rw [if_pos e] at h; cases h
    · rw [if_neg e] at h
      cases h
      exact ⟨List.mem_range.1 ha, e, rfl⟩
  · rintro ⟨h1, h2, h3⟩
    refine ⟨x.1, List.mem_range.2 h1, ?_⟩
    rw [if_neg h2, ← h3]

theorem fm_congr {α β : Type} {f g : α → Option β} : ∀ {l : List α}, (∀ a, a ∈ l → f a = g a) → l.filterMap f = l.filterMap g
  | [], _ => rfl
  | a :: l, h => by
    rw [List.filterMap_cons, List.filterMap_cons, h a List.mem_cons_self, fm_congr (fun b hb => h b (List.mem_cons_of_mem _ hb))]

theorem prs_insert {o i : Nat} (ho : o < n) (h0 : cl o = 0) (hi : i ≠ 0) : (prs cl n ++ [(o, i)]).Perm (prs (fun j => if j = o then i else cl j) n) := by
  have e : List.range n = List.range o ++ o :: (List.range (n - o - 1)).map (o + 1 + ·) := by
    have h1 : n = o + (1 + (n - o - 1)) := by omega
    conv => lhs; rw [h1, List.range_add, List.range_add]
    simp [List.map_map, Function.comp_def, Nat.add_assoc]
  unfold prs
  rw [e, List.filterMap_append, List.filterMap_append, List.filterMap_cons, List.filterMap_cons, if_pos h0]
  simp only [if_true]
  rw [if_neg hi]
  have a1 : (List.range o).filterMap (fun j => if (if j = o then i else cl j) = 0 then none else some (j, if j = o then i else cl j)) = (List.range o).filterMap (fun j => if cl j = 0 then none else some (j, cl j)) := by
    refine fm_congr fun j hj => ?_
    have : j ≠ o := by have := List.mem_range.1 hj; omega
    rw [if_neg this]
  have a2 : ((List.range (n - o - 1)).map (o + 1 + ·)).filterMap (fun j => if (if j = o then i else cl j) = 0 then none else some (j, if j = o then i else cl j)) = ((List.range (n - o - 1)).map (o + 1 + ·)).filterMap (fun j => if cl j = 0 then none else some (j, cl j)) := by
    refine fm_congr fun j hj => ?_
    obtain ⟨t, _, rfl⟩ := List.mem_map.1 hj
    have : o + 1 + t ≠ o := by omega
    rw [if_neg this]
  rw [a1, a2]
  refine (List.perm_append_comm).trans ?_
  generalize (List.range o).filterMap (fun j => if cl j = 0 then none else some (j, cl j)) = A
  generalize ((List.range (n - o - 1)).map (o + 1 + ·)).filterMap (fun j => if cl j = 0 then none else some (j, cl j)) = B
  show ((o, i) :: (A ++ B)).Perm (A ++ (o, i) :: B)
  exact List.perm_middle.symm

theorem eq_of_perm : ∀ {l1 l2 : List (Nat × Nat)}, l1.Perm l2 → l1.Pairwise (fun a b => a.1 < b.1) → l2.Pairwise (fun a b => a.1 < b.1) → l1 = l2
  | [], l2, h, _, _ => by rw [List.nil_perm.1 h]
  | a :: l1, [], h, _, _ => absurd h (by simp)
  | a :: l1, b :: l2, h, h1, h2 => by
    have hab : a = b := by
      apply Classical.byContradiction
      intro hne
      have m1 : a ∈ b :: l2 := h.mem_iff.1 List.mem_cons_self
      have m2 : b ∈ a :: l1 := h.mem_iff.2 List.mem_cons_self
      rcases List.mem_cons.1 m1 with e | m1
      · exact hne e
      rcases List.mem_cons.1 m2 with e | m2
      · exact hne e.symm
      have q1 := (List.pairwise_cons.1 h1).1 b m2
      have q2 := (List.pairwise_cons.1 h2).1 a m1
      omega
    subst hab
    rw [eq_of_perm (List.Perm.cons_inv h) (List.pairwise_cons.1 h1).2 (List.pairwise_cons.1 h2).2]

/-- A sorted permutation of pairs with openers of their own is the one list. -/
theorem sorted_is {d d' : Array (Nat × Nat)} {l : List (Nat × Nat)} {m : Nat} (hm : d.size = m) (hp : PermIn 0 m d d') (hs : SortedIn ltp 0 m d') (hl : d.toList.Perm l) (hls : l.Pairwise (fun a b => a.1 < b.1)) : d'.toList = l := by
  have hm' : d'.size = m := by rw [hp.1]; exact hm
  have e1 : (d'.extract 0 m).toList = d'.toList := by rw [← hm']; simp
  have e2 : (d.extract 0 m).toList = d.toList := by rw [← hm]; simp
  have hperm : d'.toList.Perm l := by
    have := hp.2.2
    rw [e1, e2] at this
    exact this.trans hl
  refine eq_of_perm hperm ?_ hls
  have hnd : (d'.toList.map Prod.fst).Nodup := by
    have h1 : (l.map Prod.fst).Nodup := by
      rw [List.nodup_iff_pairwise_ne, List.pairwise_map]
      exact hls.imp (fun h e => by omega)
    exact ((hperm.map Prod.fst).nodup_iff).2 h1
  rw [List.pairwise_iff_getElem]
  intro i j hi hj hij
  have hi' : i < d'.size := by simpa using hi
  have hj' : j < d'.size := by simpa using hj
  have q := hs i j (Nat.zero_le _) hij (by omega)
  rw [getElem!_pos d' i hi', getElem!_pos d' j hj'] at q
  simp only [ltp, decide_eq_false_iff_not, Nat.not_lt] at q
  have hne : d'[i].1 ≠ d'[j].1 := by
    intro e
    have h2 := (List.pairwise_iff_getElem.1 (List.nodup_iff_pairwise_ne.1 hnd)) i j (by simpa using hi) (by simpa using hj) hij
    simp at h2
    exact h2 e
  show d'.toList[i].1 < d'.toList[j].1
  simp only [Array.getElem_toList]
  omega
end

section
variable {kd vl : Nat → Int} {nn : Nat → Bool}
theorem bk_off {k : Nat} (h : (bk kd vl nn k).on = false) : ∀ d, bk kd vl nn (k + d) = bk kd vl nn k
  | 0 => rfl
  | d + 1 => by
    have e := bk_off h d
    show (bk kd vl nn (k + d)).step kd vl nn (k + d) = _
    rw [e]
    unfold Bk.step
    rw [if_pos h]
end
end Go.Proofs.YtmaieenphcnefaaDoor
