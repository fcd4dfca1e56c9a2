/- The bracket pairs of brackets that are opened one in the other, in plain Lean; four slices that grow side by side. -/
import Derived.Test.YtmaieenphcnefaaDoorLawP
namespace Go.Proofs.YtmaieenphcnefaaDoor
open Go.RowKit Go.Lib Go.Sort
set_option linter.unusedVariables false
set_option linter.unusedSimpArgs false

def kdD (d i : Nat) : Int := if i < d then 1 else 2

section
variable {d : Nat} {vl : Nat → Int} {nn : Nat → Bool}

theorem rev_range (k : Nat) : k :: (List.range k).reverse = (List.range (k + 1)).reverse := by
  rw [List.range_succ, List.reverse_append]; rfl

theorem deep_open (hd : d ≤ 63) (hnn : ∀ i, nn i = true) : ∀ k, k ≤ d → bk (kdD d) vl nn k = ⟨(List.range k).reverse, fun _ => 0, true⟩
  | 0, _ => rfl
  | k + 1, hk => by
    have ih := deep_open hd hnn k (by omega)
    rw [bk_open (by rw [ih]) (by unfold kdD; rw [if_pos (by omega)]) (hnn k) (by rw [ih]; simp; omega), ih, ← rev_range]

theorem deep_close (hd : d ≤ 63) (hnn : ∀ i, nn i = true) (hv : ∀ i, vl i = 40) : ∀ j, j ≤ d → bk (kdD d) vl nn (d + j) = ⟨(List.range (d - j)).reverse, fun i => if d - j ≤ i ∧ i < d then 2 * d - 1 - i else 0, true⟩
  | 0, _ => by
    rw [Nat.add_zero, deep_open hd hnn d (Nat.le_refl _)]
    congr 1
    funext i
    rw [if_neg (by omega)]
  | j + 1, hj => by
    have ih := deep_close hd hnn hv j (by omega)
    have hst : (bk (kdD d) vl nn (d + j)).st = (d - j - 1) :: (List.range (d - j - 1)).reverse := by
      rw [ih, rev_range]
      show (List.range (d - j)).reverse = (List.range (d - j - 1 + 1)).reverse
      rw [show d - j - 1 + 1 = d - j by omega]
    show bk (kdD d) vl nn (d + j + 1) = _
    rw [bk_close (c := 0) (by rw [ih]) (by unfold kdD; rw [if_neg (by omega)]) (hnn _) (by rw [hst]; simp) (fun i hi => absurd hi (Nat.not_lt_zero _)) (by rw [hv, hv]), hst, ih]
    simp only [List.drop_succ_cons, List.drop_zero, List.getD_cons_zero]
    congr 1
    funext i
    by_cases e : i = d - j - 1
    · rw [if_pos e, if_pos (by omega)]; omega
    · rw [if_neg e]
      by_cases e2 : d - j ≤ i ∧ i < d
      · rw [if_pos e2, if_pos (by omega)]
      · rw [if_neg e2, if_neg (by omega)]

theorem deep_full (hd : 63 < d) (hnn : ∀ i, nn i = true) : ∀ k, k ≤ 63 → bk (kdD d) vl nn k = ⟨(List.range k).reverse, fun _ => 0, true⟩
  | 0, _ => rfl
  | k + 1, hk => by
    have ih := deep_full hd hnn k (by omega)
    rw [bk_open (by rw [ih]) (by unfold kdD; rw [if_pos (by omega)]) (hnn k) (by rw [ih]; simp; omega), ih, ← rev_range]

def deepWant (d m : Nat) : List (List Nat) := (List.range m).map fun i => [i, 2 * d - 1 - i]

theorem deepWant_succ (d m : Nat) : deepWant d (m + 1) = deepWant d m ++ [[m, 2 * d - 1 - m]] := by
  unfold deepWant; rw [List.range_succ, List.map_append]; rfl

theorem deepWant_len (d m : Nat) : (deepWant d m).length = m := by unfold deepWant; simp

theorem prs_none {cl : Nat → Nat} (h : ∀ i, cl i = 0) : ∀ k, prs cl k = []
  | 0 => rfl
  | k + 1 => by rw [prs_succ, prs_none h k, if_pos (h k)]; rfl

theorem prs_deep {cl : Nat → Nat} (hd : 1 ≤ d) (h : ∀ i, cl i = if i < d then 2 * d - 1 - i else 0) : ∀ k, prs cl k = (List.range (min k d)).map fun i => (i, 2 * d - 1 - i)
  | 0 => by simp [prs]
  | k + 1 => by
    rw [prs_succ, prs_deep hd h k, h k]
    by_cases hk : k < d
    · rw [if_pos hk, if_neg (by omega), show min (k + 1) d = min k d + 1 by omega, List.range_succ, List.map_append, show min k d = k by omega]
      rfl
    · rw [if_neg hk, if_pos rfl, List.append_nil, show min (k + 1) d = min k d by omega]

theorem deep_pairs (hd : 1 ≤ d) (hnn : ∀ i, nn i = true) (hv : ∀ i, vl i = 40) : pairLists (prs (bk (kdD d) vl nn (2 * d)).cl (2 * d)) = deepWant d (if d ≤ 63 then d else 0) := by
  by_cases h : d ≤ 63
  · rw [if_pos h, show 2 * d = d + d by omega, deep_close h hnn hv d (Nat.le_refl _)]
    have := prs_deep (cl := fun i => if d - d ≤ i ∧ i < d then 2 * d - 1 - i else 0) hd (fun i => by
      by_cases e : i < d
      · rw [if_pos e, if_pos ⟨by omega, e⟩]
      · rw [if_neg e, if_neg (fun q => e q.2)]) (d + d)
    show pairLists (prs (fun i => if d - d ≤ i ∧ i < d then 2 * d - 1 - i else 0) (d + d)) = _
    rw [this, show min (d + d) d = d by omega]
    unfold pairLists deepWant
    rw [List.map_map]
    rfl
  · rw [if_neg h]
    have h1 := deep_full (vl := vl) (show 63 < d by omega) hnn 63 (Nat.le_refl _)
    have h2 := bk_full (kd := kdD d) (vl := vl) (nn := nn) (k := 63) (by rw [h1]) (by unfold kdD; rw [if_pos (by omega)]) (hnn _) (by rw [h1]; simp)
    have h3 := bk_off (kd := kdD d) (vl := vl) (nn := nn) (k := 64) (by rw [h2]) (2 * d - 64)
    rw [show 64 + (2 * d - 64) = 2 * d by omega] at h3
    rw [h3, h2, h1, prs_none (fun _ => rfl)]
    rfl
end

/-- Four slices side by side. -/
structure Side4 (w : World) (d k : Nat) (v3 v4 v5 v6 : Value) (wr : World) : Prop where
  g3 : Gr wr w.heap.size 3 v3 k (fun _ => .int .i64 10)
  g4 : Gr wr w.heap.size 3 v4 k (fun i => .int .i64 (kdD d i))
  g5 : Gr wr w.heap.size 3 v5 k (fun _ => .int .i64 40)
  g6 : Gr wr w.heap.size 22 v6 0 (fun _ => .slice none 0 0)
  a34 : Apart v3 v4
  a35 : Apart v3 v5
  a36 : Apart v3 v6
  a45 : Apart v4 v5
  a46 : Apart v4 v6
  a56 : Apart v5 v6
  si : w.Since w.heap.size wr

section
variable {w wr w5 : World} {base : Nat} {v v' u : Value} {e e' : TypeId} {n m : Nat} {f : Nat → Value}
theorem Gr.sideG {o : Obj} (h : Gr wr base e u n f) (ha : Apart v u) (hgr : (wr.alloc o).grownBy w5 v.ownBlock) : Gr w5 base e u n f := (h.alloc o).apart hgr ha
theorem Gr.sideA (h : Gr wr base e u n f) (ha : Apart v u) (hat : v'.ownBlock = v.ownBlock ∨ v'.ownBlock = some (wr.heap.size + 1)) : Apart v' u := ha.push hat (fun k hk => by have := (h.ge k hk).2; omega)
end
end Go.Proofs.YtmaieenphcnefaaDoor
