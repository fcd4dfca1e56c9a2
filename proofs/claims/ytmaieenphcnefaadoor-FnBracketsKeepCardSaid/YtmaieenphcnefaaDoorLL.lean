/- Lists of lists in memory: a slice of slices of ints that the call itself makes. No program in sight but for the types' rows. -/
import Derived.Test.YtmaieenphcnefaaDoorRet
import Derived.Test.YtmaieenphcnefaaDoorInfo
import Derived.Lib.Hide
namespace Go.Proofs.YtmaieenphcnefaaDoor
open Go.RowKit
set_option linter.unusedVariables false

/-- A list of places as cells. -/
def cellsOf (l : List Nat) : Nat → Value := fun i => .int .i64 ((l.getD i 0 : Nat) : Int)

theorem cellsOf_snoc (l : List Nat) (k : Nat) (i : Nat) : cellsOf (l ++ [k]) i = if i = l.length then .int .i64 (k : Int) else cellsOf l i := by
  unfold cellsOf
  by_cases e : i = l.length
  · rw [if_pos e, e, List.getD_eq_getElem?_getD, List.getElem?_append_right (Nat.le_refl _)]; simp
  · rw [if_neg e]
    by_cases h : i < l.length
    · rw [List.getD_eq_getElem?_getD, List.getElem?_append_left h, List.getD_eq_getElem?_getD]
    · rw [List.getD_eq_getElem?_getD, List.getD_eq_getElem?_getD, List.getElem?_eq_none (by simp; omega), List.getElem?_eq_none (by omega)]

theorem cellsOf_app (A r : List Nat) (i : Nat) : cellsOf (A ++ r) i = if i < A.length then cellsOf A i else cellsOf r (i - A.length) := by
  unfold cellsOf
  by_cases h : i < A.length
  · rw [if_pos h, List.getD_eq_getElem?_getD, List.getElem?_append_left h, List.getD_eq_getElem?_getD]
  · rw [if_neg h, List.getD_eq_getElem?_getD, List.getElem?_append_right (by omega), List.getD_eq_getElem?_getD]

/-- The slice value v holds the rows R: each row in a block of its own, none the outer one's. -/
def LL (w : World) (base : Nat) (v : Value) (R : List (List Nat)) : Prop :=
  ∃ f : Nat → Value, Gr w base 22 v R.length f ∧ (∀ j, j < R.length → Gr w base 3 (f j) (R.getD j []).length (cellsOf (R.getD j []))) ∧
    (∀ j, j < R.length → Apart v (f j)) ∧ (∀ j k, j < R.length → k < R.length → j ≠ k → Apart (f j) (f k))

/-- .. as it is read. -/
def SeesLL (w : World) (ao : Option Addr) (b o c : Nat) (R : List (List Nat)) : Prop :=
  ∃ f : Nat → Value, Sees w ao b o R.length c f ∧ ∀ j, j < R.length → ∃ a b o c, f j = .slice a (R.getD j []).length c ∧ Sees w a b o (R.getD j []).length c (cellsOf (R.getD j []))

section
variable {w w' : World} {base : Nat} {v : Value} {R : List (List Nat)}

theorem LL.since (h : LL w base v R) (s : w.Since w.heap.size w') : LL w' base v R := by
  obtain ⟨f, h1, h2, h3, h4⟩ := h
  exact ⟨f, h1.since s, fun j hj => (h2 j hj).since s, h3, h4⟩

/-- Where some blocks may have turned, but none of these. -/
theorem LL.kept {S : Nat → Prop} (h : LL w base v R) (s : Kp S w w') (h1 : ∀ k, v.ownBlock = some k → ¬ S k) (h2 : ∀ f : Nat → Value, (∀ j, j < R.length → Gr w base 3 (f j) (R.getD j []).length (cellsOf (R.getD j []))) → Gr w base 22 v R.length f → ∀ j, j < R.length → ∀ k, (f j).ownBlock = some k → ¬ S k) : LL w' base v R := by
  obtain ⟨f, q1, q2, q3, q4⟩ := h
  exact ⟨f, q1.kept' (fun k hk => s.block k (q1.ge k hk).2 (h1 k hk)), fun j hj => (q2 j hj).kept' (fun k hk => s.block k ((q2 j hj).ge k hk).2 (h2 f q2 q1 j hj k hk)), q3, q4⟩

theorem Gr.len {n : Nat} {f : Nat → Value} {e : TypeId} (h : Gr w base e v n f) : ∃ ao c, v = .slice ao n c := by
  obtain ⟨ao, b, c, rfl, _, _⟩ := h.sees
  exact ⟨ao, c, rfl⟩

theorem Gr.one {n : Nat} {f : Nat → Value} {e : TypeId} (h : Gr w base e v n f) : v.oneCell' = true := by
  obtain ⟨ao, c, rfl⟩ := h.len
  rfl

theorem LL.sees {ao : Option Addr} {n c : Nat} (h : LL w base (.slice ao n c) R) : n = R.length ∧ ∃ b, base ≤ b ∧ SeesLL w ao b 0 c R := by
  obtain ⟨f, h1, h2, _, _⟩ := h
  obtain ⟨ao', b, c', hv, hb, hs⟩ := h1.sees
  simp only [Value.slice.injEq] at hv
  obtain ⟨rfl, rfl, rfl⟩ := hv
  refine ⟨rfl, b, hb, f, hs, fun j hj => ?_⟩
  obtain ⟨a1, b1, c1, hv1, _, hs1⟩ := (h2 j hj).sees
  exact ⟨a1, b1, 0, c1, hv1, hs1⟩

theorem SeesLL.since {ao : Option Addr} {b o c : Nat} (h : SeesLL w ao b o c R) (s : w.Since w.heap.size w') : SeesLL w' ao b o c R := by
  obtain ⟨f, h1, h2⟩ := h
  refine ⟨f, h1.since s, fun j hj => ?_⟩
  obtain ⟨a1, b1, o1, c1, hv, hs⟩ := h2 j hj
  exact ⟨a1, b1, o1, c1, hv, hs.since s⟩

theorem LL.form (h : LL w base v R) : ∃ ao c, v = .slice ao R.length c := by
  obtain ⟨f, h1, _⟩ := h
  exact h1.len

/-- A row more: behind the append of the outer slice. -/
theorem LL.push {v' u : Value} {f : Nat → Value} {r : List Nat} (h1 : Gr w' base 22 v' (R.length + 1) (fun i => if i = R.length then u else f i))
    (h2 : ∀ j, j < R.length → Gr w' base 3 (f j) (R.getD j []).length (cellsOf (R.getD j []))) (h3 : ∀ j, j < R.length → Apart v' (f j)) (h4 : ∀ j k, j < R.length → k < R.length → j ≠ k → Apart (f j) (f k))
    (hu : Gr w' base 3 u r.length (cellsOf r)) (h5 : Apart v' u) (h6 : ∀ j, j < R.length → Apart (f j) u) : LL w' base v' (R ++ [r]) := by
  have hl : (R ++ [r]).length = R.length + 1 := by simp
  have ga : ∀ j, j < R.length → (R ++ [r]).getD j [] = R.getD j [] := fun j hj => by
    rw [List.getD_eq_getElem?_getD, List.getElem?_append_left hj, List.getD_eq_getElem?_getD]
  have gb : (R ++ [r]).getD R.length [] = r := by
    rw [List.getD_eq_getElem?_getD, List.getElem?_append_right (Nat.le_refl _)]; simp
  refine ⟨fun i => if i = R.length then u else f i, by rw [hl]; exact h1, fun j hj => ?_, fun j hj => ?_, fun j k hj hk hne => ?_⟩
  · rw [hl] at hj
    by_cases e : j = R.length
    · subst e; (try dsimp only); rw [if_pos rfl, gb]; exact hu
    · (try dsimp only); rw [if_neg e, ga j (by omega)]; exact h2 j (by omega)
  · rw [hl] at hj
    by_cases e : j = R.length
    · (try dsimp only); rw [if_pos e]; exact h5
    · (try dsimp only); rw [if_neg e]; exact h3 j (by omega)
  · rw [hl] at hj hk
    (try dsimp only)
    by_cases e1 : j = R.length
    · rw [if_pos e1, if_neg (by omega)]; exact (h6 k (by omega)).symm
    · rw [if_neg e1]
      by_cases e2 : k = R.length
      · rw [if_pos e2]; exact h6 j (by omega)
      · rw [if_neg e2]; exact h4 j k (by omega) (by omega) hne

theorem LL.nil (w : World) (base : Nat) (v : Value) (f : Nat → Value) (h : Gr w base 22 v 0 f) : LL w base v [] :=
  ⟨f, h, fun j hj => absurd hj (Nat.not_lt_zero _), fun j hj => absurd hj (Nat.not_lt_zero _), fun j _ hj => absurd hj (Nat.not_lt_zero _)⟩
end

/-- Lists and one more row that is not among them yet. -/
structure LLp (w : World) (base : Nat) (v : Value) (R : List (List Nat)) (u : Value) (r : List Nat) (f : Nat → Value) : Prop where
  outer : Gr w base 22 v R.length f
  rows : ∀ j, j < R.length → Gr w base 3 (f j) (R.getD j []).length (cellsOf (R.getD j []))
  apart : ∀ j, j < R.length → Apart v (f j)
  pair : ∀ j k, j < R.length → k < R.length → j ≠ k → Apart (f j) (f k)
  row : Gr w base 3 u r.length (cellsOf r)
  ou : Apart v u
  ru : ∀ j, j < R.length → Apart (f j) u

section
variable {w w' : World} {base : Nat} {v u v' u' : Value} {R : List (List Nat)} {r : List Nat} {f : Nat → Value}

theorem LLp.ll (h : LLp w base v R u r f) : LL w base v R := ⟨f, h.outer, h.rows, h.apart, h.pair⟩

theorem LLp.alloc (h : LLp w base v R u r f) (x : Obj) : LLp (w.alloc x) base v R u r f := ⟨h.outer.alloc x, fun j hj => (h.rows j hj).alloc x, h.apart, h.pair, h.row.alloc x, h.ou, h.ru⟩

theorem LLp.since (h : LLp w base v R u r f) (s : w.Since w.heap.size w') : LLp w' base v R u r f := ⟨h.outer.since s, fun j hj => (h.rows j hj).since s, h.apart, h.pair, h.row.since s, h.ou, h.ru⟩

theorem apart_nil (v : Value) : Apart v (.slice none 0 0) := fun k _ h => by simp [Value.ownBlock] at h

/-- 'append(all, run)': the row is among them. -/
theorem LLp.pushOuter {x : Obj} (h : LLp w base v R u r f) (h1 : Gr w' base 22 v' (R.length + 1) (fun i => if i = R.length then u else f i)) (hg : (w.alloc x).grownBy w' v.ownBlock)
    (hat : v'.ownBlock = v.ownBlock ∨ v'.ownBlock = some (w.heap.size + 1)) : LLp w' base v' (R ++ [r]) (.slice none 0 0) [] (fun i => if i = R.length then u else f i) := by
  have hrows : ∀ j, j < R.length → Gr w' base 3 (f j) (R.getD j []).length (cellsOf (R.getD j [])) := fun j hj => ((h.rows j hj).alloc x).apart hg (h.apart j hj)
  have hu : Gr w' base 3 u r.length (cellsOf r) := (h.row.alloc x).apart hg h.ou
  have ha : ∀ j, j < R.length → Apart v' (f j) := fun j hj => (h.apart j hj).push hat (fun k hk => by have := ((h.rows j hj).ge k hk).2; omega)
  have hau : Apart v' u := h.ou.push hat (fun k hk => by have := (h.row.ge k hk).2; omega)
  have hl : (R ++ [r]).length = R.length + 1 := by simp
  have ga : ∀ j, j < R.length → (R ++ [r]).getD j [] = R.getD j [] := fun j hj => by
    rw [List.getD_eq_getElem?_getD, List.getElem?_append_left hj, List.getD_eq_getElem?_getD]
  have gb : (R ++ [r]).getD R.length [] = r := by
    rw [List.getD_eq_getElem?_getD, List.getElem?_append_right (Nat.le_refl _)]; simp
  refine ⟨by rw [hl]; exact h1, fun j hj => ?_, fun j hj => ?_, fun j k hj hk hne => ?_, Gr.nil _ _ _ _, apart_nil _, fun _ _ => apart_nil _⟩
  · rw [hl] at hj
    by_cases e : j = R.length
    · subst e; (try dsimp only); rw [if_pos rfl, gb]; exact hu
    · (try dsimp only); rw [if_neg e, ga j (by omega)]; exact hrows j (by omega)
  · rw [hl] at hj
    by_cases e : j = R.length
    · (try dsimp only); rw [if_pos e]; exact hau
    · (try dsimp only); rw [if_neg e]; exact ha j (by omega)
  · rw [hl] at hj hk
    (try dsimp only)
    by_cases e1 : j = R.length
    · rw [if_pos e1, if_neg (by omega)]; exact (h.ru k (by omega)).symm
    · rw [if_neg e1]
      by_cases e2 : k = R.length
      · rw [if_pos e2]; exact h.ru j (by omega)
      · rw [if_neg e2]; exact h.pair j k (by omega) (by omega) hne

/-- 'append(run, k)'. -/
theorem LLp.pushRow {x : Obj} {k : Nat} (h : LLp w base v R u r f) (h1 : Gr w' base 3 u' (r.length + 1) (fun i => if i = r.length then .int .i64 (k : Int) else cellsOf r i)) (hg : (w.alloc x).grownBy w' u.ownBlock)
    (hat : u'.ownBlock = u.ownBlock ∨ u'.ownBlock = some (w.heap.size + 1)) : LLp w' base v R u' (r ++ [k]) f := by
  have hl : (r ++ [k]).length = r.length + 1 := by simp
  refine ⟨(h.outer.alloc x).apart hg h.ou.symm, fun j hj => ((h.rows j hj).alloc x).apart hg (h.ru j hj).symm, h.apart, h.pair, by rw [hl]; exact h1.congr (fun i _ => (cellsOf_snoc r k i).symm), ?_, fun j hj => ?_⟩
  · exact (h.ou.symm.push hat (fun k hk => by have := (h.outer.ge k hk).2; omega)).symm
  · exact ((h.ru j hj).symm.push hat (fun k hk => by have := ((h.rows j hj).ge k hk).2; omega)).symm

/-- A row out of the middle of nothing: the pending row is new. -/
theorem LL.pend (h : LL w base v R) : ∃ f, LLp w base v R (.slice none 0 0) [] f := by
  obtain ⟨f, h1, h2, h3, h4⟩ := h
  exact ⟨f, h1, h2, h3, h4, Gr.nil _ _ _ _, apart_nil _, fun _ _ => apart_nil _⟩

theorem getD_snoc {A : List (List Nat)} {r : List Nat} (j : Nat) : (A ++ [r]).getD j [] = if j = A.length then r else A.getD j [] := by
  by_cases e : j = A.length
  · rw [if_pos e, e, List.getD_eq_getElem?_getD, List.getElem?_append_right (Nat.le_refl _)]; simp
  · rw [if_neg e]
    by_cases h : j < A.length
    · rw [List.getD_eq_getElem?_getD, List.getElem?_append_left h, List.getD_eq_getElem?_getD]
    · rw [List.getD_eq_getElem?_getD, List.getD_eq_getElem?_getD, List.getElem?_eq_none (by simp; omega), List.getElem?_eq_none (by omega)]

/-- 'all[last] = append(all[last], k)', behind the append and the store. -/
theorem LL.setLast {A : List (List Nat)} {q cap k : Nat} {x : Obj} (h1 : Gr w base 22 (.slice (some ⟨q, 0, none⟩) (A.length + 1) cap) (A.length + 1) f)
    (h2 : ∀ j, j < A.length + 1 → Gr w base 3 (f j) ((A ++ [r]).getD j []).length (cellsOf ((A ++ [r]).getD j []))) (h3 : ∀ j, j < A.length + 1 → Apart (.slice (some ⟨q, 0, none⟩) (A.length + 1) cap) (f j))
    (h4 : ∀ j k, j < A.length + 1 → k < A.length + 1 → j ≠ k → Apart (f j) (f k)) (hr : Gr w' base 3 u' (r.length + 1) (fun i => if i = r.length then .int .i64 (k : Int) else cellsOf r i)) (hg : (w.alloc x).grownBy w' (f A.length).ownBlock)
    (hat : u'.ownBlock = (f A.length).ownBlock ∨ u'.ownBlock = some (w.heap.size + 1)) :
    LL (w'.setCell ⟨q, A.length, none⟩ u') base (.slice (some ⟨q, 0, none⟩) (A.length + 1) cap) (A ++ [r ++ [k]]) := by
  have hl : (A ++ [r ++ [k]]).length = A.length + 1 := by simp
  have hqu : ∀ k, u'.ownBlock = some k → k ≠ q := fun k hk e => by
    subst e
    rcases hat with e | e
    · exact h3 A.length (by omega) k rfl (by rw [← e]; exact hk)
    · rw [e] at hk
      have := (h1.ge k rfl).2
      simp only [Option.some.injEq] at hk
      omega
  have hfq : ∀ j, j < A.length + 1 → ∀ k, (f j).ownBlock = some k → k ≠ q := fun j hj k hk e => by subst e; exact h3 j hj k rfl hk
  have ho := ((h1.alloc x).apart hg (h3 A.length (by omega)).symm).set A.length u'
  refine ⟨fun j => if j = A.length then u' else f j, by rw [hl]; exact ho, fun j hj => ?_, fun j hj => ?_, fun j k hj hk hne => ?_⟩
  · rw [hl] at hj
    rw [getD_snoc]
    by_cases e : j = A.length
    · subst e
      (try dsimp only)
      rw [if_pos rfl, if_pos rfl]
      have hl2 : (r ++ [k]).length = r.length + 1 := by simp
      rw [hl2]
      exact (hr.kept' (fun k hk => Go.Deep.blk_setCell_other _ _ _ _ (by show k ≠ q; exact hqu k hk))).congr (fun i _ => (cellsOf_snoc r k i).symm)
    · (try dsimp only)
      rw [if_neg e, if_neg e]
      have h5 := h2 j hj
      rw [getD_snoc, if_neg e] at h5
      exact ((h5.alloc x).apart hg (h4 A.length j (by omega) hj (fun q => e q.symm))).kept' (fun k hk => Go.Deep.blk_setCell_other _ _ _ _ (by show k ≠ q; exact hfq j hj k hk))
  · rw [hl] at hj
    (try dsimp only)
    by_cases e : j = A.length
    · rw [if_pos e]
      intro k hk1 hk2
      simp only [Value.ownBlock, Option.some.injEq] at hk1
      exact hqu k hk2 hk1.symm
    · rw [if_neg e]; exact h3 j hj
  · rw [hl] at hj hk
    (try dsimp only)
    have hh : ∀ j, j < A.length → Apart u' (f j) := fun j hj => (h4 A.length j (by omega) (by omega) (by omega)).push hat (fun k hk => by have := ((h2 j (by omega)).ge k hk).2; omega)
    by_cases e1 : j = A.length
    · rw [if_pos e1, if_neg (by omega)]; exact hh k (by omega)
    · rw [if_neg e1]
      by_cases e2 : k = A.length
      · rw [if_pos e2]; exact (hh j (by omega)).symm
      · rw [if_neg e2]; exact h4 j k hj hk hne
end

/-- A list of lists comes back that the call has made. -/
def RetLL (w : World) (R : List (List Nat)) (e : Ending) (w' : World) : Prop := ∃ v, e = .returned v ∧ LL w' w.heap.size v R ∧ w.Since w.heap.size w'

/-! ### Level runs in plain Lean -/

/-- The level of the last character ahead of k that is not removed; -1 if there is none. -/
def lastL (lv : Nat → Int) : Nat → Int
  | 0 => -1
  | k + 1 => if lv k = -1 then lastL lv k else lv k

/-- The level runs of the first k characters: those that are done, and the last one. -/
def rs (lv : Nat → Int) : Nat → List (List Nat) × List Nat
  | 0 => ([], [])
  | k + 1 => if lv k = -1 then rs lv k else if lv k = lastL lv k then ((rs lv k).1, (rs lv k).2 ++ [k]) else (if lastL lv k = -1 then (rs lv k).1 else (rs lv k).1 ++ [(rs lv k).2], [k])

def runs (lv : Nat → Int) (n : Nat) : List (List Nat) := if lastL lv n = -1 then (rs lv n).1 else (rs lv n).1 ++ [(rs lv n).2]

theorem rs_rem {lv : Nat → Int} {k : Nat} (h : lv k = -1) : rs lv (k + 1) = rs lv k ∧ lastL lv (k + 1) = lastL lv k := by
  constructor
  · show (if lv k = -1 then rs lv k else _) = _
    rw [if_pos h]
  · show (if lv k = -1 then lastL lv k else _) = _
    rw [if_pos h]
theorem lastL_of {lv : Nat → Int} {k : Nat} (h : lv k ≠ -1) : lastL lv (k + 1) = lv k := by
  show (if lv k = -1 then lastL lv k else _) = _
  rw [if_neg h]
theorem rs_same {lv : Nat → Int} {k : Nat} (h : lv k ≠ -1) (h2 : lv k = lastL lv k) : rs lv (k + 1) = ((rs lv k).1, (rs lv k).2 ++ [k]) := by
  show (if lv k = -1 then rs lv k else if lv k = lastL lv k then _ else _) = _
  rw [if_neg h, if_pos h2]
theorem rs_new {lv : Nat → Int} {k : Nat} (h : lv k ≠ -1) (h2 : lv k ≠ lastL lv k) : rs lv (k + 1) = (if lastL lv k = -1 then (rs lv k).1 else (rs lv k).1 ++ [(rs lv k).2], [k]) := by
  show (if lv k = -1 then rs lv k else if lv k = lastL lv k then _ else _) = _
  rw [if_neg h, if_neg h2]

theorem rs_empty {lv : Nat → Int} : ∀ k, lastL lv k = -1 → rs lv k = ([], [])
  | 0, _ => rfl
  | k + 1, h => by
    by_cases e : lv k = -1
    · rw [(rs_rem e).2] at h; rw [(rs_rem e).1]; exact rs_empty k h
    · rw [lastL_of e] at h; exact absurd h e

theorem rs_last_ne {lv : Nat → Int} : ∀ k, lastL lv k ≠ -1 → (rs lv k).2 ≠ []
  | 0, h => absurd rfl h
  | k + 1, h => by
    by_cases e : lv k = -1
    · rw [(rs_rem e).2] at h; rw [(rs_rem e).1]; exact rs_last_ne k h
    · by_cases e2 : lv k = lastL lv k
      · rw [rs_same e e2]; simp
      · rw [rs_new e e2]; simp

/-- As the reference goes. -/
theorem runs_step {lv : Nat → Int} {k : Nat} : runs lv (k + 1) = if lv k = -1 then runs lv k else if lv k = lastL lv k then (rs lv k).1 ++ [(rs lv k).2 ++ [k]] else runs lv k ++ [[k]] := by
  unfold runs
  by_cases e : lv k = -1
  · rw [(rs_rem e).1, (rs_rem e).2, if_pos e]
  · rw [if_neg e, lastL_of e, if_neg e]
    by_cases e2 : lv k = lastL lv k
    · rw [rs_same e e2, if_pos e2]
    · rw [rs_new e e2, if_neg e2]

theorem rs_len (lv : Nat → Int) : ∀ k, (rs lv k).1.length + (rs lv k).2.length ≤ k ∧ ((rs lv k).1.length + (if lastL lv k = -1 then 0 else 1) ≤ k)
  | 0 => ⟨Nat.le_refl _, by show 0 + (if (-1 : Int) = -1 then 0 else 1) ≤ 0; rw [if_pos rfl]; omega⟩
  | k + 1 => by
    have ih := rs_len lv k
    by_cases e : lv k = -1
    · rw [(rs_rem e).1, (rs_rem e).2]; omega
    · rw [lastL_of e, if_neg e]
      by_cases e2 : lv k = lastL lv k
      · rw [rs_same e e2]
        rw [← e2, if_neg e] at ih
        simp; omega
      · rw [rs_new e e2]
        by_cases e3 : lastL lv k = -1
        · have h0 := rs_empty k e3
          rw [if_pos e3, h0]; simp
        · have hne := rs_last_ne k e3
          have hl : 0 < (rs lv k).2.length := List.length_pos_iff.2 hne
          rw [if_neg e3] at ih ⊢
          simp; omega

theorem runs_len (lv : Nat → Int) (n : Nat) : (runs lv n).length ≤ n := by
  have := (rs_len lv n).2
  unfold runs
  split
  · next h => rw [if_pos h] at this; omega
  · next h => rw [if_neg h] at this; simp; omega

/-- Levels that agree give the same runs. -/
theorem rs_congr {lv lv' : Nat → Int} : ∀ k, (∀ i, i < k → lv i = lv' i) → rs lv k = rs lv' k ∧ lastL lv k = lastL lv' k
  | 0, _ => ⟨rfl, rfl⟩
  | k + 1, h => by
    obtain ⟨h1, h2⟩ := rs_congr k (fun i hi => h i (by omega))
    have hk := h k (by omega)
    constructor
    · show (if lv k = -1 then rs lv k else if lv k = lastL lv k then _ else _) = (if lv' k = -1 then rs lv' k else if lv' k = lastL lv' k then _ else _)
      rw [hk, h1, h2]
    · show (if lv k = -1 then lastL lv k else lv k) = (if lv' k = -1 then lastL lv' k else lv' k)
      rw [hk, h2]

end Go.Proofs.YtmaieenphcnefaaDoor
