/- Families of slices, each in a block of its own; the lists that spec.joined holds. No program in sight. -/
import Derived.Test.YtjelgbfgciaapaaDoorLL
namespace Go.Proofs.YtjelgbfgciaapaaDoor
open Go.RowKit
set_option linter.unusedVariables false

def upd {ι α : Type} [DecidableEq ι] (f : ι → α) (i0 : ι) (x : α) : ι → α := fun i => if i = i0 then x else f i

theorem upd_at {ι α : Type} [DecidableEq ι] (f : ι → α) (i0 : ι) (x : α) : upd f i0 x i0 = x := if_pos rfl
theorem upd_ne {ι α : Type} [DecidableEq ι] {f : ι → α} {i0 i : ι} {x : α} (h : i ≠ i0) : upd f i0 x i = f i := if_neg h

structure Fam {ι : Type} (w : World) (B : Nat) (act : ι → Prop) (val : ι → Value) (ty : ι → TypeId) (len : ι → Nat) (fn : ι → Nat → Value) : Prop where
  gr : ∀ i, act i → Gr w B (ty i) (val i) (len i) (fn i)
  ap : ∀ i j, act i → act j → i ≠ j → Apart (val i) (val j)

section
variable {ι : Type} {w w' : World} {B : Nat} {act act' : ι → Prop} {val val' : ι → Value} {ty ty' : ι → TypeId} {len len' : ι → Nat} {fn fn' : ι → Nat → Value}

theorem Fam.since (h : Fam w B act val ty len fn) (s : w.Since w.heap.size w') : Fam w' B act val ty len fn := ⟨fun i hi => (h.gr i hi).since s, h.ap⟩
theorem Fam.alloc (h : Fam w B act val ty len fn) (x : Obj) : Fam (w.alloc x) B act val ty len fn := ⟨fun i hi => (h.gr i hi).alloc x, h.ap⟩

theorem Fam.ren (h : Fam w B act val ty len fn) (φ : ι → ι) (h1 : ∀ i, act' i → act (φ i)) (h2 : ∀ i j, act' i → act' j → φ i = φ j → i = j) (hv : ∀ i, act' i → val' i = val (φ i)) (ht : ∀ i, act' i → ty' i = ty (φ i))
    (hl : ∀ i, act' i → len' i = len (φ i)) (hf : ∀ i, act' i → ∀ k, k < len' i → fn' i k = fn (φ i) k) : Fam w B act' val' ty' len' fn' := by
  refine ⟨fun i hi => ?_, fun i j hi hj hne => ?_⟩
  · have h3 := h.gr (φ i) (h1 i hi)
    rw [← hv i hi, ← ht i hi, ← hl i hi] at h3
    exact h3.congr (fun k hk => (hf i hi k hk).symm)
  · rw [hv i hi, hv j hj]
    exact h.ap _ _ (h1 i hi) (h1 j hj) (fun e => hne (h2 i j hi hj e))
end

section
variable {ι : Type} [DecidableEq ι] {w w' : World} {B : Nat} {act : ι → Prop} {val : ι → Value} {ty : ι → TypeId} {len : ι → Nat} {fn : ι → Nat → Value}

theorem Fam.grow (h : Fam w B act val ty len fn) {i0 : ι} (hi : act i0) {v' : Value} {n' : Nat} {f' : Nat → Value} (hg : Gr w' B (ty i0) v' n' f') (hgr : w.grownBy w' (val i0).ownBlock)
    (hat : v'.ownBlock = (val i0).ownBlock ∨ v'.ownBlock = some w.heap.size) : Fam w' B act (upd val i0 v') ty (upd len i0 n') (upd fn i0 f') := by
  have key : ∀ i, act i → i ≠ i0 → Apart v' (val i) := fun i ha hne => (h.ap i0 i hi ha (fun e => hne e.symm)).push hat (fun k hk => ((h.gr i ha).ge k hk).2)
  refine ⟨fun i ha => ?_, fun i j ha hb hne => ?_⟩
  · by_cases e : i = i0
    · subst e; rw [upd_at, upd_at, upd_at]; exact hg
    · rw [upd_ne e, upd_ne e, upd_ne e]; exact (h.gr i ha).apart hgr (h.ap i0 i hi ha (fun q => e q.symm))
  · by_cases e1 : i = i0
    · subst e1; rw [upd_at, upd_ne (fun q => hne q.symm)]; exact key j hb (fun q => hne q.symm)
    · rw [upd_ne e1]
      by_cases e2 : j = i0
      · subst e2; rw [upd_at]; exact (key i ha hne).symm
      · rw [upd_ne e2]; exact h.ap i j ha hb hne

theorem Fam.set (h : Fam w B act val ty len fn) {i0 : ι} (hi : act i0) {q n cap : Nat} (hv : val i0 = .slice (some ⟨q, 0, none⟩) n cap) (hn : len i0 = n) (k : Nat) (u : Value) :
    Fam (w.setCell ⟨q, k, none⟩ u) B act val ty len (upd fn i0 (fun j => if j = k then u else fn i0 j)) := by
  refine ⟨fun i ha => ?_, h.ap⟩
  by_cases e : i = i0
  · subst e
    rw [upd_at]
    have h1 := h.gr i ha
    rw [hv, hn] at h1 ⊢
    exact h1.set k u
  · rw [upd_ne e]
    refine (h.gr i ha).kept' (fun k2 hk2 => Go.Deep.blk_setCell_other _ _ _ _ ?_)
    show k2 ≠ q
    intro e2
    subst e2
    exact h.ap i0 i hi ha (fun q => e q.symm) k2 (by rw [hv]; rfl) hk2

end

/-- The slices that spec.joined holds: the result, the runs, the result's rows, the runs that have not come up. -/
inductive Ix where
  | out : Ix
  | runs : Ix
  | row : Nat → Ix
  | pend : Nat → Ix

noncomputable instance : DecidableEq Ix := fun _ _ => Classical.propDecidable _

def jAct (m q R : Nat) : Ix → Prop
  | .out => True
  | .runs => True
  | .row j => j < m
  | .pend i => q ≤ i ∧ i < R
def jVal (v vR : Value) (f fR : Nat → Value) : Ix → Value
  | .out => v
  | .runs => vR
  | .row j => f j
  | .pend i => fR i
def jTy : Ix → TypeId
  | .out => 22
  | .runs => 22
  | .row _ => 3
  | .pend _ => 3
def jLen (m : Nat) (J : Nat → List Nat) (R : List (List Nat)) : Ix → Nat
  | .out => m
  | .runs => R.length
  | .row j => (J j).length
  | .pend i => (R.getD i []).length
def jFn (J : Nat → List Nat) (R : List (List Nat)) (f fR : Nat → Value) : Ix → Nat → Value
  | .out => f
  | .runs => fR
  | .row j => cellsOf (J j)
  | .pend i => cellsOf (R.getD i [])

def JN (w : World) (B : Nat) (v vR : Value) (f fR : Nat → Value) (m : Nat) (J : Nat → List Nat) (R : List (List Nat)) (q : Nat) : Prop :=
  Fam w B (jAct m q R.length) (jVal v vR f fR) jTy (jLen m J R) (jFn J R f fR)

section
variable {w w' : World} {B : Nat} {v vR : Value} {f fR : Nat → Value} {m : Nat} {J : Nat → List Nat} {R : List (List Nat)} {q : Nat}

theorem JN.since (h : JN w B v vR f fR m J R q) (s : w.Since w.heap.size w') : JN w' B v vR f fR m J R q := Fam.since h s
theorem JN.out (h : JN w B v vR f fR m J R q) : Gr w B 22 v m f := h.gr .out trivial
theorem JN.runs (h : JN w B v vR f fR m J R q) : Gr w B 22 vR R.length fR := h.gr .runs trivial
theorem JN.row (h : JN w B v vR f fR m J R q) {j : Nat} (hj : j < m) : Gr w B 3 (f j) (J j).length (cellsOf (J j)) := h.gr (.row j) hj
theorem JN.pend (h : JN w B v vR f fR m J R q) {i : Nat} (h1 : q ≤ i) (h2 : i < R.length) : Gr w B 3 (fR i) (R.getD i []).length (cellsOf (R.getD i [])) := h.gr (.pend i) ⟨h1, h2⟩

theorem JN.congr {J' : Nat → List Nat} (h : JN w B v vR f fR m J R q) (e : ∀ j, j < m → J' j = J j) : JN w B v vR f fR m J' R q :=
  Fam.ren h id (fun _ h => h) (fun _ _ _ _ h => h) (fun _ _ => rfl) (fun _ _ => rfl) (fun i hi => by
    cases i with
    | row j => show (J' j).length = (J j).length; rw [e j hi]
    | _ => rfl) (fun i hi k _ => by
    cases i with
    | row j => show cellsOf (J' j) k = cellsOf (J j) k; rw [e j hi]
    | _ => rfl)

/-- The run that came up is not held on to. -/
theorem JN.skip (h : JN w B v vR f fR m J R q) : JN w B v vR f fR m J R (q + 1) :=
  Fam.ren h id (fun i hi => by
    cases i with
    | pend i => exact ⟨by have := hi.1; omega, hi.2⟩
    | _ => exact hi) (fun _ _ _ _ h => h) (fun _ _ => rfl) (fun _ _ => rfl) (fun _ _ => rfl) (fun _ _ _ _ => rfl)

/-- 'out[k] = append(list, run...)', behind the append and the store. -/
theorem JN.cat {g cap k : Nat} {u' : Value} {r : List Nat} (h : JN w B (.slice (some ⟨g, 0, none⟩) m cap) vR f fR m J R q) (hk : k < m)
    (hr : Gr w' B 3 u' ((J k).length + r.length) (fun i => if i < (J k).length then cellsOf (J k) i else cellsOf r (i - (J k).length))) (hg : w.grownBy w' (f k).ownBlock) (hat : u'.ownBlock = (f k).ownBlock ∨ u'.ownBlock = some w.heap.size) :
    JN (w'.setCell ⟨g, k, none⟩ u') B (.slice (some ⟨g, 0, none⟩) m cap) vR (fun j => if j = k then u' else f j) fR m (fun j => if j = k then J k ++ r else J j) R q := by
  have h1 := Fam.grow h (i0 := .row k) hk hr hg hat
  have h2 := h1.set (i0 := .out) trivial (q := g) (n := m) (cap := cap) (by rw [upd_ne (fun e => by cases e)]; rfl) (by rw [upd_ne (fun e => by cases e)]; rfl) k u'
  refine Fam.ren h2 id (fun _ h => h) (fun _ _ _ _ h => h) (fun i hi => ?_) (fun _ _ => rfl) (fun i hi => ?_) (fun i hi p hp => ?_)
  · cases i with
    | row j =>
      by_cases e : j = k
      · subst e; show (if j = j then u' else f j) = _; rw [if_pos rfl, id, upd_at]
      · show (if j = k then u' else f j) = _; rw [if_neg e, id, upd_ne (fun q => e (by cases q; rfl))]; rfl
    | _ => rw [id, upd_ne (fun e => by cases e)]; rfl
  · cases i with
    | row j =>
      by_cases e : j = k
      · subst e; show (if j = j then J j ++ r else J j).length = _; rw [if_pos rfl, id, upd_at, List.length_append]
      · show (if j = k then J k ++ r else J j).length = _; rw [if_neg e, id, upd_ne (fun q => e (by cases q; rfl))]; rfl
    | _ => rw [id, upd_ne (fun e => by cases e)]; rfl
  · cases i with
    | row j =>
      rw [id, upd_ne (fun e => by cases e)]
      by_cases e : j = k
      · subst e; show cellsOf (if j = j then J j ++ r else J j) p = _; rw [if_pos rfl, upd_at]; exact cellsOf_app _ _ _
      · show cellsOf (if j = k then J k ++ r else J j) p = _; rw [if_neg e, upd_ne (fun q => e (by cases q; rfl))]; rfl
    | out =>
      rw [id, upd_at]
      show (if p = k then u' else f p) = if p = k then u' else _
      rw [upd_ne (fun e => by cases e)]; rfl
    | _ => rw [id, upd_ne (fun e => by cases e), upd_ne (fun e => by cases e)]; rfl

/-- 'out = append(out, run)': the run that came up is a row now. -/
theorem JN.push {v' : Value} {x : Obj} (h : JN w B v vR f fR m J R q) (hq : q < R.length) (hg : Gr w' B 22 v' (m + 1) (fun i => if i = m then fR q else f i)) (hgr : (w.alloc x).grownBy w' v.ownBlock)
    (hat : v'.ownBlock = v.ownBlock ∨ v'.ownBlock = some (w.heap.size + 1)) :
    JN w' B v' vR (fun j => if j = m then fR q else f j) fR (m + 1) (fun j => if j = m then R.getD q [] else J j) R (q + 1) := by
  have hz : (w.alloc x).heap.size = w.heap.size + 1 := by rw [World.size_alloc]
  have h1 := Fam.grow (Fam.alloc h x) (i0 := .out) trivial hg hgr (by rw [hz]; exact hat)
  refine Fam.ren h1 (fun i => match i with
    | .row j => if j = m then .pend q else .row j
    | i => i) (fun i hi => ?_) (fun i j hi hj e => ?_) (fun i hi => ?_) (fun i hi => ?_) (fun i hi => ?_) (fun i hi p hp => ?_)
  · cases i with
    | row j =>
      have hj : j < m + 1 := hi
      by_cases e : j = m
      · simp only [if_pos e]; exact ⟨Nat.le_refl _, hq⟩
      · simp only [if_neg e]; show j < m; omega
    | pend i => exact ⟨by have := hi.1; omega, hi.2⟩
    | _ => exact hi
  · cases i <;> cases j <;> simp only at e <;> (try (split at e)) <;> (try (split at e)) <;> first | rfl | (cases e; rfl) | (cases e; done) | (exfalso; cases e; have := hj.1; omega) | (exfalso; cases e; have := hi.1; omega) | (subst_vars; rfl)
  · cases i with
    | row j =>
      by_cases e : j = m
      · show (if j = m then fR q else f j) = _; simp only [if_pos e]; rw [upd_ne (fun e => by cases e)]; rfl
      · show (if j = m then fR q else f j) = _; simp only [if_neg e]; rw [upd_ne (fun e => by cases e)]; rfl
    | out => show v' = _; rw [upd_at]
    | _ => show _ = upd _ _ _ _; rw [upd_ne (fun e => by cases e)]; rfl
  · cases i with
    | row j =>
      by_cases e : j = m
      · simp only [if_pos e]; rfl
      · simp only [if_neg e]
    | _ => rfl
  · cases i with
    | row j =>
      by_cases e : j = m
      · show (if j = m then R.getD q [] else J j).length = _; simp only [if_pos e]; rw [upd_ne (fun e => by cases e)]; rfl
      · show (if j = m then R.getD q [] else J j).length = _; simp only [if_neg e]; rw [upd_ne (fun e => by cases e)]; rfl
    | out => show m + 1 = _; rw [upd_at]
    | _ => show _ = upd _ _ _ _; rw [upd_ne (fun e => by cases e)]; rfl
  · cases i with
    | row j =>
      by_cases e : j = m
      · show cellsOf (if j = m then R.getD q [] else J j) p = _; simp only [if_pos e]; rw [upd_ne (fun e => by cases e)]; rfl
      · show cellsOf (if j = m then R.getD q [] else J j) p = _; simp only [if_neg e]; rw [upd_ne (fun e => by cases e)]; rfl
    | out => show (if p = m then fR q else f p) = _; rw [upd_at]
    | _ => (try dsimp only); rw [upd_ne (fun e => by cases e)]; rfl
theorem JN.start {B' : Nat} (hB : B ≤ B') (ho : Gr w B 22 v 0 f) (hk : ∀ k, v.ownBlock = some k → k < B') (q1 : Gr w B' 22 vR R.length fR)
    (q2 : ∀ j, j < R.length → Gr w B' 3 (fR j) (R.getD j []).length (cellsOf (R.getD j []))) (q3 : ∀ j, j < R.length → Apart vR (fR j)) (q4 : ∀ j k, j < R.length → k < R.length → j ≠ k → Apart (fR j) (fR k)) : JN w B v vR f fR 0 J R 0 := by
  have hvR : Apart v vR := fun k h1 h2 => by have := hk k h1; have := (q1.ge k h2).1; omega
  have hvf : ∀ j, j < R.length → Apart v (fR j) := fun j hj k h1 h2 => by have := hk k h1; have := ((q2 j hj).ge k h2).1; omega
  refine ⟨fun i hi => ?_, fun i j hi hj hne => ?_⟩
  · cases i with
    | out => exact ho
    | runs => exact q1.base hB
    | row j => exact absurd hi (Nat.not_lt_zero _)
    | pend i => exact (q2 i hi.2).base hB
  · cases i with
    | out =>
      cases j with
      | out => exact absurd rfl hne
      | runs => exact hvR
      | row j => exact absurd hj (Nat.not_lt_zero _)
      | pend j => exact hvf j hj.2
    | runs =>
      cases j with
      | out => exact hvR.symm
      | runs => exact absurd rfl hne
      | row j => exact absurd hj (Nat.not_lt_zero _)
      | pend j => exact q3 j hj.2
    | row j => exact absurd hi (Nat.not_lt_zero _)
    | pend i =>
      cases j with
      | out => exact (hvf i hi.2).symm
      | runs => exact (q3 i hi.2).symm
      | row j => exact absurd hj (Nat.not_lt_zero _)
      | pend j => exact q4 i j hi.2 hj.2 (fun e => hne (by rw [e]))

theorem JN.ll {L : List (List Nat)} (h : JN w B v vR f fR m J R q) (hl : L.length = m) (hJ : ∀ j, j < m → L.getD j [] = J j) : LL w B v L := by
  subst hl
  refine ⟨f, h.out, fun j hj => by rw [hJ j hj]; exact h.row hj, fun j hj => h.ap .out (.row j) trivial hj (fun e => by cases e), fun j k hj hk hne => h.ap (.row j) (.row k) hj hk (fun e => hne (by cases e; rfl))⟩
end
end Go.Proofs.YtjelgbfgciaapaaDoor
