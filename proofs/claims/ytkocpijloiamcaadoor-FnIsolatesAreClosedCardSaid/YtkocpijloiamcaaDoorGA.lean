/- Words on memory for the walks of this seat: a slice that reads as a function of its index ('Sees'), a slice that the call itself grows by append ('Gr'), and their laws. No program in sight. -/
import Derived.WalkKit
import Derived.WalkLawsBesides
import Derived.WalkSpells
import Derived.Laws.AppendOwnNone
import Derived.Deep.OwnRows
import Derived.Maps.AppendAt
import Derived.Deep.Draws
import Derived.Laws.CopyOwn
import Derived.Test.YtkocpijloiamcaaDoorChecked
import Derived.KernelRfl
import Derived.Deep.QuietTactic
import Derived.BigQuiet
import Derived.Lib.Hide
namespace Go.Proofs.YtkocpijloiamcaaDoor
open Go.RowKit

/-- The slice value '.slice ao n c' reads, in w, as f 0 .. f (n - 1). -/
def Sees (w : World) (ao : Option Addr) (b o n c : Nat) (f : Nat → Value) : Prop :=
  (ao = none → n = 0 ∧ c = 0) ∧ n ≤ c ∧ ∀ i, i < n → ao = some ⟨b, o, none⟩ ∧ w.cell? ⟨b, o + i, none⟩ = some (f i)

/-- The slice value v, of n elements of one cell each, is nil or begins a block from 'base' on, and holds f 0 .. f (n - 1). -/
def Gr (w : World) (base : Nat) (e : TypeId) (v : Value) (n : Nat) (f : Nat → Value) : Prop := w.ownsRow base e 1 v n ((List.range n).map f)

theorem since_mono {B B' : Nat} {w w' : World} (h : w.Since B w') (hB : B' ≤ B) : w.Since B' w' := ⟨h.os, h.tape, h.output, h.size, fun k hk => h.block k (Nat.lt_of_lt_of_le hk hB)⟩

/-- Two calls, one behind the other, neither of which turns what was there. -/
theorem since2 {w w1 w2 : World} (h : w.Since w.heap.size w1) (k : w1.Since w1.heap.size w2) : w.Since w.heap.size w2 := h.trans (since_mono k h.size)

theorem since_drewN {B : Nat} {w w' : World} (h : w.Since B w') (n : Nat) : w.Since B (w'.drewN n) := ⟨h.os, h.tape, h.output, h.size, h.block⟩

section
variable {w w' : World} {ao : Option Addr} {b o n c : Nat} {f g : Nat → Value}

theorem Sees.get (h : Sees w ao b o n c f) {i : Nat} (hi : i < n) : ao = some ⟨b, o, none⟩ ∧ w.cell? ⟨b, o + i, none⟩ = some (f i) := h.2.2 i hi

theorem Sees.lt (h : Sees w ao b o n c f) (hn : 0 < n) : b < w.heap.size := World.block_lt_of_cell? _ _ (h.2.2 0 hn).2

theorem Sees.le (h : Sees w ao b o n c f) : n ≤ c := h.2.1

theorem Sees.since (h : Sees w ao b o n c f) (s : w.Since w.heap.size w') : Sees w' ao b o n c f :=
  ⟨h.1, h.2.1, fun i hi => ⟨(h.2.2 i hi).1, by rw [s.cell (World.block_lt_of_cell? _ _ (h.2.2 i hi).2)]; exact (h.2.2 i hi).2⟩⟩

/-- Where some blocks may have turned, but not this one. -/
theorem Sees.kept (h : Sees w ao b o n c f) (s : 0 < n → w'.heap[b]? = w.heap[b]?) : Sees w' ao b o n c f :=
  ⟨h.1, h.2.1, fun i hi => ⟨(h.2.2 i hi).1, by rw [World.cell?_of_block (w := w) (a := ⟨b, o + i, none⟩) (s (by omega))]; exact (h.2.2 i hi).2⟩⟩

theorem Sees.congr (h : Sees w ao b o n c f) (e : ∀ i, i < n → f i = g i) : Sees w ao b o n c g :=
  ⟨h.1, h.2.1, fun i hi => ⟨(h.2.2 i hi).1, by rw [(h.2.2 i hi).2, e i hi]⟩⟩

theorem Sees.ofRow {t : TypeId} (h : w.rowIs b t n f) : Sees w (some ⟨b, 0, none⟩) b 0 n n f :=
  ⟨fun e => by simp at e, Nat.le_refl _, fun i hi => ⟨rfl, by rw [Nat.zero_add]; exact h.cell hi⟩⟩

theorem Sees.nil (w : World) (b o : Nat) (f : Nat → Value) : Sees w none b o 0 0 f := ⟨fun _ => ⟨rfl, rfl⟩, Nat.le_refl _, fun _ hi => absurd hi (Nat.not_lt_zero _)⟩

theorem Gr.sees {base : Nat} {e : TypeId} {v : Value} (h : Gr w base e v n f) : ∃ ao b c, v = .slice ao n c ∧ base ≤ b ∧ Sees w ao b 0 n c f := by
  rcases h.2 with ⟨rfl, rfl⟩ | ⟨g', cap, cur, rfl, hb, hg, hn, hm, hs, ht⟩
  · exact ⟨none, base, 0, rfl, Nat.le_refl _, Sees.nil _ _ _ _⟩
  · refine ⟨some ⟨g', 0, none⟩, g', cap, rfl, hb, fun e => by simp at e, hn, fun i hi => ⟨rfl, ?_⟩⟩
    have h2 := h.cells (g := g') rfl i (f i) (by simp [hi])
    rw [Nat.zero_add]
    by_cases h0 : i = 0
    · subst h0; simpa [Addr.add] using h2
    · simpa [Addr.add, h0] using h2

theorem Gr.nil (w : World) (base : Nat) (e : TypeId) (f : Nat → Value) : Gr w base e (.slice none 0 0) 0 f := World.ownsRow_nil _ _ _ _

/-- '[]T{}'. -/
theorem Gr.empty (w : World) (base : Nat) (e : TypeId) (f : Nat → Value) (hb : base ≤ w.heap.size) : Gr (w.alloc (.cells #[] e)) base e (.slice (some ⟨w.heap.size, 0, none⟩) 0 0) 0 f :=
  World.ownsRow_made w #[] 0 hb (Nat.zero_le _) rfl

theorem Gr.alloc {base : Nat} {e : TypeId} {v : Value} (h : Gr w base e v n f) (x : Obj) : Gr (w.alloc x) base e v n f := World.ownsRow.alloc h x

theorem Gr.kept {base : Nat} {e : TypeId} {v : Value} {row : Option Nat} (h : Gr w base e v n f) (hg : w.grownBy w' row) (hne : v.ownBlock = none ∨ v.ownBlock ≠ row) : Gr w' base e v n f := World.ownsRow.kept h hg hne

theorem Gr.since {base : Nat} {e : TypeId} {v : Value} (h : Gr w base e v n f) (s : w.Since w.heap.size w') : Gr w' base e v n f :=
  World.ownsRow.kept (row := none) h ⟨s.os, s.tape, s.output, s.size, fun k hk _ => s.block k hk⟩ (by cases v.ownBlock <;> simp)

theorem Gr.congr {base : Nat} {e : TypeId} {v : Value} (h : Gr w base e v n f) (k : ∀ i, i < n → f i = g i) : Gr w base e v n g := by
  unfold Gr at *
  have : (List.range n).map f = (List.range n).map g := List.map_congr_left fun i hi => k i (by simpa using hi)
  rw [← this]; exact h

theorem Gr.ge {base : Nat} {e : TypeId} {v : Value} (h : Gr w base e v n f) : ∀ k, v.ownBlock = some k → base ≤ k ∧ k < w.heap.size := World.ownsRow.lt h

theorem Gr.kept' {base : Nat} {e : TypeId} {v : Value} (h : Gr w base e v n f) (s : ∀ k, v.ownBlock = some k → w'.heap[k]? = w.heap[k]?) : Gr w' base e v n f := by
  refine ⟨h.1, ?_⟩
  rcases h.2 with hn | ⟨g', cap, cur, rfl, hb, hg, rest⟩
  · exact .inl hn
  · exact .inr ⟨g', cap, cur, rfl, hb, by rw [s g' rfl]; exact hg, rest⟩

theorem Gr.form {base : Nat} {e : TypeId} {v : Value} (h : Gr w base e v n f) (hn : 0 < n) : ∃ g cap, v = .slice (some ⟨g, 0, none⟩) n cap ∧ base ≤ g := by
  rcases h.2 with ⟨rfl, rfl⟩ | ⟨g', cap, cur, rfl, hb, hg, rest⟩
  · omega
  · exact ⟨g', cap, rfl, hb⟩

theorem Gr.cell {base : Nat} {e : TypeId} {q cap : Nat} (h : Gr w base e (.slice (some ⟨q, 0, none⟩) n cap) n f) {i : Nat} (hi : i < n) : w.cell? ⟨q, i, none⟩ = some (f i) := by
  rw [World.ownsRow.cellAt h i (by omega)]; simp [hi]

theorem Gr.frozen {base : Nat} {e : TypeId} {q cap : Nat} (h : Gr w base e (.slice (some ⟨q, 0, none⟩) n cap) n f) (i : Nat) : w.frozen? ⟨q, i, none⟩ = false := World.ownsRow.frozenAt h i

theorem Gr.set {base : Nat} {e : TypeId} {q cap : Nat} (h : Gr w base e (.slice (some ⟨q, 0, none⟩) n cap) n f) (i : Nat) (v : Value) :
    Gr (w.setCell ⟨q, i, none⟩ v) base e (.slice (some ⟨q, 0, none⟩) n cap) n (fun j => if j = i then v else f j) := by
  have h2 := (World.ownsRow.stored h i v).1
  unfold Gr
  have : (List.range n).map (fun j => if j = i then v else f j) = ((List.range n).map f).set i v := by
    apply List.ext_getElem
    · simp
    · intro j h1 h2
      simp only [List.getElem_map, List.getElem_range, List.getElem_set]
      by_cases e : j = i
      · subst e; simp
      · rw [if_neg e, if_neg (fun h => e h.symm)]
  rw [this]; exact h2

theorem Gr.base {base base' : Nat} {e : TypeId} {v : Value} (h : Gr w base e v n f) (hb : base' ≤ base) : Gr w base' e v n f := by
  refine ⟨h.1, ?_⟩
  rcases h.2 with hn | ⟨g', cap, cur, rfl, hb2, rest⟩
  · exact .inl hn
  · exact .inr ⟨g', cap, cur, rfl, Nat.le_trans hb hb2, rest⟩

theorem Gr.drew {base : Nat} {e : TypeId} {v : Value} (h : Gr w base e v n f) : Gr w.drew base e v n f := h

theorem Gr.see {base : Nat} {e : TypeId} {ao : Option Addr} {c : Nat} (h : Gr w base e (.slice ao n c) n f) : ∃ b, base ≤ b ∧ Sees w ao b 0 n c f := by
  obtain ⟨ao', b, c', hv, hb, hs⟩ := h.sees
  simp only [Value.slice.injEq, true_and] at hv
  obtain ⟨rfl, rfl⟩ := hv
  exact ⟨b, hb, hs⟩

/-- Two slices that lie in different blocks. -/
def Apart (v u : Value) : Prop := ∀ k, v.ownBlock = some k → u.ownBlock ≠ some k

theorem Apart.symm {v u : Value} (h : Apart v u) : Apart u v := fun k h1 h2 => h k h2 h1

theorem Apart.push {v v' u : Value} {m : Nat} (h : Apart v u) (hat : v'.ownBlock = v.ownBlock ∨ v'.ownBlock = some m) (hlt : ∀ k, u.ownBlock = some k → k < m) : Apart v' u := fun k h1 h2 => by
  rcases hat with e | e
  · exact h k (e ▸ h1) h2
  · rw [e] at h1
    have h3 := hlt k h2
    simp only [Option.some.injEq] at h1
    omega

theorem Gr.apart {base : Nat} {e : TypeId} {u v : Value} (h : Gr w base e u n f) (hg : w.grownBy w' v.ownBlock) (ha : Apart v u) : Gr w' base e u n f :=
  h.kept hg (by
    cases hu : u.ownBlock with
    | none => exact .inl rfl
    | some k => right; intro e; exact ha k e.symm hu)

/-- A slice of integers that came in. -/
theorem sees_of_row {k : IntKind} {w : World} {a : Option Addr} {len cap : Nat} {zs : List Int}
    (h : (a = none ∧ len = 0 ∧ cap = 0 ∧ zs = []) ∨ ∃ x, a = some x ∧ len ≤ cap ∧ cap ≤ maxLen ∧ zs.length = cap ∧ (∀ i, i < zs.length → w.cell? (x.add i) = some (.int k (zs.getD i 0))) ∧ ∀ n ∈ zs, (Lit.int k n).wf = true) :
    ∃ b o, Sees w a b o len cap (fun i => .int k (zs.getD i 0)) := by
  rcases h with ⟨rfl, rfl, rfl, rfl⟩ | ⟨x, rfl, h1, h2, h3, h4, h5⟩
  · exact ⟨0, 0, Sees.nil _ _ _ _⟩
  · refine ⟨x.block, x.off, fun e => by simp at e, h1, fun i hi => ?_⟩
    obtain ⟨xb, xo, xs⟩ := x
    have h6 := h4 0 (by omega)
    have hxs : xs = none := by
      cases xs with
      | none => rfl
      | some s =>
        have e : (⟨xb, xo, some s⟩ : Addr).add 0 = ⟨xb, xo, some s⟩ := by simp [Addr.add]
        rw [e] at h6
        simp only [World.cell?] at h6
        split at h6 <;> simp at h6
    subst hxs
    refine ⟨rfl, ?_⟩
    have h7 := h4 i (by omega)
    by_cases h0 : i = 0
    · subst h0; simpa [Addr.add] using h7
    · simpa [Addr.add, h0] using h7

theorem below_of_since {w w' : World} (h : w.Since w.heap.size w') : Below w.heap.size w w' := ⟨h.os, h.tape, h.output, h.size, h.block⟩

theorem since_of_grown {base : Nat} {w0 w w' : World} {row : Option Nat} (h : w0.Since base w) (hg : w.grownBy w' row) (hB : base ≤ w.heap.size) (hr : ∀ k, row = some k → base ≤ k) : w0.Since base w' := h.grown hg hB hr
end

/-- Blocks that S does not name are as they were. -/
structure Kp (S : Nat → Prop) (w w' : World) : Prop where
  os : w'.os = w.os
  tape : w'.tape = w.tape
  output : w'.output = w.output
  size : w.heap.size ≤ w'.heap.size
  block : ∀ k, k < w.heap.size → ¬ S k → w'.heap[k]? = w.heap[k]?

namespace Kp
variable {S : Nat → Prop} {w w1 w2 : World}
theorem refl (S : Nat → Prop) (w : World) : Kp S w w := ⟨rfl, rfl, rfl, Nat.le_refl _, fun _ _ _ => rfl⟩
theorem trans (h : Kp S w w1) (k : Kp S w1 w2) : Kp S w w2 :=
  ⟨k.os.trans h.os, k.tape.trans h.tape, k.output.trans h.output, Nat.le_trans h.size k.size, fun i hi hs => (k.block i (Nat.lt_of_lt_of_le hi h.size) hs).trans (h.block i hi hs)⟩
theorem mono {T : Nat → Prop} (h : Kp S w w1) (hst : ∀ k, k < w.heap.size → S k → T k) : Kp T w w1 := ⟨h.os, h.tape, h.output, h.size, fun k hk ht => h.block k hk (fun hs => ht (hst k hk hs))⟩
theorem since (h : w.Since w.heap.size w1) (S : Nat → Prop) : Kp S w w1 := ⟨h.os, h.tape, h.output, h.size, fun k hk _ => h.block k hk⟩
theorem toSince (h : Kp S w w1) (hs : ∀ k, k < w.heap.size → ¬ S k) : w.Since w.heap.size w1 := ⟨h.os, h.tape, h.output, h.size, fun k hk => h.block k hk (hs k hk)⟩
/-- A call that turns nothing of what is there. -/
theorem call (h : Kp S w w1) (k : w1.Since w1.heap.size w2) : Kp S w w2 := h.trans (.since k S)
theorem drewN (h : Kp S w w1) (n : Nat) : Kp S w (w1.drewN n) := ⟨h.os, h.tape, h.output, h.size, h.block⟩
theorem drew (h : Kp S w w1) : Kp S w w1.drew := ⟨h.os, h.tape, h.output, h.size, h.block⟩
theorem alloc (h : Kp S w w1) (o : Obj) : Kp S w (w1.alloc o) := h.call ((World.Since.refl _ _).alloc (Nat.le_refl _) _)
theorem setCell (h : Kp S w w1) {a : Addr} (ha : S a.block ∨ w.heap.size ≤ a.block) (v : Value) : Kp S w (w1.setCell a v) :=
  ⟨h.os, h.tape, h.output, by simpa [World.setCell] using h.size, fun k hk hs => (Go.Deep.blk_setCell_other _ _ _ _ (by
    intro e
    rcases ha with ha | ha
    · rw [← e] at ha; exact hs ha
    · omega)).trans (h.block k hk hs)⟩
theorem grown {row : Option Nat} (h : Kp S w w1) (hg : w1.grownBy w2 row) (hr : ∀ k, row = some k → S k ∨ w.heap.size ≤ k) : Kp S w w2 :=
  ⟨hg.os.trans h.os, hg.tape.trans h.tape, hg.output.trans h.output, Nat.le_trans h.size hg.size, fun k hk hs => (hg.block k (Nat.lt_of_lt_of_le hk h.size) (fun e => by
    rcases hr k e.symm with h1 | h1
    · exact hs h1
    · omega)).trans (h.block k hk hs)⟩
theorem sees {ao : Option Addr} {b o n c : Nat} {f : Nat → Value} (h : Kp S w w1) (hs : Sees w ao b o n c f) (hb : 0 < n → ¬ S b) : Sees w1 ao b o n c f :=
  hs.kept (fun h0 => h.block b (hs.lt h0) (hb h0))
theorem row {b : Nat} {t : TypeId} {n : Nat} {f : Nat → Value} (h : Kp S w w1) (hr : w.rowIs b t n f) (hb : ¬ S b) : w1.rowIs b t n f := hr.of_block (h.block b hr.lt hb)
theorem cell {a : Addr} {v : Value} (h : Kp S w w1) (hc : w.cell? a = some v) (hb : ¬ S a.block) : w1.cell? a = some v := by
  rw [World.cell?_of_block (w := w) (h.block a.block (World.block_lt_of_cell? _ _ hc) hb)]; exact hc
end Kp

/-- Eight fields. -/
def pf (f0 f1 f2 f3 f4 f5 f6 f7 : Value) : Nat → Value
  | 0 => f0 | 1 => f1 | 2 => f2 | 3 => f3 | 4 => f4 | 5 => f5 | 6 => f6 | 7 => f7 | _ => f7

theorem pf_set3 {w : World} {p : Nat} {t : TypeId} {f0 f1 f2 f3 f4 f5 f6 f7 : Value} (h : w.rowIs p t 8 (pf f0 f1 f2 f3 f4 f5 f6 f7)) (v : Value) : (w.setCell ⟨p, 3, none⟩ v).rowIs p t 8 (pf f0 f1 f2 v f4 f5 f6 f7) :=
  (h.set 3 v).congr fun i hi => match i, hi with | 0, _ => rfl | 1, _ => rfl | 2, _ => rfl | 3, _ => rfl | 4, _ => rfl | 5, _ => rfl | 6, _ => rfl | 7, _ => rfl
theorem pf_set4 {w : World} {p : Nat} {t : TypeId} {f0 f1 f2 f3 f4 f5 f6 f7 : Value} (h : w.rowIs p t 8 (pf f0 f1 f2 f3 f4 f5 f6 f7)) (v : Value) : (w.setCell ⟨p, 4, none⟩ v).rowIs p t 8 (pf f0 f1 f2 f3 v f5 f6 f7) :=
  (h.set 4 v).congr fun i hi => match i, hi with | 0, _ => rfl | 1, _ => rfl | 2, _ => rfl | 3, _ => rfl | 4, _ => rfl | 5, _ => rfl | 6, _ => rfl | 7, _ => rfl
theorem pf_set5 {w : World} {p : Nat} {t : TypeId} {f0 f1 f2 f3 f4 f5 f6 f7 : Value} (h : w.rowIs p t 8 (pf f0 f1 f2 f3 f4 f5 f6 f7)) (v : Value) : (w.setCell ⟨p, 5, none⟩ v).rowIs p t 8 (pf f0 f1 f2 f3 f4 v f6 f7) :=
  (h.set 5 v).congr fun i hi => match i, hi with | 0, _ => rfl | 1, _ => rfl | 2, _ => rfl | 3, _ => rfl | 4, _ => rfl | 5, _ => rfl | 6, _ => rfl | 7, _ => rfl
theorem pf_set6 {w : World} {p : Nat} {t : TypeId} {f0 f1 f2 f3 f4 f5 f6 f7 : Value} (h : w.rowIs p t 8 (pf f0 f1 f2 f3 f4 f5 f6 f7)) (v : Value) : (w.setCell ⟨p, 6, none⟩ v).rowIs p t 8 (pf f0 f1 f2 f3 f4 f5 v f7) :=
  (h.set 6 v).congr fun i hi => match i, hi with | 0, _ => rfl | 1, _ => rfl | 2, _ => rfl | 3, _ => rfl | 4, _ => rfl | 5, _ => rfl | 6, _ => rfl | 7, _ => rfl
theorem pf_set7 {w : World} {p : Nat} {t : TypeId} {f0 f1 f2 f3 f4 f5 f6 f7 : Value} (h : w.rowIs p t 8 (pf f0 f1 f2 f3 f4 f5 f6 f7)) (v : Value) : (w.setCell ⟨p, 7, none⟩ v).rowIs p t 8 (pf f0 f1 f2 f3 f4 f5 f6 v) :=
  (h.set 7 v).congr fun i hi => match i, hi with | 0, _ => rfl | 1, _ => rfl | 2, _ => rfl | 3, _ => rfl | 4, _ => rfl | 5, _ => rfl | 6, _ => rfl | 7, _ => rfl

/-- 'make([]T, 0, n)'. -/
theorem wpList_make0 {P : Program} (w : World) {ops : Array Oper} {rest : List Oper} {o : Oper} {a : Act} {Q : Exit → Act → World → Prop}
    (hg : o.guard = none) (l c : Operand) (t : TypeId) (hop : o.op = Op.makeSlice t l c)
    (base : Nat) (e : TypeId) (z : Value) (bytes : Nat) (ht : P.underlying t = some (.slice e)) (hinfo : (P.info? e).map (fun i => (i.zero, i.size, i.bytes)) = some (some z, 1, bytes)) (f : Nat → Value)
    (n : Nat) (hl : a.eval l = .int .i64 0) (hc : a.eval c = .int .i64 n) (b2 : bytes * n ≤ 281474976710656) (b3 : n ≤ 8589934592) (b4 : base ≤ w.heap.size)
    (hK : ∀ w', Gr w' base e (.slice (some ⟨w.heap.size, 0, none⟩) 0 n) 0 f → w.grownBy w' none → wpList P ops Q rest (a.put o.dst (.slice (some ⟨w.heap.size, 0, none⟩) 0 n)) w') :
    wpList P ops Q (o :: rest) a w := by
  obtain ⟨i, hi, h1, h2, h3⟩ := info_parts hinfo
  subst h3
  exact wpList_make_own w hg l c t hop base e i z 1 ht hi h1 h2 .i64 .i64 n n hl hc rfl b2 (by unfold maxLen; omega) b4 hK

theorem map_range_snoc (f : Nat → Value) (n : Nat) (u : Value) : (List.range (n + 1)).map (fun i => if i = n then u else f i) = (List.range n).map f ++ [u] := by
  rw [List.range_succ, List.map_append]
  congr 1
  · refine List.map_congr_left fun i hi => ?_
    have : i < n := by simpa using hi
    rw [if_neg (by omega)]
  · simp

theorem map_range_app (f g : Nat → Value) (n m : Nat) : (List.range (n + m)).map (fun i => if i < n then f i else g (i - n)) = (List.range n).map f ++ (List.range m).map g := by
  rw [List.range_add, List.map_append, List.map_map]
  congr 1
  · refine List.map_congr_left fun i hi => ?_
    have : i < n := by simpa using hi
    rw [if_pos this]
  · refine List.map_congr_left fun i hi => ?_
    show (if n + i < n then f (n + i) else g (n + i - n)) = g i
    rw [if_neg (by omega), Nat.add_sub_cancel_left]

/-- 'append(s, x)', where x has just been laid in a block of its own. -/
theorem wpList_push {P : Program} (w : World) {ops : Array Oper} {rest : List Oper} {o : Oper} {a : Act} {Q : Exit → Act → World → Prop} (hgd : o.guard = none) (s x : Operand) (t : TypeId)
    (ho : o.op = .call { callee := .builtin .append, args := #[s, x], argTypes := #[t, t] })
    (base : Nat) (e : TypeId) (z : Value) (bytes : Nat) (ht : P.underlying t = some (.slice e)) (hinfo : (P.info? e).map (fun i => (i.zero, i.size, i.bytes)) = some (some z, 1, bytes)) (hz1 : z.cells.size = 1)
    (v : Value) (n : Nat) (f : Nat → Value) (u : Value) (hs : a.eval s = v) (hown : Gr w base e v n f) (hx : a.eval x = .slice (some ⟨w.heap.size, 0, none⟩) 1 1) (h1 : u.oneCell' = true)
    (hn : n ≤ 8589934592) (hby : bytes ≤ 64) (hbase : base ≤ w.heap.size)
    (h : ∀ v' w', Gr w' base e v' (n + 1) (fun i => if i = n then u else f i) → (w.alloc (.cells #[u] e)).grownBy w' v.ownBlock → (v'.ownBlock = v.ownBlock ∨ v'.ownBlock = some (w.heap.size + 1)) → wpList P ops Q rest (a.put o.dst v') w') :
    wpList P ops Q (o :: rest) a (w.alloc (.cells #[u] e)) := by
  obtain ⟨i, hi, h2, h3, h4⟩ := info_parts hinfo
  have hb : (n + 1) * bytes ≤ 140737488355328 := by
    have := Nat.mul_le_mul (show n + 1 ≤ 8589934593 by omega) hby
    omega
  refine wpList_append_own_at (w.alloc (.cells #[u] e)) hgd s x t ho base e i z 1 bytes ht hi h2 h3 h4 hz1 (by decide) v n ((List.range n).map f) hs (World.ownsRow.alloc hown _) ⟨w.heap.size, 0, none⟩ 1 1 [u] hx rfl ?_ ?_ ?_ hb ?_ ?_
  · intro j y hj
    match j, hj with
    | 0, hj => simp at hj; subst hj; simp [Addr.add]
  · intro y hy; simp at hy; subst hy; exact h1
  · unfold maxLen; omega
  · simp; omega
  · intro v' w' q1 q2 _ q4
    refine h v' w' ?_ q2 ?_
    · unfold Gr; rw [map_range_snoc]; exact q1
    · simpa using q4

/-- 'append(s, ys...)'. -/
theorem wpList_cat {P : Program} (w : World) {ops : Array Oper} {rest : List Oper} {o : Oper} {a : Act} {Q : Exit → Act → World → Prop} (hgd : o.guard = none) (s x : Operand) (t : TypeId)
    (ho : o.op = .call { callee := .builtin .append, args := #[s, x], argTypes := #[t, t] })
    (base : Nat) (e : TypeId) (z : Value) (bytes : Nat) (ht : P.underlying t = some (.slice e)) (hinfo : (P.info? e).map (fun i => (i.zero, i.size, i.bytes)) = some (some z, 1, bytes)) (hz1 : z.cells.size = 1)
    (v : Value) (n : Nat) (f : Nat → Value) (hs : a.eval s = v) (hown : Gr w base e v n f) {ao : Option Addr} {b off m c : Nat} {g : Nat → Value} (hx : a.eval x = .slice ao m c) (hsee : Sees w ao b off m c g)
    (h1 : ∀ i, i < m → (g i).oneCell' = true) (hn : n + m ≤ 17179869184) (hby : bytes ≤ 64) (hbase : base ≤ w.heap.size)
    (h : ∀ v' w', Gr w' base e v' (n + m) (fun i => if i < n then f i else g (i - n)) → w.grownBy w' v.ownBlock → (v'.ownBlock = v.ownBlock ∨ v'.ownBlock = some w.heap.size) → wpList P ops Q rest (a.put o.dst v') w') :
    wpList P ops Q (o :: rest) a w := by
  obtain ⟨i, hi, h2, h3, h4⟩ := info_parts hinfo
  have hb : (n + m) * bytes ≤ 140737488355328 := by
    have := Nat.mul_le_mul hn hby
    omega
  cases ao with
  | none =>
    obtain ⟨rfl, rfl⟩ := hsee.1 rfl
    refine wpList_append_own_none hgd s x t ho base e i 1 ht hi v n _ hs hown hx (h v w ?_ ⟨rfl, rfl, rfl, Nat.le_refl _, fun _ _ _ => rfl⟩ (.inl rfl))
    exact hown.congr fun i hi => by rw [if_pos hi]
  | some ad =>
    refine wpList_append_own_at w hgd s x t ho base e i z 1 bytes ht hi h2 h3 h4 hz1 (by decide) v n ((List.range n).map f) hs hown ad m c ((List.range m).map g) hx (by simp) ?_ ?_ ?_ hb hbase ?_
    · intro j y hj
      have hjm : j < m := by
        rcases Nat.lt_or_ge j m with h | h
        · exact h
        · rw [List.getElem?_eq_none (by simpa using h)] at hj; cases hj
      have : y = g j := by simpa [hjm] using hj.symm
      subst this
      obtain ⟨e1, e2⟩ := hsee.get hjm
      simp only [Option.some.injEq] at e1
      subst e1
      by_cases h0 : j = 0
      · subst h0; simpa [Addr.add] using e2
      · simpa [Addr.add, h0] using e2
    · intro y hy
      obtain ⟨j, hj, rfl⟩ := List.mem_map.1 hy
      exact h1 j (by simpa using hj)
    · unfold maxLen; omega
    · intro v' w' q1 q2 _ q4
      refine h v' w' ?_ q2 q4
      unfold Gr; rw [map_range_app]; exact q1

/-- 'x[lo:hi]' of a slice that reads as f: the cut reads as f from lo on. -/
theorem cut_lh {P : Program} (t e : TypeId) (ht : P.underlying t = some (.slice e)) (hsz : (P.info? e).map (fun i => i.size) = some 1) {w : World} {ao : Option Addr} {b o n c : Nat} {f : Nat → Value} (hs : Sees w ao b o n c f)
    (lo hi : Nat) (h1 : lo ≤ hi) (h2 : hi ≤ n) : ∃ ao', (∀ wx, (Instr.slice t (.slice ao n c) (some (.int .i64 lo)) (some (.int .i64 hi)) none).run P wx = .ok (.slice ao' (hi - lo) (c - lo)) wx) ∧ Sees w ao' b (o + lo) (hi - lo) (c - lo) (fun i => f (lo + i)) := by
  obtain ⟨i, hi0, hi1⟩ := Option.map_eq_some_iff.1 hsz
  have hle := hs.le
  refine ⟨if c = lo then ao else ao.map (·.add (lo * 1)), fun wx => ?_, ?_, by omega, fun j hj => ?_⟩
  · have q1 : ((hi : Nat) : Int) ≤ (c : Int) := by omega
    have q2 : ((lo : Nat) : Int) ≤ (hi : Int) := by omega
    simp [Instr.slice, run_underlying ht, Instr.sliceBounds, run_sliceBound, sizeOf, typeInfo, hi0, hi1, q1, q2]
  · intro h0
    have : ao = none := by
      by_cases e : c = lo
      · rw [if_pos e] at h0; exact h0
      · rw [if_neg e] at h0; simpa using h0
    have := hs.1 this; omega
  · obtain ⟨e1, e2⟩ := hs.get (i := lo + j) (by omega)
    subst e1
    rw [if_neg (by omega)]
    refine ⟨?_, by rw [← Nat.add_assoc] at e2; exact e2⟩
    by_cases h0 : lo = 0
    · subst h0; simp [Addr.add]
    · simp [Addr.add, h0]

/-- 'x[lo:]'. -/
theorem cut_l {P : Program} (t e : TypeId) (ht : P.underlying t = some (.slice e)) (hsz : (P.info? e).map (fun i => i.size) = some 1) {w : World} {ao : Option Addr} {b o n c : Nat} {f : Nat → Value} (hs : Sees w ao b o n c f)
    (lo : Nat) (h1 : lo ≤ n) : ∃ ao', (∀ wx, (Instr.slice t (.slice ao n c) (some (.int .i64 lo)) none none).run P wx = .ok (.slice ao' (n - lo) (c - lo)) wx) ∧ Sees w ao' b (o + lo) (n - lo) (c - lo) (fun i => f (lo + i)) := by
  obtain ⟨i, hi0, hi1⟩ := Option.map_eq_some_iff.1 hsz
  obtain ⟨ao', h2, h3⟩ := cut_lh t e ht hsz hs lo n h1 (Nat.le_refl _)
  refine ⟨ao', fun wx => ?_, h3⟩
  rw [← h2 wx]
  have q1 : ((n : Nat) : Int) ≤ (c : Int) := by have := hs.le; omega
  have q2 : ((lo : Nat) : Int) ≤ (n : Int) := by omega
  simp [Instr.slice, run_underlying ht, Instr.sliceBounds, run_sliceBound, sizeOf, typeInfo, hi0, q1, q2]

/-- 'copy(dst, src)' over the whole of a row that the call has made. -/
theorem wpList_copyRow {P : Program} (w : World) {ops : Array Oper} {rest : List Oper} {o : Oper} {a : Act} {Q : Exit → Act → World → Prop} (hgd : o.guard = none) (d s : Operand) (dT sT : TypeId)
    (ho : o.op = .call { callee := .builtin .copy, args := #[d, s], argTypes := #[dT, sT] }) (e : TypeId) (hu : P.underlying dT = some (.slice e)) (hsz : (P.info? e).map (fun i => i.size) = some 1)
    (g m : Nat) (f0 : Nat → Value) (hrow : w.rowIs g e m f0) (hd : a.eval d = .slice (some ⟨g, 0, none⟩) m m) {ao : Option Addr} {b off n c : Nat} {f : Nat → Value} (hs : a.eval s = .slice ao n c) (hsee : Sees w ao b off n c f)
    (hmn : m ≤ n) (h1 : ∀ i, i < m → (f i).oneCell' = true)
    (h : ∀ w', w'.rowIs g e m f → w.grownBy w' (some g) → wpList P ops Q rest (a.put o.dst (goInt m)) w') : wpList P ops Q (o :: rest) a w := by
  by_cases hm : m = 0
  · subst hm
    refine wpList_copy_nothing hgd d s dT sT ho e hu hsz _ _ _ _ _ _ hd hs (by simp) (h w ?_ ⟨rfl, rfl, rfl, Nat.le_refl _, fun _ _ _ => rfl⟩)
    exact hrow.congr fun i hi => absurd hi (Nat.not_lt_zero _)
  · obtain ⟨cur, hg, hcs, _⟩ := hrow
    obtain ⟨e1, _⟩ := hsee.get (i := 0) (by omega)
    subst e1
    have hlen : ((List.range m).map f).length = m := by simp
    refine wpList_copy_own hgd d s dT sT ho e hu hsz g 0 m m ⟨b, off, none⟩ n c hd hs cur e hg ((List.range m).map f) (by rw [hlen]; exact (Nat.min_eq_right hmn).symm) ?_ (by rw [hlen]; omega) ?_ ?_
    · intro j v hj
      have hjm : j < m := by
        rcases Nat.lt_or_ge j m with h | h
        · exact h
        · rw [List.getElem?_eq_none (by simpa using h)] at hj; cases hj
      have : v = f j := by simpa [hjm] using hj.symm
      subst this
      have e2 := (hsee.get (i := j) (by omega)).2
      by_cases h0 : j = 0
      · subst h0; simpa [Addr.add] using e2
      · simpa [Addr.add, h0] using e2
    · intro v hv
      obtain ⟨j, hj, rfl⟩ := List.mem_map.1 hv
      exact h1 j (by simpa using hj)
    · rw [hlen]
      refine h _ ?_ ⟨rfl, rfl, rfl, by simp [World.setRow], fun k _ hk => setRow_other w g k _ (fun e => hk (by rw [e]))⟩
      refine ⟨_, setRow_heap w g cur _ e _ hg, ?_, fun i hi => ?_⟩
      · simp; omega
      · simp only [List.take_zero, List.nil_append, List.getElem?_toArray]
        rw [List.getElem?_append_left (by simpa using hi)]
        simp [hi]

end Go.Proofs.YtkocpijloiamcaaDoor

/- What a call leaves: a slice that reads as f, nothing that was there turned. No program in sight. -/
namespace Go.Proofs.YtkocpijloiamcaaDoor
open Go.RowKit

/-- A slice comes back that reads as f; nothing that was there has turned. -/
def RetSees (w : World) (n : Nat) (f : Nat → Value) (e : Ending) (w' : World) : Prop := ∃ ao b o c, e = .returned (.slice ao n c) ∧ Sees w' ao b o n c f ∧ w.heap.size ≤ b ∧ w.Since w.heap.size w'

theorem Gr.ret {w w' : World} {base : Nat} {e : TypeId} {v : Value} {n : Nat} {f : Nat → Value} (h : Gr w' base e v n f) (s : w.Since w.heap.size w') (hb : w.heap.size ≤ base) : RetSees w n f (.returned v) w' := by
  obtain ⟨ao, b, c, rfl, hb2, hs⟩ := h.sees
  exact ⟨ao, b, 0, c, rfl, hs, Nat.le_trans hb hb2, s⟩

/-- A slice comes back that the call has made, and that reads as f; nothing that was there has turned. -/
def RetGr (E : TypeId) (w : World) (n : Nat) (f : Nat → Value) (e : Ending) (w' : World) : Prop := ∃ ao c, e = .returned (.slice ao n c) ∧ Gr w' w.heap.size E (.slice ao n c) n f ∧ w.Since w.heap.size w'

theorem RetGr.sees {E : TypeId} {w : World} {n : Nat} {f : Nat → Value} {e : Ending} {w' : World} (h : RetGr E w n f e w') : RetSees w n f e w' := by
  obtain ⟨ao, c, rfl, hg, hs⟩ := h
  obtain ⟨b, hb, hs'⟩ := hg.see
  exact ⟨ao, b, 0, c, rfl, hs', hb, hs⟩

theorem Gr.ret' {w w' : World} {e : TypeId} {v : Value} {n : Nat} {f : Nat → Value} (h : Gr w' w.heap.size e v n f) (s : w.Since w.heap.size w') : RetGr e w n f (.returned v) w' := by
  obtain ⟨ao, b, c, rfl, hb2, hs⟩ := h.sees
  exact ⟨ao, c, rfl, h, s⟩

theorem ret_bool {a b : Bool} (h : a = b) : Ending.returned (.bool a) = .returned (.bool b) := by rw [h]

end Go.Proofs.YtkocpijloiamcaaDoor

/- Rows of the type table that the walks of this seat need. -/
namespace Go.Proofs.YtkocpijloiamcaaDoor
theorem Tryd.infoInt : (Tryd.prog.info? 3).map (fun i => (i.zero, i.size, i.bytes)) = some (some (.int .i64 0), 1, 8) := by kernel_rfl
theorem Tryd.sizeInt : (Tryd.prog.info? 3).map (fun i => i.size) = some 1 := by kernel_rfl
theorem Tryd.infoBool : (Tryd.prog.info? 4).map (fun i => (i.zero, i.size, i.bytes)) = some (some (.bool false), 1, 1) := by kernel_rfl
theorem Tryd.sizeBool : (Tryd.prog.info? 4).map (fun i => i.size) = some 1 := by kernel_rfl
theorem Tryd.infoInt8 : (Tryd.prog.info? 49).map (fun i => (i.zero, i.size, i.bytes)) = some (some (.int .i8 0), 1, 1) := by kernel_rfl
theorem Tryd.sizeInt8 : (Tryd.prog.info? 49).map (fun i => i.size) = some 1 := by kernel_rfl
theorem Tryd.infoLevel : (Tryd.prog.info? 62).map (fun i => (i.zero, i.size, i.bytes)) = some (some (.int .i8 0), 1, 1) := by kernel_rfl
theorem Tryd.sizeLevel : (Tryd.prog.info? 62).map (fun i => i.size) = some 1 := by kernel_rfl
theorem Tryd.infoClass : (Tryd.prog.info? 67).map (fun i => (i.zero, i.size, i.bytes)) = some (some (.int .u64 0), 1, 8) := by kernel_rfl
theorem Tryd.sizeClass : (Tryd.prog.info? 67).map (fun i => i.size) = some 1 := by kernel_rfl
theorem Tryd.infoByte : (Tryd.prog.info? 5).map (fun i => (i.zero, i.size, i.bytes)) = some (some (.int .u8 0), 1, 1) := by kernel_rfl
theorem Tryd.sizeByte : (Tryd.prog.info? 5).map (fun i => i.size) = some 1 := by kernel_rfl
theorem Tryd.infoRune : (Tryd.prog.info? 21).map (fun i => (i.zero, i.size, i.bytes)) = some (some (.int .i32 0), 1, 4) := by kernel_rfl
theorem Tryd.sizeRune : (Tryd.prog.info? 21).map (fun i => i.size) = some 1 := by kernel_rfl
theorem Tryd.infoBrk : (Tryd.prog.info? 79).map (fun i => (i.zero, i.size, i.bytes)) = some (some (.int .u8 0), 1, 1) := by kernel_rfl
theorem Tryd.sizeBrk : (Tryd.prog.info? 79).map (fun i => i.size) = some 1 := by kernel_rfl
theorem Tryd.infoInts : (Tryd.prog.info? 22).map (fun i => (i.zero, i.size, i.bytes)) = some (some (.slice none 0 0), 1, 24) := by kernel_rfl
theorem Tryd.sizeInts : (Tryd.prog.info? 22).map (fun i => i.size) = some 1 := by kernel_rfl
end Go.Proofs.YtkocpijloiamcaaDoor

/- Calls that only read, inside of a region that draws its order. No program in sight. -/
namespace Go.Proofs.YtkocpijloiamcaaDoor
open Go.RowKit

theorem quiet_same {P : Program} {f : FuncId} {args : Array Value} {w : World} {n : Nat} {v v' : Value} (hv : v = v')
    (h : Calls P f args (w.drewN n) fun e w' => e = .returned v ∧ w.drewN n = w') : Calls P f args (w.drewN n) fun e w'' => e = .returned v' ∧ ∃ m, w'' = w.drewN m :=
  h.mono fun _ _ ⟨he, hm⟩ => ⟨hv ▸ he, n, hm.symm⟩

end Go.Proofs.YtkocpijloiamcaaDoor

/- Slices of structs of one-cell fields that the call itself makes: an element is a list of cells. No program in sight. -/
namespace Go.Proofs.YtkocpijloiamcaaDoor
open Go.RowKit

/-- The slice value v, of n elements of s cells each, is nil or begins a block from 'base' on, and holds the cells F 0, F 1, .. F (n - 1). -/
def Gw (w : World) (base : Nat) (e : TypeId) (s : Nat) (v : Value) (n : Nat) (F : Nat → List Value) : Prop := w.ownsRow base e s v n ((List.range n).flatMap F)

theorem flat_len {F : Nat → List Value} {s : Nat} : ∀ n, (∀ i, i < n → (F i).length = s) → ((List.range n).flatMap F).length = n * s
  | 0, _ => by simp
  | n + 1, h => by
    rw [List.range_succ, List.flatMap_append, List.length_append, flat_len n (fun i hi => h i (by omega))]
    simp only [List.flatMap_cons, List.flatMap_nil, List.append_nil]
    rw [h n (by omega), Nat.succ_mul]

theorem flat_at {F : Nat → List Value} {s : Nat} : ∀ n, (∀ i, i < n → (F i).length = s) → ∀ i c, i < n → c < s → ((List.range n).flatMap F)[i * s + c]? = (F i)[c]?
  | 0, _, i, c, hi, _ => absurd hi (Nat.not_lt_zero _)
  | n + 1, h, i, c, hi, hc => by
    have hl := flat_len (F := F) n (fun i hi => h i (by omega))
    rw [List.range_succ, List.flatMap_append]
    simp only [List.flatMap_cons, List.flatMap_nil, List.append_nil]
    by_cases e : i = n
    · subst e
      rw [List.getElem?_append_right (by omega), hl, Nat.add_sub_cancel_left]
    · have hlt : i * s + c < n * s := by
        have : (i + 1) * s ≤ n * s := Nat.mul_le_mul_right _ (by omega)
        rw [Nat.succ_mul] at this; omega
      rw [List.getElem?_append_left (by rw [hl]; exact hlt)]
      exact flat_at n (fun i hi => h i (by omega)) i c (by omega) hc

theorem flat_take {F : Nat → List Value} {s : Nat} (n m : Nat) (hm : m ≤ n) (h : ∀ i, i < n → (F i).length = s) : ((List.range n).flatMap F).take (m * s) = (List.range m).flatMap F := by
  have e : List.range n = List.range m ++ (List.range (n - m)).map (m + ·) := by
    rw [← List.range_add, Nat.add_sub_cancel' hm]
  rw [e, List.flatMap_append, List.take_left' (flat_len m (fun i hi => h i (by omega)))]

section
variable {w w' : World} {base : Nat} {e : TypeId} {s : Nat} {v : Value} {n : Nat} {F G : Nat → List Value}

theorem Gw.cell {q cap : Nat} (h : Gw w base e s (.slice (some ⟨q, 0, none⟩) n cap) n F) (hF : ∀ i, i < n → (F i).length = s) {i c : Nat} (hi : i < n) (hc : c < s) (u : Value) (hu : (F i)[c]? = some u) : w.cell? ⟨q, i * s + c, none⟩ = some u := by
  have h2 := World.ownsRow.cells h (g := q) rfl (i * s + c) u (by rw [flat_at n hF i c hi hc]; exact hu)
  have e : (⟨q, 0, none⟩ : Addr).add (i * s + c) = ⟨q, i * s + c, none⟩ := by
    unfold Addr.add
    by_cases h0 : i * s + c = 0
    · rw [if_pos h0, h0]
    · rw [if_neg h0, Nat.zero_add]
  rw [e] at h2; exact h2

theorem Gw.ge (h : Gw w base e s v n F) : ∀ k, v.ownBlock = some k → base ≤ k ∧ k < w.heap.size := World.ownsRow.lt h

theorem Gw.kept' (h : Gw w base e s v n F) (hk : ∀ k, v.ownBlock = some k → w'.heap[k]? = w.heap[k]?) : Gw w' base e s v n F := by
  refine ⟨h.1, ?_⟩
  rcases h.2 with hn | ⟨g', cap, cur, rfl, hb, hg, rest⟩
  · exact .inl hn
  · exact .inr ⟨g', cap, cur, rfl, hb, by rw [hk g' rfl]; exact hg, rest⟩

theorem Gw.since (h : Gw w base e s v n F) (k : w.Since w.heap.size w') : Gw w' base e s v n F := h.kept' (fun q hq => k.block q (h.ge q hq).2)

theorem Gw.alloc (h : Gw w base e s v n F) (x : Obj) : Gw (w.alloc x) base e s v n F := World.ownsRow.alloc h x

theorem Gw.congr (h : Gw w base e s v n F) (k : ∀ i, i < n → F i = G i) : Gw w base e s v n G := by
  unfold Gw at *
  have : (List.range n).flatMap F = (List.range n).flatMap G := by
    rw [List.flatMap_def, List.flatMap_def]
    congr 1
    exact List.map_congr_left fun i hi => k i (by simpa using hi)
  rw [← this]; exact h

theorem Gw.form (h : Gw w base e s v n F) (hn : 0 < n) : ∃ g cap, v = .slice (some ⟨g, 0, none⟩) n cap ∧ base ≤ g ∧ n ≤ cap := by
  rcases h.2 with ⟨rfl, rfl⟩ | ⟨g', cap, cur, rfl, hb, hg, hc, rest⟩
  · omega
  · exact ⟨g', cap, rfl, hb, hc⟩

/-- 'x[:m]'. -/
theorem Gw.cut {q cap m : Nat} (h : Gw w base e s (.slice (some ⟨q, 0, none⟩) n cap) n F) (hF : ∀ i, i < n → (F i).length = s) (hm : m ≤ n) : Gw w base e s (.slice (some ⟨q, 0, none⟩) m cap) m F := by
  refine ⟨flat_len m (fun i hi => hF i (by omega)), .inr ?_⟩
  rcases h.2 with ⟨h1, _⟩ | ⟨g', cap', cur, h1, hb, hg, hc, hx, hsz, ht⟩
  · simp at h1
  · simp only [Value.slice.injEq, Option.some.injEq, Addr.mk.injEq] at h1
    obtain ⟨⟨rfl, _, _⟩, _, rfl⟩ := h1
    refine ⟨q, cap, cur, rfl, hb, hg, by omega, hx, hsz, ?_⟩
    rw [← flat_take n m hm hF, ← ht, List.take_take]
    congr 1
    have : m * s ≤ n * s := Nat.mul_le_mul_right _ hm
    omega

theorem Gw.nil (w : World) (base : Nat) (e : TypeId) (s : Nat) (F : Nat → List Value) : Gw w base e s (.slice none 0 0) 0 F := World.ownsRow_nil _ _ _ _

/-- '[]T{}'. -/
theorem Gw.empty (w : World) (base : Nat) (e : TypeId) (s : Nat) (F : Nat → List Value) (hb : base ≤ w.heap.size) : Gw (w.alloc (.cells #[] e)) base e s (.slice (some ⟨w.heap.size, 0, none⟩) 0 0) 0 F := by
  have := World.ownsRow_made (size := s) (e := e) w #[] 0 hb (Nat.zero_le _) (by simp)
  simpa [Gw] using this
end

theorem flat_snoc (F : Nat → List Value) (n : Nat) (u : List Value) : (List.range (n + 1)).flatMap (fun i => if i = n then u else F i) = (List.range n).flatMap F ++ u := by
  rw [List.range_succ, List.flatMap_append]
  simp only [List.flatMap_cons, List.flatMap_nil, List.append_nil, if_pos]
  congr 1
  rw [List.flatMap_def, List.flatMap_def]
  congr 1
  refine List.map_congr_left fun i hi => ?_
  have : i < n := by simpa using hi
  rw [if_neg (by omega)]

/-- 'append(s, x)', where x has just been laid in a block of its own. -/
theorem wpList_pushW {P : Program} (w : World) {ops : Array Oper} {rest : List Oper} {o : Oper} {a : Act} {Q : Exit → Act → World → Prop} (hgd : o.guard = none) (s x : Operand) (t : TypeId)
    (ho : o.op = .call { callee := .builtin .append, args := #[s, x], argTypes := #[t, t] })
    (base : Nat) (e : TypeId) (z : Value) (size bytes : Nat) (ht : P.underlying t = some (.slice e)) (hinfo : (P.info? e).map (fun i => (i.zero, i.size, i.bytes)) = some (some z, size, bytes)) (hz1 : z.cells.size = size) (hsz : 0 < size)
    (v : Value) (n : Nat) (F : Nat → List Value) (us : List Value) (hs : a.eval s = v) (hown : Gw w base e size v n F) (hx : a.eval x = .slice (some ⟨w.heap.size, 0, none⟩) 1 1) (hl : us.length = size) (h1 : ∀ u ∈ us, u.oneCell' = true)
    (hn : n ≤ 8589934592) (hby : bytes ≤ 128) (hbase : base ≤ w.heap.size)
    (h : ∀ v' w', Gw w' base e size v' (n + 1) (fun i => if i = n then us else F i) → (w.alloc (.cells us.toArray e)).grownBy w' v.ownBlock → (v'.ownBlock = v.ownBlock ∨ v'.ownBlock = some (w.heap.size + 1)) → wpList P ops Q rest (a.put o.dst v') w') :
    wpList P ops Q (o :: rest) a (w.alloc (.cells us.toArray e)) := by
  obtain ⟨i, hi, h2, h3, h4⟩ := info_parts hinfo
  have hb : (n + 1) * bytes ≤ 140737488355328 := by
    have := Nat.mul_le_mul (show n + 1 ≤ 8589934593 by omega) hby
    omega
  refine wpList_append_own_at (w.alloc (.cells us.toArray e)) hgd s x t ho base e i z size bytes ht hi h2 h3 h4 hz1 hsz v n ((List.range n).flatMap F) hs (World.ownsRow.alloc hown _) ⟨w.heap.size, 0, none⟩ 1 1 us hx (by rw [hl]; omega) ?_ h1 ?_ hb ?_ ?_
  · intro j y hj
    have hj2 : us[j]? = some y := hj
    have e2 : (⟨w.heap.size, 0, none⟩ : Addr).add j = ⟨w.heap.size, j, none⟩ := by
      unfold Addr.add
      by_cases h0 : j = 0
      · rw [if_pos h0, h0]
      · rw [if_neg h0, Nat.zero_add]
    rw [e2]
    have hh := heap_alloc_new w (.cells us.toArray e)
    unfold World.cell?
    simp only [hh]
    simpa using hj2
  · unfold maxLen; omega
  · simp; omega
  · intro v' w' q1 q2 _ q4
    refine h v' w' ?_ q2 ?_
    · unfold Gw; rw [flat_snoc]; exact q1
    · simpa using q4

end Go.Proofs.YtkocpijloiamcaaDoor

/- Lists of lists in memory: a slice of slices of ints that the call itself makes. No program in sight but for the types' rows. -/
namespace Go.Proofs.YtkocpijloiamcaaDoor
open Go.RowKit
set_option linter.unusedVariables false

/-- A list of places as cells. -/
def cellsOf (l : List Nat) : Nat → Value := fun i => .int .i64 ((l.getD i 0 : Nat) : Int)

theorem cellsOf_snoc (l : List Nat) (k : Nat) (i : Nat) : cellsOf (l ++ [k]) i = if i = l.length then .int .i64 (k : Int) else cellsOf l i := by
  unfold cellsOf
  by_cases e : i = l.length
  · rw [if_pos e, e, List.getD_eq_getElem?_getD, List.getElem?_append_right (Nat.le_refl _)]; simp
  · rw [if_neg e]
    by_cases h : i < l.length
    · rw [List.getD_eq_getElem?_getD, List.getElem?_append_left h, List.getD_eq_getElem?_getD]
    · rw [List.getD_eq_getElem?_getD, List.getD_eq_getElem?_getD, List.getElem?_eq_none (by simp; omega), List.getElem?_eq_none (by omega)]

theorem cellsOf_app (A r : List Nat) (i : Nat) : cellsOf (A ++ r) i = if i < A.length then cellsOf A i else cellsOf r (i - A.length) := by
  unfold cellsOf
  by_cases h : i < A.length
  · rw [if_pos h, List.getD_eq_getElem?_getD, List.getElem?_append_left h, List.getD_eq_getElem?_getD]
  · rw [if_neg h, List.getD_eq_getElem?_getD, List.getElem?_append_right (by omega), List.getD_eq_getElem?_getD]

/-- The slice value v holds the rows R: each row in a block of its own, none the outer one's. -/
def LL (w : World) (base : Nat) (v : Value) (R : List (List Nat)) : Prop :=
  ∃ f : Nat → Value, Gr w base 22 v R.length f ∧ (∀ j, j < R.length → Gr w base 3 (f j) (R.getD j []).length (cellsOf (R.getD j []))) ∧
    (∀ j, j < R.length → Apart v (f j)) ∧ (∀ j k, j < R.length → k < R.length → j ≠ k → Apart (f j) (f k))

/-- .. as it is read. -/
def SeesLL (w : World) (ao : Option Addr) (b o c : Nat) (R : List (List Nat)) : Prop :=
  ∃ f : Nat → Value, Sees w ao b o R.length c f ∧ ∀ j, j < R.length → ∃ a b o c, f j = .slice a (R.getD j []).length c ∧ Sees w a b o (R.getD j []).length c (cellsOf (R.getD j []))

section
variable {w w' : World} {base : Nat} {v : Value} {R : List (List Nat)}

theorem LL.since (h : LL w base v R) (s : w.Since w.heap.size w') : LL w' base v R := by
  obtain ⟨f, h1, h2, h3, h4⟩ := h
  exact ⟨f, h1.since s, fun j hj => (h2 j hj).since s, h3, h4⟩

/-- Where some blocks may have turned, but none of these. -/
theorem LL.kept {S : Nat → Prop} (h : LL w base v R) (s : Kp S w w') (h1 : ∀ k, v.ownBlock = some k → ¬ S k) (h2 : ∀ f : Nat → Value, (∀ j, j < R.length → Gr w base 3 (f j) (R.getD j []).length (cellsOf (R.getD j []))) → Gr w base 22 v R.length f → ∀ j, j < R.length → ∀ k, (f j).ownBlock = some k → ¬ S k) : LL w' base v R := by
  obtain ⟨f, q1, q2, q3, q4⟩ := h
  exact ⟨f, q1.kept' (fun k hk => s.block k (q1.ge k hk).2 (h1 k hk)), fun j hj => (q2 j hj).kept' (fun k hk => s.block k ((q2 j hj).ge k hk).2 (h2 f q2 q1 j hj k hk)), q3, q4⟩

theorem Gr.len {n : Nat} {f : Nat → Value} {e : TypeId} (h : Gr w base e v n f) : ∃ ao c, v = .slice ao n c := by
  obtain ⟨ao, b, c, rfl, _, _⟩ := h.sees
  exact ⟨ao, c, rfl⟩

theorem Gr.one {n : Nat} {f : Nat → Value} {e : TypeId} (h : Gr w base e v n f) : v.oneCell' = true := by
  obtain ⟨ao, c, rfl⟩ := h.len
  rfl

theorem LL.sees {ao : Option Addr} {n c : Nat} (h : LL w base (.slice ao n c) R) : n = R.length ∧ ∃ b, base ≤ b ∧ SeesLL w ao b 0 c R := by
  obtain ⟨f, h1, h2, _, _⟩ := h
  obtain ⟨ao', b, c', hv, hb, hs⟩ := h1.sees
  simp only [Value.slice.injEq] at hv
  obtain ⟨rfl, rfl, rfl⟩ := hv
  refine ⟨rfl, b, hb, f, hs, fun j hj => ?_⟩
  obtain ⟨a1, b1, c1, hv1, _, hs1⟩ := (h2 j hj).sees
  exact ⟨a1, b1, 0, c1, hv1, hs1⟩

theorem SeesLL.since {ao : Option Addr} {b o c : Nat} (h : SeesLL w ao b o c R) (s : w.Since w.heap.size w') : SeesLL w' ao b o c R := by
  obtain ⟨f, h1, h2⟩ := h
  refine ⟨f, h1.since s, fun j hj => ?_⟩
  obtain ⟨a1, b1, o1, c1, hv, hs⟩ := h2 j hj
  exact ⟨a1, b1, o1, c1, hv, hs.since s⟩

theorem LL.form (h : LL w base v R) : ∃ ao c, v = .slice ao R.length c := by
  obtain ⟨f, h1, _⟩ := h
  exact h1.len

/-- A row more: behind the append of the outer slice. -/
theorem LL.push {v' u : Value} {f : Nat → Value} {r : List Nat} (h1 : Gr w' base 22 v' (R.length + 1) (fun i => if i = R.length then u else f i))
    (h2 : ∀ j, j < R.length → Gr w' base 3 (f j) (R.getD j []).length (cellsOf (R.getD j []))) (h3 : ∀ j, j < R.length → Apart v' (f j)) (h4 : ∀ j k, j < R.length → k < R.length → j ≠ k → Apart (f j) (f k))
    (hu : Gr w' base 3 u r.length (cellsOf r)) (h5 : Apart v' u) (h6 : ∀ j, j < R.length → Apart (f j) u) : LL w' base v' (R ++ [r]) := by
  have hl : (R ++ [r]).length = R.length + 1 := by simp
  have ga : ∀ j, j < R.length → (R ++ [r]).getD j [] = R.getD j [] := fun j hj => by
    rw [List.getD_eq_getElem?_getD, List.getElem?_append_left hj, List.getD_eq_getElem?_getD]
  have gb : (R ++ [r]).getD R.length [] = r := by
    rw [List.getD_eq_getElem?_getD, List.getElem?_append_right (Nat.le_refl _)]; simp
  refine ⟨fun i => if i = R.length then u else f i, by rw [hl]; exact h1, fun j hj => ?_, fun j hj => ?_, fun j k hj hk hne => ?_⟩
  · rw [hl] at hj
    by_cases e : j = R.length
    · subst e; (try dsimp only); rw [if_pos rfl, gb]; exact hu
    · (try dsimp only); rw [if_neg e, ga j (by omega)]; exact h2 j (by omega)
  · rw [hl] at hj
    by_cases e : j = R.length
    · (try dsimp only); rw [if_pos e]; exact h5
    · (try dsimp only); rw [if_neg e]; exact h3 j (by omega)
  · rw [hl] at hj hk
    (try dsimp only)
    by_cases e1 : j = R.length
    · rw [if_pos e1, if_neg (by omega)]; exact (h6 k (by omega)).symm
    · rw [if_neg e1]
      by_cases e2 : k = R.length
      · rw [if_pos e2]; exact h6 j (by omega)
      · rw [if_neg e2]; exact h4 j k (by omega) (by omega) hne

theorem LL.nil (w : World) (base : Nat) (v : Value) (f : Nat → Value) (h : Gr w base 22 v 0 f) : LL w base v [] :=
  ⟨f, h, fun j hj => absurd hj (Nat.not_lt_zero _), fun j hj => absurd hj (Nat.not_lt_zero _), fun j _ hj => absurd hj (Nat.not_lt_zero _)⟩
end

/-- Lists and one more row that is not among them yet. -/
structure LLp (w : World) (base : Nat) (v : Value) (R : List (List Nat)) (u : Value) (r : List Nat) (f : Nat → Value) : Prop where
  outer : Gr w base 22 v R.length f
  rows : ∀ j, j < R.length → Gr w base 3 (f j) (R.getD j []).length (cellsOf (R.getD j []))
  apart : ∀ j, j < R.length → Apart v (f j)
  pair : ∀ j k, j < R.length → k < R.length → j ≠ k → Apart (f j) (f k)
  row : Gr w base 3 u r.length (cellsOf r)
  ou : Apart v u
  ru : ∀ j, j < R.length → Apart (f j) u

section
variable {w w' : World} {base : Nat} {v u v' u' : Value} {R : List (List Nat)} {r : List Nat} {f : Nat → Value}

theorem LLp.ll (h : LLp w base v R u r f) : LL w base v R := ⟨f, h.outer, h.rows, h.apart, h.pair⟩

theorem LLp.alloc (h : LLp w base v R u r f) (x : Obj) : LLp (w.alloc x) base v R u r f := ⟨h.outer.alloc x, fun j hj => (h.rows j hj).alloc x, h.apart, h.pair, h.row.alloc x, h.ou, h.ru⟩

theorem LLp.since (h : LLp w base v R u r f) (s : w.Since w.heap.size w') : LLp w' base v R u r f := ⟨h.outer.since s, fun j hj => (h.rows j hj).since s, h.apart, h.pair, h.row.since s, h.ou, h.ru⟩

theorem apart_nil (v : Value) : Apart v (.slice none 0 0) := fun k _ h => by simp [Value.ownBlock] at h

/-- 'append(all, run)': the row is among them. -/
theorem LLp.pushOuter {x : Obj} (h : LLp w base v R u r f) (h1 : Gr w' base 22 v' (R.length + 1) (fun i => if i = R.length then u else f i)) (hg : (w.alloc x).grownBy w' v.ownBlock)
    (hat : v'.ownBlock = v.ownBlock ∨ v'.ownBlock = some (w.heap.size + 1)) : LLp w' base v' (R ++ [r]) (.slice none 0 0) [] (fun i => if i = R.length then u else f i) := by
  have hrows : ∀ j, j < R.length → Gr w' base 3 (f j) (R.getD j []).length (cellsOf (R.getD j [])) := fun j hj => ((h.rows j hj).alloc x).apart hg (h.apart j hj)
  have hu : Gr w' base 3 u r.length (cellsOf r) := (h.row.alloc x).apart hg h.ou
  have ha : ∀ j, j < R.length → Apart v' (f j) := fun j hj => (h.apart j hj).push hat (fun k hk => by have := ((h.rows j hj).ge k hk).2; omega)
  have hau : Apart v' u := h.ou.push hat (fun k hk => by have := (h.row.ge k hk).2; omega)
  have hl : (R ++ [r]).length = R.length + 1 := by simp
  have ga : ∀ j, j < R.length → (R ++ [r]).getD j [] = R.getD j [] := fun j hj => by
    rw [List.getD_eq_getElem?_getD, List.getElem?_append_left hj, List.getD_eq_getElem?_getD]
  have gb : (R ++ [r]).getD R.length [] = r := by
    rw [List.getD_eq_getElem?_getD, List.getElem?_append_right (Nat.le_refl _)]; simp
  refine ⟨by rw [hl]; exact h1, fun j hj => ?_, fun j hj => ?_, fun j k hj hk hne => ?_, Gr.nil _ _ _ _, apart_nil _, fun _ _ => apart_nil _⟩
  · rw [hl] at hj
    by_cases e : j = R.length
    · subst e; (try dsimp only); rw [if_pos rfl, gb]; exact hu
    · (try dsimp only); rw [if_neg e, ga j (by omega)]; exact hrows j (by omega)
  · rw [hl] at hj
    by_cases e : j = R.length
    · (try dsimp only); rw [if_pos e]; exact hau
    · (try dsimp only); rw [if_neg e]; exact ha j (by omega)
  · rw [hl] at hj hk
    (try dsimp only)
    by_cases e1 : j = R.length
    · rw [if_pos e1, if_neg (by omega)]; exact (h.ru k (by omega)).symm
    · rw [if_neg e1]
      by_cases e2 : k = R.length
      · rw [if_pos e2]; exact h.ru j (by omega)
      · rw [if_neg e2]; exact h.pair j k (by omega) (by omega) hne

/-- 'append(run, k)'. -/
theorem LLp.pushRow {x : Obj} {k : Nat} (h : LLp w base v R u r f) (h1 : Gr w' base 3 u' (r.length + 1) (fun i => if i = r.length then .int .i64 (k : Int) else cellsOf r i)) (hg : (w.alloc x).grownBy w' u.ownBlock)
    (hat : u'.ownBlock = u.ownBlock ∨ u'.ownBlock = some (w.heap.size + 1)) : LLp w' base v R u' (r ++ [k]) f := by
  have hl : (r ++ [k]).length = r.length + 1 := by simp
  refine ⟨(h.outer.alloc x).apart hg h.ou.symm, fun j hj => ((h.rows j hj).alloc x).apart hg (h.ru j hj).symm, h.apart, h.pair, by rw [hl]; exact h1.congr (fun i _ => (cellsOf_snoc r k i).symm), ?_, fun j hj => ?_⟩
  · exact (h.ou.symm.push hat (fun k hk => by have := (h.outer.ge k hk).2; omega)).symm
  · exact ((h.ru j hj).symm.push hat (fun k hk => by have := ((h.rows j hj).ge k hk).2; omega)).symm

/-- A row out of the middle of nothing: the pending row is new. -/
theorem LL.pend (h : LL w base v R) : ∃ f, LLp w base v R (.slice none 0 0) [] f := by
  obtain ⟨f, h1, h2, h3, h4⟩ := h
  exact ⟨f, h1, h2, h3, h4, Gr.nil _ _ _ _, apart_nil _, fun _ _ => apart_nil _⟩

theorem getD_snoc {A : List (List Nat)} {r : List Nat} (j : Nat) : (A ++ [r]).getD j [] = if j = A.length then r else A.getD j [] := by
  by_cases e : j = A.length
  · rw [if_pos e, e, List.getD_eq_getElem?_getD, List.getElem?_append_right (Nat.le_refl _)]; simp
  · rw [if_neg e]
    by_cases h : j < A.length
    · rw [List.getD_eq_getElem?_getD, List.getElem?_append_left h, List.getD_eq_getElem?_getD]
    · rw [List.getD_eq_getElem?_getD, List.getD_eq_getElem?_getD, List.getElem?_eq_none (by simp; omega), List.getElem?_eq_none (by omega)]

/-- 'all[last] = append(all[last], k)', behind the append and the store. -/
theorem LL.setLast {A : List (List Nat)} {q cap k : Nat} {x : Obj} (h1 : Gr w base 22 (.slice (some ⟨q, 0, none⟩) (A.length + 1) cap) (A.length + 1) f)
    (h2 : ∀ j, j < A.length + 1 → Gr w base 3 (f j) ((A ++ [r]).getD j []).length (cellsOf ((A ++ [r]).getD j []))) (h3 : ∀ j, j < A.length + 1 → Apart (.slice (some ⟨q, 0, none⟩) (A.length + 1) cap) (f j))
    (h4 : ∀ j k, j < A.length + 1 → k < A.length + 1 → j ≠ k → Apart (f j) (f k)) (hr : Gr w' base 3 u' (r.length + 1) (fun i => if i = r.length then .int .i64 (k : Int) else cellsOf r i)) (hg : (w.alloc x).grownBy w' (f A.length).ownBlock)
    (hat : u'.ownBlock = (f A.length).ownBlock ∨ u'.ownBlock = some (w.heap.size + 1)) :
    LL (w'.setCell ⟨q, A.length, none⟩ u') base (.slice (some ⟨q, 0, none⟩) (A.length + 1) cap) (A ++ [r ++ [k]]) := by
  have hl : (A ++ [r ++ [k]]).length = A.length + 1 := by simp
  have hqu : ∀ k, u'.ownBlock = some k → k ≠ q := fun k hk e => by
    subst e
    rcases hat with e | e
    · exact h3 A.length (by omega) k rfl (by rw [← e]; exact hk)
    · rw [e] at hk
      have := (h1.ge k rfl).2
      simp only [Option.some.injEq] at hk
      omega
  have hfq : ∀ j, j < A.length + 1 → ∀ k, (f j).ownBlock = some k → k ≠ q := fun j hj k hk e => by subst e; exact h3 j hj k rfl hk
  have ho := ((h1.alloc x).apart hg (h3 A.length (by omega)).symm).set A.length u'
  refine ⟨fun j => if j = A.length then u' else f j, by rw [hl]; exact ho, fun j hj => ?_, fun j hj => ?_, fun j k hj hk hne => ?_⟩
  · rw [hl] at hj
    rw [getD_snoc]
    by_cases e : j = A.length
    · subst e
      (try dsimp only)
      rw [if_pos rfl, if_pos rfl]
      have hl2 : (r ++ [k]).length = r.length + 1 := by simp
      rw [hl2]
      exact (hr.kept' (fun k hk => Go.Deep.blk_setCell_other _ _ _ _ (by show k ≠ q; exact hqu k hk))).congr (fun i _ => (cellsOf_snoc r k i).symm)
    · (try dsimp only)
      rw [if_neg e, if_neg e]
      have h5 := h2 j hj
      rw [getD_snoc, if_neg e] at h5
      exact ((h5.alloc x).apart hg (h4 A.length j (by omega) hj (fun q => e q.symm))).kept' (fun k hk => Go.Deep.blk_setCell_other _ _ _ _ (by show k ≠ q; exact hfq j hj k hk))
  · rw [hl] at hj
    (try dsimp only)
    by_cases e : j = A.length
    · rw [if_pos e]
      intro k hk1 hk2
      simp only [Value.ownBlock, Option.some.injEq] at hk1
      exact hqu k hk2 hk1.symm
    · rw [if_neg e]; exact h3 j hj
  · rw [hl] at hj hk
    (try dsimp only)
    have hh : ∀ j, j < A.length → Apart u' (f j) := fun j hj => (h4 A.length j (by omega) (by omega) (by omega)).push hat (fun k hk => by have := ((h2 j (by omega)).ge k hk).2; omega)
    by_cases e1 : j = A.length
    · rw [if_pos e1, if_neg (by omega)]; exact hh k (by omega)
    · rw [if_neg e1]
      by_cases e2 : k = A.length
      · rw [if_pos e2]; exact (hh j (by omega)).symm
      · rw [if_neg e2]; exact h4 j k hj hk hne
end

/-- A list of lists comes back that the call has made. -/
def RetLL (w : World) (R : List (List Nat)) (e : Ending) (w' : World) : Prop := ∃ v, e = .returned v ∧ LL w' w.heap.size v R ∧ w.Since w.heap.size w'

/-! ### Level runs in plain Lean -/

/-- The level of the last character ahead of k that is not removed; -1 if there is none. -/
def lastL (lv : Nat → Int) : Nat → Int
  | 0 => -1
  | k + 1 => if lv k = -1 then lastL lv k else lv k

/-- The level runs of the first k characters: those that are done, and the last one. -/
def rs (lv : Nat → Int) : Nat → List (List Nat) × List Nat
  | 0 => ([], [])
  | k + 1 => if lv k = -1 then rs lv k else if lv k = lastL lv k then ((rs lv k).1, (rs lv k).2 ++ [k]) else (if lastL lv k = -1 then (rs lv k).1 else (rs lv k).1 ++ [(rs lv k).2], [k])

def runs (lv : Nat → Int) (n : Nat) : List (List Nat) := if lastL lv n = -1 then (rs lv n).1 else (rs lv n).1 ++ [(rs lv n).2]

theorem rs_rem {lv : Nat → Int} {k : Nat} (h : lv k = -1) : rs lv (k + 1) = rs lv k ∧ lastL lv (k + 1) = lastL lv k := by
  constructor
  · show (if lv k = -1 then rs lv k else _) = _
    rw [if_pos h]
  · show (if lv k = -1 then lastL lv k else _) = _
    rw [if_pos h]
theorem lastL_of {lv : Nat → Int} {k : Nat} (h : lv k ≠ -1) : lastL lv (k + 1) = lv k := by
  show (if lv k = -1 then lastL lv k else _) = _
  rw [if_neg h]
theorem rs_same {lv : Nat → Int} {k : Nat} (h : lv k ≠ -1) (h2 : lv k = lastL lv k) : rs lv (k + 1) = ((rs lv k).1, (rs lv k).2 ++ [k]) := by
  show (if lv k = -1 then rs lv k else if lv k = lastL lv k then _ else _) = _
  rw [if_neg h, if_pos h2]
theorem rs_new {lv : Nat → Int} {k : Nat} (h : lv k ≠ -1) (h2 : lv k ≠ lastL lv k) : rs lv (k + 1) = (if lastL lv k = -1 then (rs lv k).1 else (rs lv k).1 ++ [(rs lv k).2], [k]) := by
  show (if lv k = -1 then rs lv k else if lv k = lastL lv k then _ else _) = _
  rw [if_neg h, if_neg h2]

theorem rs_empty {lv : Nat → Int} : ∀ k, lastL lv k = -1 → rs lv k = ([], [])
  | 0, _ => rfl
  | k + 1, h => by
    by_cases e : lv k = -1
    · rw [(rs_rem e).2] at h; rw [(rs_rem e).1]; exact rs_empty k h
    · rw [lastL_of e] at h; exact absurd h e

theorem rs_last_ne {lv : Nat → Int} : ∀ k, lastL lv k ≠ -1 → (rs lv k).2 ≠ []
  | 0, h => absurd rfl h
  | k + 1, h => by
    by_cases e : lv k = -1
    · rw [(rs_rem e).2] at h; rw [(rs_rem e).1]; exact rs_last_ne k h
    · by_cases e2 : lv k = lastL lv k
      · rw [rs_same e e2]; simp
      · rw [rs_new e e2]; simp

/-- As the reference goes. -/
theorem runs_step {lv : Nat → Int} {k : Nat} : runs lv (k + 1) = if lv k = -1 then runs lv k else if lv k = lastL lv k then (rs lv k).1 ++ [(rs lv k).2 ++ [k]] else runs lv k ++ [[k]] := by
  unfold runs
  by_cases e : lv k = -1
  · rw [(rs_rem e).1, (rs_rem e).2, if_pos e]
  · rw [if_neg e, lastL_of e, if_neg e]
    by_cases e2 : lv k = lastL lv k
    · rw [rs_same e e2, if_pos e2]
    · rw [rs_new e e2, if_neg e2]

theorem rs_len (lv : Nat → Int) : ∀ k, (rs lv k).1.length + (rs lv k).2.length ≤ k ∧ ((rs lv k).1.length + (if lastL lv k = -1 then 0 else 1) ≤ k)
  | 0 => ⟨Nat.le_refl _, by show 0 + (if (-1 : Int) = -1 then 0 else 1) ≤ 0; rw [if_pos rfl]; omega⟩
  | k + 1 => by
    have ih := rs_len lv k
    by_cases e : lv k = -1
    · rw [(rs_rem e).1, (rs_rem e).2]; omega
    · rw [lastL_of e, if_neg e]
      by_cases e2 : lv k = lastL lv k
      · rw [rs_same e e2]
        rw [← e2, if_neg e] at ih
        simp; omega
      · rw [rs_new e e2]
        by_cases e3 : lastL lv k = -1
        · have h0 := rs_empty k e3
          rw [if_pos e3, h0]; simp
        · have hne := rs_last_ne k e3
          have hl : 0 < (rs lv k).2.length := List.length_pos_iff.2 hne
          rw [if_neg e3] at ih ⊢
          simp; omega

theorem runs_len (lv : Nat → Int) (n : Nat) : (runs lv n).length ≤ n := by
  have := (rs_len lv n).2
  unfold runs
  split
  · next h => rw [if_pos h] at this; omega
  · next h => rw [if_neg h] at this; simp; omega

/-- Levels that agree give the same runs. -/
theorem rs_congr {lv lv' : Nat → Int} : ∀ k, (∀ i, i < k → lv i = lv' i) → rs lv k = rs lv' k ∧ lastL lv k = lastL lv' k
  | 0, _ => ⟨rfl, rfl⟩
  | k + 1, h => by
    obtain ⟨h1, h2⟩ := rs_congr k (fun i hi => h i (by omega))
    have hk := h k (by omega)
    constructor
    · show (if lv k = -1 then rs lv k else if lv k = lastL lv k then _ else _) = (if lv' k = -1 then rs lv' k else if lv' k = lastL lv' k then _ else _)
      rw [hk, h1, h2]
    · show (if lv k = -1 then lastL lv k else lv k) = (if lv' k = -1 then lastL lv' k else lv' k)
      rw [hk, h2]

end Go.Proofs.YtkocpijloiamcaaDoor
