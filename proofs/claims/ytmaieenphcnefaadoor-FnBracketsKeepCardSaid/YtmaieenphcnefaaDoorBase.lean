/- Words on memory for the walks of this seat: a slice that reads as a function of its index ('Sees'), a slice that the call itself grows by append ('Gr'), and their laws. No program in sight. -/
import Derived.WalkKit
import Derived.WalkLawsBesides
import Derived.WalkSpells
import Derived.Laws.AppendOwnNone
import Derived.Deep.OwnRows
import Derived.Maps.AppendAt
import Derived.Deep.Draws
import Derived.Laws.CopyOwn
namespace Go.Proofs.YtmaieenphcnefaaDoor
open Go.RowKit

/-- The slice value '.slice ao n c' reads, in w, as f 0 .. f (n - 1). -/
def Sees (w : World) (ao : Option Addr) (b o n c : Nat) (f : Nat → Value) : Prop :=
  (ao = none → n = 0 ∧ c = 0) ∧ n ≤ c ∧ ∀ i, i < n → ao = some ⟨b, o, none⟩ ∧ w.cell? ⟨b, o + i, none⟩ = some (f i)

/-- The slice value v, of n elements of one cell each, is nil or begins a block from 'base' on, and holds f 0 .. f (n - 1). -/
def Gr (w : World) (base : Nat) (e : TypeId) (v : Value) (n : Nat) (f : Nat → Value) : Prop := w.ownsRow base e 1 v n ((List.range n).map f)

theorem since_mono {B B' : Nat} {w w' : World} (h : w.Since B w') (hB : B' ≤ B) : w.Since B' w' := ⟨h.os, h.tape, h.output, h.size, fun k hk => h.block k (Nat.lt_of_lt_of_le hk hB)⟩

/-- Two calls, one behind the other, neither of which turns what was there. -/
theorem since2 {w w1 w2 : World} (h : w.Since w.heap.size w1) (k : w1.Since w1.heap.size w2) : w.Since w.heap.size w2 := h.trans (since_mono k h.size)

theorem since_drewN {B : Nat} {w w' : World} (h : w.Since B w') (n : Nat) : w.Since B (w'.drewN n) := ⟨h.os, h.tape, h.output, h.size, h.block⟩

section
variable {w w' : World} {ao : Option Addr} {b o n c : Nat} {f g : Nat → Value}

theorem Sees.get (h : Sees w ao b o n c f) {i : Nat} (hi : i < n) : ao = some ⟨b, o, none⟩ ∧ w.cell? ⟨b, o + i, none⟩ = some (f i) := h.2.2 i hi

theorem Sees.lt (h : Sees w ao b o n c f) (hn : 0 < n) : b < w.heap.size := World.block_lt_of_cell? _ _ (h.2.2 0 hn).2

theorem Sees.le (h : Sees w ao b o n c f) : n ≤ c := h.2.1

theorem Sees.since (h : Sees w ao b o n c f) (s : w.Since w.heap.size w') : Sees w' ao b o n c f :=
  ⟨h.1, h.2.1, fun i hi => ⟨(h.2.2 i hi).1, by rw [s.cell (World.block_lt_of_cell? _ _ (h.2.2 i hi).2)]; exact (h.2.2 i hi).2⟩⟩

/-- Where some blocks may have turned, but not this one. -/
theorem Sees.kept (h : Sees w ao b o n c f) (s : 0 < n → w'.heap[b]? = w.heap[b]?) : Sees w' ao b o n c f :=
  ⟨h.1, h.2.1, fun i hi => ⟨(h.2.2 i hi).1, by rw [World.cell?_of_block (w := w) (a := ⟨b, o + i, none⟩) (s (by omega))]; exact (h.2.2 i hi).2⟩⟩

theorem Sees.congr (h : Sees w ao b o n c f) (e : ∀ i, i < n → f i = g i) : Sees w ao b o n c g :=
  ⟨h.1, h.2.1, fun i hi => ⟨(h.2.2 i hi).1, by rw [(h.2.2 i hi).2, e i hi]⟩⟩

theorem Sees.ofRow {t : TypeId} (h : w.rowIs b t n f) : Sees w (some ⟨b, 0, none⟩) b 0 n n f :=
  ⟨fun e => by simp at e, Nat.le_refl _, fun i hi => ⟨rfl, by rw [Nat.zero_add]; exact h.cell hi⟩⟩

theorem Sees.nil (w : World) (b o : Nat) (f : Nat → Value) : Sees w none b o 0 0 f := ⟨fun _ => ⟨rfl, rfl⟩, Nat.le_refl _, fun _ hi => absurd hi (Nat.not_lt_zero _)⟩

theorem Gr.sees {base : Nat} {e : TypeId} {v : Value} (h : Gr w base e v n f) : ∃ ao b c, v = .slice ao n c ∧ base ≤ b ∧ Sees w ao b 0 n c f := by
  rcases h.2 with ⟨rfl, rfl⟩ | ⟨g', cap, cur, rfl, hb, hg, hn, hm, hs, ht⟩
  · exact ⟨none, base, 0, rfl, Nat.le_refl _, Sees.nil _ _ _ _⟩
  · refine ⟨some ⟨g', 0, none⟩, g', cap, rfl, hb, fun e => by simp at e, hn, fun i hi => ⟨rfl, ?_⟩⟩
    have h2 := h.cells (g := g') rfl i (f i) (by simp [hi])
    rw [Nat.zero_add]
    by_cases h0 : i = 0
    · subst h0; simpa [Addr.add] using h2
    · simpa [Addr.add, h0] using h2

theorem Gr.nil (w : World) (base : Nat) (e : TypeId) (f : Nat → Value) : Gr w base e (.slice none 0 0) 0 f := World.ownsRow_nil _ _ _ _

/-- '[]T{}'. -/
theorem Gr.empty (w : World) (base : Nat) (e : TypeId) (f : Nat → Value) (hb : base ≤ w.heap.size) : Gr (w.alloc (.cells #[] e)) base e (.slice (some ⟨w.heap.size, 0, none⟩) 0 0) 0 f :=
  World.ownsRow_made w #[] 0 hb (Nat.zero_le _) rfl

theorem Gr.alloc {base : Nat} {e : TypeId} {v : Value} (h : Gr w base e v n f) (x : Obj) : Gr (w.alloc x) base e v n f := World.ownsRow.alloc h x

theorem Gr.kept {base : Nat} {e : TypeId} {v : Value} {row : Option Nat} (h : Gr w base e v n f) (hg : w.grownBy w' row) (hne : v.ownBlock = none ∨ v.ownBlock ≠ row) : Gr w' base e v n f := World.ownsRow.kept h hg hne

theorem Gr.since {base : Nat} {e : TypeId} {v : Value} (h : Gr w base e v n f) (s : w.Since w.heap.size w') : Gr w' base e v n f :=
  World.ownsRow.kept (row := none) h ⟨s.os, s.tape, s.output, s.size, fun k hk _ => s.block k hk⟩ (by cases v.ownBlock <;> simp)

theorem Gr.congr {base : Nat} {e : TypeId} {v : Value} (h : Gr w base e v n f) (k : ∀ i, i < n → f i = g i) : Gr w base e v n g := by
  unfold Gr at *
  have : (List.range n).map f = (List.range n).map g := List.map_congr_left fun i hi => k i (by simpa using hi)
  rw [← this]; exact h

theorem Gr.ge {base : Nat} {e : TypeId} {v : Value} (h : Gr w base e v n f) : ∀ k, v.ownBlock = some k → base ≤ k ∧ k < w.heap.size := World.ownsRow.lt h

theorem Gr.kept' {base : Nat} {e : TypeId} {v : Value} (h : Gr w base e v n f) (s : ∀ k, v.ownBlock = some k → w'.heap[k]? = w.heap[k]?) : Gr w' base e v n f := by
  refine ⟨h.1, ?_⟩
  rcases h.2 with hn | ⟨g', cap, cur, rfl, hb, hg, rest⟩
  · exact .inl hn
  · exact .inr ⟨g', cap, cur, rfl, hb, by rw [s g' rfl]; exact hg, rest⟩

theorem Gr.form {base : Nat} {e : TypeId} {v : Value} (h : Gr w base e v n f) (hn : 0 < n) : ∃ g cap, v = .slice (some ⟨g, 0, none⟩) n cap ∧ base ≤ g := by
  rcases h.2 with ⟨rfl, rfl⟩ | ⟨g', cap, cur, rfl, hb, hg, rest⟩
  · omega
  · exact ⟨g', cap, rfl, hb⟩

theorem Gr.cell {base : Nat} {e : TypeId} {q cap : Nat} (h : Gr w base e (.slice (some ⟨q, 0, none⟩) n cap) n f) {i : Nat} (hi : i < n) : w.cell? ⟨q, i, none⟩ = some (f i) := by
  rw [World.ownsRow.cellAt h i (by omega)]; simp [hi]

theorem Gr.frozen {base : Nat} {e : TypeId} {q cap : Nat} (h : Gr w base e (.slice (some ⟨q, 0, none⟩) n cap) n f) (i : Nat) : w.frozen? ⟨q, i, none⟩ = false := World.ownsRow.frozenAt h i

theorem Gr.set {base : Nat} {e : TypeId} {q cap : Nat} (h : Gr w base e (.slice (some ⟨q, 0, none⟩) n cap) n f) (i : Nat) (v : Value) :
    Gr (w.setCell ⟨q, i, none⟩ v) base e (.slice (some ⟨q, 0, none⟩) n cap) n (fun j => if j = i then v else f j) := by
  have h2 := (World.ownsRow.stored h i v).1
  unfold Gr
  have : (List.range n).map (fun j => if j = i then v else f j) = ((List.range n).map f).set i v := by
    apply List.ext_getElem
    · simp
    · intro j h1 h2
      simp only [List.getElem_map, List.getElem_range, List.getElem_set]
      by_cases e : j = i
      · subst e; simp
      · rw [if_neg e, if_neg (fun h => e h.symm)]
  rw [this]; exact h2

theorem Gr.base {base base' : Nat} {e : TypeId} {v : Value} (h : Gr w base e v n f) (hb : base' ≤ base) : Gr w base' e v n f := by
  refine ⟨h.1, ?_⟩
  rcases h.2 with hn | ⟨g', cap, cur, rfl, hb2, rest⟩
  · exact .inl hn
  · exact .inr ⟨g', cap, cur, rfl, Nat.le_trans hb hb2, rest⟩

theorem Gr.drew {base : Nat} {e : TypeId} {v : Value} (h : Gr w base e v n f) : Gr w.drew base e v n f := h

theorem Gr.see {base : Nat} {e : TypeId} {ao : Option Addr} {c : Nat} (h : Gr w base e (.slice ao n c) n f) : ∃ b, base ≤ b ∧ Sees w ao b 0 n c f := by
  obtain ⟨ao', b, c', hv, hb, hs⟩ := h.sees
  simp only [Value.slice.injEq, true_and] at hv
  obtain ⟨rfl, rfl⟩ := hv
  exact ⟨b, hb, hs⟩

/-- Two slices that lie in different blocks. -/
def Apart (v u : Value) : Prop := ∀ k, v.ownBlock = some k → u.ownBlock ≠ some k

theorem Apart.symm {v u : Value} (h : Apart v u) : Apart u v := fun k h1 h2 => h k h2 h1

theorem Apart.push {v v' u : Value} {m : Nat} (h : Apart v u) (hat : v'.ownBlock = v.ownBlock ∨ v'.ownBlock = some m) (hlt : ∀ k, u.ownBlock = some k → k < m) : Apart v' u := fun k h1 h2 => by
  rcases hat with e | e
  · exact h k (e ▸ h1) h2
  · rw [e] at h1
    have h3 := hlt k h2
    simp only [Option.some.injEq] at h1
    omega

theorem Gr.apart {base : Nat} {e : TypeId} {u v : Value} (h : Gr w base e u n f) (hg : w.grownBy w' v.ownBlock) (ha : Apart v u) : Gr w' base e u n f :=
  h.kept hg (by
    cases hu : u.ownBlock with
    | none => exact .inl rfl
    | some k => right; intro e; exact ha k e.symm hu)

/-- A slice of integers that came in. -/
theorem sees_of_row {k : IntKind} {w : World} {a : Option Addr} {len cap : Nat} {zs : List Int}
    (h : (a = none ∧ len = 0 ∧ cap = 0 ∧ zs = []) ∨ ∃ x, a = some x ∧ len ≤ cap ∧ cap ≤ maxLen ∧ zs.length = cap ∧ (∀ i, i < zs.length → w.cell? (x.add i) = some (.int k (zs.getD i 0))) ∧ ∀ n ∈ zs, (Lit.int k n).wf = true) :
    ∃ b o, Sees w a b o len cap (fun i => .int k (zs.getD i 0)) := by
  rcases h with ⟨rfl, rfl, rfl, rfl⟩ | ⟨x, rfl, h1, h2, h3, h4, h5⟩
  · exact ⟨0, 0, Sees.nil _ _ _ _⟩
  · refine ⟨x.block, x.off, fun e => by simp at e, h1, fun i hi => ?_⟩
    obtain ⟨xb, xo, xs⟩ := x
    have h6 := h4 0 (by omega)
    have hxs : xs = none := by
      cases xs with
      | none => rfl
      | some s =>
        have e : (⟨xb, xo, some s⟩ : Addr).add 0 = ⟨xb, xo, some s⟩ := by simp [Addr.add]
        rw [e] at h6
        simp only [World.cell?] at h6
        split at h6 <;> simp at h6
    subst hxs
    refine ⟨rfl, ?_⟩
    have h7 := h4 i (by omega)
    by_cases h0 : i = 0
    · subst h0; simpa [Addr.add] using h7
    · simpa [Addr.add, h0] using h7

theorem below_of_since {w w' : World} (h : w.Since w.heap.size w') : Below w.heap.size w w' := ⟨h.os, h.tape, h.output, h.size, h.block⟩

theorem since_of_grown {base : Nat} {w0 w w' : World} {row : Option Nat} (h : w0.Since base w) (hg : w.grownBy w' row) (hB : base ≤ w.heap.size) (hr : ∀ k, row = some k → base ≤ k) : w0.Since base w' := h.grown hg hB hr
end

/-- Blocks that S does not name are as they were. -/
structure Kp (S : Nat → Prop) (w w' : World) : Prop where
  os : w'.os = w.os
  tape : w'.tape = w.tape
  output : w'.output = w.output
  size : w.heap.size ≤ w'.heap.size
  block : ∀ k, k < w.heap.size → ¬ S k → w'.heap[k]? = w.heap[k]?

namespace Kp
variable {S : Nat → Prop} {w w1 w2 : World}
theorem refl (S : Nat → Prop) (w : World) : Kp S w w := ⟨rfl, rfl, rfl, Nat.le_refl _, fun _ _ _ => rfl⟩
theorem trans (h : Kp S w w1) (k : Kp S w1 w2) : Kp S w w2 :=
  ⟨k.os.trans h.os, k.tape.trans h.tape, k.output.trans h.output, Nat.le_trans h.size k.size, fun i hi hs => (k.block i (Nat.lt_of_lt_of_le hi h.size) hs).trans (h.block i hi hs)⟩
theorem mono {T : Nat → Prop} (h : Kp S w w1) (hst : ∀ k, k < w.heap.size → S k → T k) : Kp T w w1 := ⟨h.os, h.tape, h.output, h.size, fun k hk ht => h.block k hk (fun hs => ht (hst k hk hs))⟩
theorem since (h : w.Since w.heap.size w1) (S : Nat → Prop) : Kp S w w1 := ⟨h.os, h.tape, h.output, h.size, fun k hk _ => h.block k hk⟩
theorem toSince (h : Kp S w w1) (hs : ∀ k, k < w.heap.size → ¬ S k) : w.Since w.heap.size w1 := ⟨h.os, h.tape, h.output, h.size, fun k hk => h.block k hk (hs k hk)⟩
/-- A call that turns nothing of what is there. -/
theorem call (h : Kp S w w1) (k : w1.Since w1.heap.size w2) : Kp S w w2 := h.trans (.since k S)
theorem drewN (h : Kp S w w1) (n : Nat) : Kp S w (w1.drewN n) := ⟨h.os, h.tape, h.output, h.size, h.block⟩
theorem drew (h : Kp S w w1) : Kp S w w1.drew := ⟨h.os, h.tape, h.output, h.size, h.block⟩
theorem alloc (h : Kp S w w1) (o : Obj) : Kp S w (w1.alloc o) := h.call ((World.Since.refl _ _).alloc (Nat.le_refl _) _)
theorem setCell (h : Kp S w w1) {a : Addr} (ha : S a.block ∨ w.heap.size ≤ a.block) (v : Value) : Kp S w (w1.setCell a v) :=
  ⟨h.os, h.tape, h.output, by simpa [World.setCell] using h.size, fun k hk hs => (Go.Deep.blk_setCell_other _ _ _ _ (by
    intro e
    rcases ha with ha | ha
    · rw [← e] at ha; exact hs ha
    · omega)).trans (h.block k hk hs)⟩
theorem grown {row : Option Nat} (h : Kp S w w1) (hg : w1.grownBy w2 row) (hr : ∀ k, row = some k → S k ∨ w.heap.size ≤ k) : Kp S w w2 :=
  ⟨hg.os.trans h.os, hg.tape.trans h.tape, hg.output.trans h.output, Nat.le_trans h.size hg.size, fun k hk hs => (hg.block k (Nat.lt_of_lt_of_le hk h.size) (fun e => by
    rcases hr k e.symm with h1 | h1
    · exact hs h1
    · omega)).trans (h.block k hk hs)⟩
theorem sees {ao : Option Addr} {b o n c : Nat} {f : Nat → Value} (h : Kp S w w1) (hs : Sees w ao b o n c f) (hb : 0 < n → ¬ S b) : Sees w1 ao b o n c f :=
  hs.kept (fun h0 => h.block b (hs.lt h0) (hb h0))
theorem row {b : Nat} {t : TypeId} {n : Nat} {f : Nat → Value} (h : Kp S w w1) (hr : w.rowIs b t n f) (hb : ¬ S b) : w1.rowIs b t n f := hr.of_block (h.block b hr.lt hb)
theorem cell {a : Addr} {v : Value} (h : Kp S w w1) (hc : w.cell? a = some v) (hb : ¬ S a.block) : w1.cell? a = some v := by
  rw [World.cell?_of_block (w := w) (h.block a.block (World.block_lt_of_cell? _ _ hc) hb)]; exact hc
end Kp

/-- Eight fields. -/
def pf (f0 f1 f2 f3 f4 f5 f6 f7 : Value) : Nat → Value
  | 0 => f0 | 1 => f1 | 2 => f2 | 3 => f3 | 4 => f4 | 5 => f5 | 6 => f6 | 7 => f7 | _ => f7

theorem pf_set3 {w : World} {p : Nat} {t : TypeId} {f0 f1 f2 f3 f4 f5 f6 f7 : Value} (h : w.rowIs p t 8 (pf f0 f1 f2 f3 f4 f5 f6 f7)) (v : Value) : (w.setCell ⟨p, 3, none⟩ v).rowIs p t 8 (pf f0 f1 f2 v f4 f5 f6 f7) :=
  (h.set 3 v).congr fun i hi => match i, hi with | 0, _ => rfl | 1, _ => rfl | 2, _ => rfl | 3, _ => rfl | 4, _ => rfl | 5, _ => rfl | 6, _ => rfl | 7, _ => rfl
theorem pf_set4 {w : World} {p : Nat} {t : TypeId} {f0 f1 f2 f3 f4 f5 f6 f7 : Value} (h : w.rowIs p t 8 (pf f0 f1 f2 f3 f4 f5 f6 f7)) (v : Value) : (w.setCell ⟨p, 4, none⟩ v).rowIs p t 8 (pf f0 f1 f2 f3 v f5 f6 f7) :=
  (h.set 4 v).congr fun i hi => match i, hi with | 0, _ => rfl | 1, _ => rfl | 2, _ => rfl | 3, _ => rfl | 4, _ => rfl | 5, _ => rfl | 6, _ => rfl | 7, _ => rfl
theorem pf_set5 {w : World} {p : Nat} {t : TypeId} {f0 f1 f2 f3 f4 f5 f6 f7 : Value} (h : w.rowIs p t 8 (pf f0 f1 f2 f3 f4 f5 f6 f7)) (v : Value) : (w.setCell ⟨p, 5, none⟩ v).rowIs p t 8 (pf f0 f1 f2 f3 f4 v f6 f7) :=
  (h.set 5 v).congr fun i hi => match i, hi with | 0, _ => rfl | 1, _ => rfl | 2, _ => rfl | 3, _ => rfl | 4, _ => rfl | 5, _ => rfl | 6, _ => rfl | 7, _ => rfl
theorem pf_set6 {w : World} {p : Nat} {t : TypeId} {f0 f1 f2 f3 f4 f5 f6 f7 : Value} (h : w.rowIs p t 8 (pf f0 f1 f2 f3 f4 f5 f6 f7)) (v : Value) : (w.setCell ⟨p, 6, none⟩ v).rowIs p t 8 (pf f0 f1 f2 f3 f4 f5 v f7) :=
  (h.set 6 v).congr fun i hi => match i, hi with | 0, _ => rfl | 1, _ => rfl | 2, _ => rfl | 3, _ => rfl | 4, _ => rfl | 5, _ => rfl | 6, _ => rfl | 7, _ => rfl
theorem pf_set7 {w : World} {p : Nat} {t : TypeId} {f0 f1 f2 f3 f4 f5 f6 f7 : Value} (h : w.rowIs p t 8 (pf f0 f1 f2 f3 f4 f5 f6 f7)) (v : Value) : (w.setCell ⟨p, 7, none⟩ v).rowIs p t 8 (pf f0 f1 f2 f3 f4 f5 f6 v) :=
  (h.set 7 v).congr fun i hi => match i, hi with | 0, _ => rfl | 1, _ => rfl | 2, _ => rfl | 3, _ => rfl | 4, _ => rfl | 5, _ => rfl | 6, _ => rfl | 7, _ => rfl

/-- 'make([]T, 0, n)'. -/
theorem wpList_make0 {P : Program} (w : World) {ops : Array Oper} {rest : List Oper} {o : Oper} {a : Act} {Q : Exit → Act → World → Prop}
    (hg : o.guard = none) (l c : Operand) (t : TypeId) (hop : o.op = Op.makeSlice t l c)
    (base : Nat) (e : TypeId) (z : Value) (bytes : Nat) (ht : P.underlying t = some (.slice e)) (hinfo : (P.info? e).map (fun i => (i.zero, i.size, i.bytes)) = some (some z, 1, bytes)) (f : Nat → Value)
    (n : Nat) (hl : a.eval l = .int .i64 0) (hc : a.eval c = .int .i64 n) (b2 : bytes * n ≤ 281474976710656) (b3 : n ≤ 4294967296) (b4 : base ≤ w.heap.size)
    (hK : ∀ w', Gr w' base e (.slice (some ⟨w.heap.size, 0, none⟩) 0 n) 0 f → w.grownBy w' none → wpList P ops Q rest (a.put o.dst (.slice (some ⟨w.heap.size, 0, none⟩) 0 n)) w') :
    wpList P ops Q (o :: rest) a w := by
  obtain ⟨i, hi, h1, h2, h3⟩ := info_parts hinfo
  subst h3
  exact wpList_make_own w hg l c t hop base e i z 1 ht hi h1 h2 .i64 .i64 n n hl hc rfl b2 (by unfold maxLen; omega) b4 hK

theorem map_range_snoc (f : Nat → Value) (n : Nat) (u : Value) : (List.range (n + 1)).map (fun i => if i = n then u else f i) = (List.range n).map f ++ [u] := by
  rw [List.range_succ, List.map_append]
  congr 1
  · refine List.map_congr_left fun i hi => ?_
    have : i < n := by simpa using hi
    rw [if_neg (by omega)]
  · simp

theorem map_range_app (f g : Nat → Value) (n m : Nat) : (List.range (n + m)).map (fun i => if i < n then f i else g (i - n)) = (List.range n).map f ++ (List.range m).map g := by
  rw [List.range_add, List.map_append, List.map_map]
  congr 1
  · refine List.map_congr_left fun i hi => ?_
    have : i < n := by simpa using hi
    rw [if_pos this]
  · refine List.map_congr_left fun i hi => ?_
    show (if n + i < n then f (n + i) else g (n + i - n)) = g i
    rw [if_neg (by omega), Nat.add_sub_cancel_left]

/-- 'append(s, x)', where x has just been laid in a block of its own. -/
theorem wpList_push {P : Program} (w : World) {ops : Array Oper} {rest : List Oper} {o : Oper} {a : Act} {Q : Exit → Act → World → Prop} (hgd : o.guard = none) (s x : Operand) (t : TypeId)
    (ho : o.op = .call { callee := .builtin .append, args := #[s, x], argTypes := #[t, t] })
    (base : Nat) (e : TypeId) (z : Value) (bytes : Nat) (ht : P.underlying t = some (.slice e)) (hinfo : (P.info? e).map (fun i => (i.zero, i.size, i.bytes)) = some (some z, 1, bytes)) (hz1 : z.cells.size = 1)
    (v : Value) (n : Nat) (f : Nat → Value) (u : Value) (hs : a.eval s = v) (hown : Gr w base e v n f) (hx : a.eval x = .slice (some ⟨w.heap.size, 0, none⟩) 1 1) (h1 : u.oneCell' = true)
    (hn : n ≤ 4294967296) (hby : bytes ≤ 64) (hbase : base ≤ w.heap.size)
    (h : ∀ v' w', Gr w' base e v' (n + 1) (fun i => if i = n then u else f i) → (w.alloc (.cells #[u] e)).grownBy w' v.ownBlock → (v'.ownBlock = v.ownBlock ∨ v'.ownBlock = some (w.heap.size + 1)) → wpList P ops Q rest (a.put o.dst v') w') :
    wpList P ops Q (o :: rest) a (w.alloc (.cells #[u] e)) := by
  obtain ⟨i, hi, h2, h3, h4⟩ := info_parts hinfo
  have hb : (n + 1) * bytes ≤ 140737488355328 := by
    have := Nat.mul_le_mul (show n + 1 ≤ 4294967297 by omega) hby
    omega
  refine wpList_append_own_at (w.alloc (.cells #[u] e)) hgd s x t ho base e i z 1 bytes ht hi h2 h3 h4 hz1 (by decide) v n ((List.range n).map f) hs (World.ownsRow.alloc hown _) ⟨w.heap.size, 0, none⟩ 1 1 [u] hx rfl ?_ ?_ ?_ hb ?_ ?_
  · intro j y hj
    match j, hj with
    | 0, hj => simp at hj; subst hj; simp [Addr.add]
  · intro y hy; simp at hy; subst hy; exact h1
  · unfold maxLen; omega
  · simp; omega
  · intro v' w' q1 q2 _ q4
    refine h v' w' ?_ q2 ?_
    · unfold Gr; rw [map_range_snoc]; exact q1
    · simpa using q4

/-- 'append(s, ys...)'. -/
theorem wpList_cat {P : Program} (w : World) {ops : Array Oper} {rest : List Oper} {o : Oper} {a : Act} {Q : Exit → Act → World → Prop} (hgd : o.guard = none) (s x : Operand) (t : TypeId)
    (ho : o.op = .call { callee := .builtin .append, args := #[s, x], argTypes := #[t, t] })
    (base : Nat) (e : TypeId) (z : Value) (bytes : Nat) (ht : P.underlying t = some (.slice e)) (hinfo : (P.info? e).map (fun i => (i.zero, i.size, i.bytes)) = some (some z, 1, bytes)) (hz1 : z.cells.size = 1)
    (v : Value) (n : Nat) (f : Nat → Value) (hs : a.eval s = v) (hown : Gr w base e v n f) {ao : Option Addr} {b off m c : Nat} {g : Nat → Value} (hx : a.eval x = .slice ao m c) (hsee : Sees w ao b off m c g)
    (h1 : ∀ i, i < m → (g i).oneCell' = true) (hn : n + m ≤ 17179869184) (hby : bytes ≤ 64) (hbase : base ≤ w.heap.size)
    (h : ∀ v' w', Gr w' base e v' (n + m) (fun i => if i < n then f i else g (i - n)) → w.grownBy w' v.ownBlock → (v'.ownBlock = v.ownBlock ∨ v'.ownBlock = some w.heap.size) → wpList P ops Q rest (a.put o.dst v') w') :
    wpList P ops Q (o :: rest) a w := by
  obtain ⟨i, hi, h2, h3, h4⟩ := info_parts hinfo
  have hb : (n + m) * bytes ≤ 140737488355328 := by
    have := Nat.mul_le_mul hn hby
    omega
  cases ao with
  | none =>
    obtain ⟨rfl, rfl⟩ := hsee.1 rfl
    refine wpList_append_own_none hgd s x t ho base e i 1 ht hi v n _ hs hown hx (h v w ?_ ⟨rfl, rfl, rfl, Nat.le_refl _, fun _ _ _ => rfl⟩ (.inl rfl))
    exact hown.congr fun i hi => by rw [if_pos hi]
  | some ad =>
    refine wpList_append_own_at w hgd s x t ho base e i z 1 bytes ht hi h2 h3 h4 hz1 (by decide) v n ((List.range n).map f) hs hown ad m c ((List.range m).map g) hx (by simp) ?_ ?_ ?_ hb hbase ?_
    · intro j y hj
      have hjm : j < m := by
        rcases Nat.lt_or_ge j m with h | h
        · exact h
        · rw [List.getElem?_eq_none (by simpa using h)] at hj; cases hj
      have : y = g j := by simpa [hjm] using hj.symm
      subst this
      obtain ⟨e1, e2⟩ := hsee.get hjm
      simp only [Option.some.injEq] at e1
      subst e1
      by_cases h0 : j = 0
      · subst h0; simpa [Addr.add] using e2
      · simpa [Addr.add, h0] using e2
    · intro y hy
      obtain ⟨j, hj, rfl⟩ := List.mem_map.1 hy
      exact h1 j (by simpa using hj)
    · unfold maxLen; omega
    · intro v' w' q1 q2 _ q4
      refine h v' w' ?_ q2 q4
      unfold Gr; rw [map_range_app]; exact q1

/-- 'x[lo:hi]' of a slice that reads as f: the cut reads as f from lo on. -/
theorem cut_lh {P : Program} (t e : TypeId) (ht : P.underlying t = some (.slice e)) (hsz : (P.info? e).map (fun i => i.size) = some 1) {w : World} {ao : Option Addr} {b o n c : Nat} {f : Nat → Value} (hs : Sees w ao b o n c f)
    (lo hi : Nat) (h1 : lo ≤ hi) (h2 : hi ≤ n) : ∃ ao', (∀ wx, (Instr.slice t (.slice ao n c) (some (.int .i64 lo)) (some (.int .i64 hi)) none).run P wx = .ok (.slice ao' (hi - lo) (c - lo)) wx) ∧ Sees w ao' b (o + lo) (hi - lo) (c - lo) (fun i => f (lo + i)) := by
  obtain ⟨i, hi0, hi1⟩ := Option.map_eq_some_iff.1 hsz
  have hle := hs.le
  refine ⟨if c = lo then ao else ao.map (·.add (lo * 1)), fun wx => ?_, ?_, by omega, fun j hj => ?_⟩
  · have q1 : ((hi : Nat) : Int) ≤ (c : Int) := by omega
    have q2 : ((lo : Nat) : Int) ≤ (hi : Int) := by omega
    simp [Instr.slice, run_underlying ht, Instr.sliceBounds, run_sliceBound, sizeOf, typeInfo, hi0, hi1, q1, q2]
  · intro h0
    have : ao = none := by
      by_cases e : c = lo
      · rw [if_pos e] at h0; exact h0
      · rw [if_neg e] at h0; simpa using h0
    have := hs.1 this; omega
  · obtain ⟨e1, e2⟩ := hs.get (i := lo + j) (by omega)
    subst e1
    rw [if_neg (by omega)]
    refine ⟨?_, by rw [← Nat.add_assoc] at e2; exact e2⟩
    by_cases h0 : lo = 0
    · subst h0; simp [Addr.add]
    · simp [Addr.add, h0]

/-- 'x[lo:]'. -/
theorem cut_l {P : Program} (t e : TypeId) (ht : P.underlying t = some (.slice e)) (hsz : (P.info? e).map (fun i => i.size) = some 1) {w : World} {ao : Option Addr} {b o n c : Nat} {f : Nat → Value} (hs : Sees w ao b o n c f)
    (lo : Nat) (h1 : lo ≤ n) : ∃ ao', (∀ wx, (Instr.slice t (.slice ao n c) (some (.int .i64 lo)) none none).run P wx = .ok (.slice ao' (n - lo) (c - lo)) wx) ∧ Sees w ao' b (o + lo) (n - lo) (c - lo) (fun i => f (lo + i)) := by
  obtain ⟨i, hi0, hi1⟩ := Option.map_eq_some_iff.1 hsz
  obtain ⟨ao', h2, h3⟩ := cut_lh t e ht hsz hs lo n h1 (Nat.le_refl _)
  refine ⟨ao', fun wx => ?_, h3⟩
  rw [← h2 wx]
  have q1 : ((n : Nat) : Int) ≤ (c : Int) := by have := hs.le; omega
  have q2 : ((lo : Nat) : Int) ≤ (n : Int) := by omega
  simp [Instr.slice, run_underlying ht, Instr.sliceBounds, run_sliceBound, sizeOf, typeInfo, hi0, q1, q2]

/-- 'copy(dst, src)' over the whole of a row that the call has made. -/
theorem wpList_copyRow {P : Program} (w : World) {ops : Array Oper} {rest : List Oper} {o : Oper} {a : Act} {Q : Exit → Act → World → Prop} (hgd : o.guard = none) (d s : Operand) (dT sT : TypeId)
    (ho : o.op = .call { callee := .builtin .copy, args := #[d, s], argTypes := #[dT, sT] }) (e : TypeId) (hu : P.underlying dT = some (.slice e)) (hsz : (P.info? e).map (fun i => i.size) = some 1)
    (g m : Nat) (f0 : Nat → Value) (hrow : w.rowIs g e m f0) (hd : a.eval d = .slice (some ⟨g, 0, none⟩) m m) {ao : Option Addr} {b off n c : Nat} {f : Nat → Value} (hs : a.eval s = .slice ao n c) (hsee : Sees w ao b off n c f)
    (hmn : m ≤ n) (h1 : ∀ i, i < m → (f i).oneCell' = true)
    (h : ∀ w', w'.rowIs g e m f → w.grownBy w' (some g) → wpList P ops Q rest (a.put o.dst (goInt m)) w') : wpList P ops Q (o :: rest) a w := by
  by_cases hm : m = 0
  · subst hm
    refine wpList_copy_nothing hgd d s dT sT ho e hu hsz _ _ _ _ _ _ hd hs (by simp) (h w ?_ ⟨rfl, rfl, rfl, Nat.le_refl _, fun _ _ _ => rfl⟩)
    exact hrow.congr fun i hi => absurd hi (Nat.not_lt_zero _)
  · obtain ⟨cur, hg, hcs, _⟩ := hrow
    obtain ⟨e1, _⟩ := hsee.get (i := 0) (by omega)
    subst e1
    have hlen : ((List.range m).map f).length = m := by simp
    refine wpList_copy_own hgd d s dT sT ho e hu hsz g 0 m m ⟨b, off, none⟩ n c hd hs cur e hg ((List.range m).map f) (by rw [hlen]; exact (Nat.min_eq_right hmn).symm) ?_ (by rw [hlen]; omega) ?_ ?_
    · intro j v hj
      have hjm : j < m := by
        rcases Nat.lt_or_ge j m with h | h
        · exact h
        · rw [List.getElem?_eq_none (by simpa using h)] at hj; cases hj
      have : v = f j := by simpa [hjm] using hj.symm
      subst this
      have e2 := (hsee.get (i := j) (by omega)).2
      by_cases h0 : j = 0
      · subst h0; simpa [Addr.add] using e2
      · simpa [Addr.add, h0] using e2
    · intro v hv
      obtain ⟨j, hj, rfl⟩ := List.mem_map.1 hv
      exact h1 j (by simpa using hj)
    · rw [hlen]
      refine h _ ?_ ⟨rfl, rfl, rfl, by simp [World.setRow], fun k _ hk => setRow_other w g k _ (fun e => hk (by rw [e]))⟩
      refine ⟨_, setRow_heap w g cur _ e _ hg, ?_, fun i hi => ?_⟩
      · simp; omega
      · simp only [List.take_zero, List.nil_append, List.getElem?_toArray]
        rw [List.getElem?_append_left (by simpa using hi)]
        simp [hi]

end Go.Proofs.YtmaieenphcnefaaDoor
