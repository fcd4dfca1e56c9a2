/- Slices of structs of four cells, of which the first one is a list of places; elements of several cells: their addresses, loads, an append as a step of a drawn region. No program in sight. -/
import Derived.Test.YtjelgbfgciaapaaDoorWide
import Derived.Test.YtjelgbfgciaapaaDoorLL
import Derived.Deep.MidRow
import Derived.Deep.RegionHeld3
namespace Go.Proofs.YtjelgbfgciaapaaDoor
open Go.RowKit
set_option linter.unusedVariables false

/-- The elements F of a slice v read as the lists L, with what g says beside each. -/
def Q4 (w : World) (v : Value) (L : List (List Nat)) (g : List Nat → List Value) (F : Nat → List Value) : Prop :=
  ∀ j, j < L.length → ∃ a b o c, F j = .slice a (L.getD j []).length c :: g (L.getD j []) ∧ Sees w a b o (L.getD j []).length c (cellsOf (L.getD j [])) ∧ ∀ k, v.ownBlock = some k → 0 < (L.getD j []).length → k ≠ b

def Sq4 (w : World) (B : Nat) (E : TypeId) (v : Value) (L : List (List Nat)) (g : List Nat → List Value) : Prop :=
  ∃ F, Gw w B E 4 v L.length F ∧ Q4 w v L g F

section
variable {w w' : World} {B : Nat} {E : TypeId} {v v' : Value} {L : List (List Nat)} {l : List Nat} {g g' : List Nat → List Value} {F : Nat → List Value}

theorem Q4.since (h : Q4 w v L g F) (s : w.Since w.heap.size w') : Q4 w' v L g F := fun j hj => by
  obtain ⟨a, b, o, c, h1, h2, h3⟩ := h j hj
  exact ⟨a, b, o, c, h1, h2.since s, h3⟩

theorem Sq4.since (h : Sq4 w B E v L g) (s : w.Since w.heap.size w') : Sq4 w' B E v L g := by
  obtain ⟨F, h1, h2⟩ := h
  exact ⟨F, h1.since s, h2.since s⟩

theorem Sq4.congr (h : Sq4 w B E v L g) (e : ∀ l, l ∈ L → g l = g' l) : Sq4 w B E v L g' := by
  obtain ⟨F, h1, h2⟩ := h
  refine ⟨F, h1, fun j hj => ?_⟩
  obtain ⟨a, b, o, c, q1, q2, q3⟩ := h2 j hj
  refine ⟨a, b, o, c, by rw [q1, e]; rw [List.getD_eq_getElem?_getD, List.getElem?_eq_getElem hj]; exact List.getElem_mem hj, q2, q3⟩

theorem Sq4.base {B' : Nat} (h : Sq4 w B E v L g) (hb : B' ≤ B) : Sq4 w B' E v L g := by
  obtain ⟨F, h1, h2⟩ := h
  refine ⟨F, ⟨h1.1, ?_⟩, h2⟩
  rcases h1.2 with hn | ⟨g', cap, cur, rfl, hb2, rest⟩
  · exact .inl hn
  · exact .inr ⟨g', cap, cur, rfl, Nat.le_trans hb hb2, rest⟩

theorem Sq4.nil (w : World) (B : Nat) (E : TypeId) (g : List Nat → List Value) : Sq4 w B E (.slice none 0 0) [] g :=
  ⟨fun _ => [], Gw.nil _ _ _ _ _, fun j hj => absurd hj (Nat.not_lt_zero _)⟩

theorem Sq4.empty (w : World) (B : Nat) (E : TypeId) (g : List Nat → List Value) (hb : B ≤ w.heap.size) : Sq4 (w.alloc (.cells #[] E)) B E (.slice (some ⟨w.heap.size, 0, none⟩) 0 0) [] g :=
  ⟨fun _ => [], Gw.empty _ _ _ _ _ hb, fun j hj => absurd hj (Nat.not_lt_zero _)⟩

theorem Gw.len {n s : Nat} (h : Gw w B E s v n F) : ∃ ao c, v = .slice ao n c := by
  rcases h.2 with ⟨rfl, rfl⟩ | ⟨g', cap, cur, rfl, _⟩
  · exact ⟨none, 0, rfl⟩
  · exact ⟨_, _, rfl⟩

theorem Sq4.form (h : Sq4 w B E v L g) : ∃ ao c, v = .slice ao L.length c := by
  obtain ⟨F, h1, _⟩ := h
  exact h1.len

/-- One more. -/
theorem Q4.push {x : Obj} {a : Option Addr} {b o c : Nat} (hF : Q4 w v L g F) (hl : Sees w a b o l.length c (cellsOf l)) (hb : ∀ k, v.ownBlock = some k → 0 < l.length → k ≠ b)
    (hg : Gw w' B E 4 v' (L.length + 1) (fun i => if i = L.length then .slice a l.length c :: g l else F i))
    (hgr : (w.alloc x).grownBy w' v.ownBlock) (hat : v'.ownBlock = v.ownBlock ∨ v'.ownBlock = some (w.heap.size + 1)) : Sq4 w' B E v' (L ++ [l]) g := by
  have hz : (w.alloc x).heap.size = w.heap.size + 1 := by rw [World.size_alloc]
  have key : ∀ (l : List Nat) (a : Option Addr) (b o c : Nat), Sees w a b o l.length c (cellsOf l) → (∀ k, v.ownBlock = some k → 0 < l.length → k ≠ b) → Sees w' a b o l.length c (cellsOf l) ∧ ∀ k, v'.ownBlock = some k → 0 < l.length → k ≠ b := by
    intro l a b o c h1 h2
    have h3 := h1.since ((World.Since.refl _ _ : w.Since w.heap.size w).alloc (Nat.le_refl _) x)
    refine ⟨h3.kept (fun h0 => ?_), fun k hk h0 => ?_⟩
    · have := h1.lt h0
      exact hgr.block b (by omega) (fun e => h2 b e.symm h0 rfl)
    · rcases hat with e | e
      · exact h2 k (by rw [← e]; exact hk) h0
      · rw [e] at hk
        simp only [Option.some.injEq] at hk
        have := h1.lt h0
        omega
  have hlen : (L ++ [l]).length = L.length + 1 := by simp
  have ga : ∀ j, j < L.length → (L ++ [l]).getD j [] = L.getD j [] := fun j hj => by
    rw [List.getD_eq_getElem?_getD, List.getElem?_append_left hj, List.getD_eq_getElem?_getD]
  have gb : (L ++ [l]).getD L.length [] = l := by
    rw [List.getD_eq_getElem?_getD, List.getElem?_append_right (Nat.le_refl _)]; simp
  refine ⟨_, by rw [hlen]; exact hg, fun j hj => ?_⟩
  rw [hlen] at hj
  by_cases e : j = L.length
  · subst e
    obtain ⟨k1, k2⟩ := key l a b o c hl hb
    refine ⟨a, b, o, c, ?_, ?_, ?_⟩
    · (try dsimp only); rw [if_pos rfl, gb]
    · rw [gb]; exact k1
    · rw [gb]; exact k2
  · obtain ⟨a2, b2, o2, c2, q1, q2, q3⟩ := hF j (by omega)
    obtain ⟨k1, k2⟩ := key _ _ _ _ _ q2 q3
    refine ⟨a2, b2, o2, c2, ?_, ?_, ?_⟩
    · (try dsimp only); rw [if_neg e, ga j (by omega)]; exact q1
    · rw [ga j (by omega)]; exact k1
    · rw [ga j (by omega)]; exact k2
end

theorem index_wide {P : Program} (t E : TypeId) (s : Nat) (ht : P.underlying t = some (.slice E)) (hsz : (P.info? E).map (fun i => i.size) = some s) {q n cap i : Nat} (hi : i < n) (w : World) :
    (Instr.indexAt t (.slice (some ⟨q, 0, none⟩) n cap) (.int .i64 (i : Int))).run P w = .ok (.pointer (some ⟨q, i * s, none⟩)) w := by
  have e : P.elem t = E := by unfold Program.elem; rw [ht]
  rw [run_indexAt_slice w _ _ _ _ _ _ (by rw [e]; exact ht)]
  have hs : (sizeOf (P.elem t)).run P w = .ok s w := by
    rw [e]
    obtain ⟨inf, h1, h2⟩ := Option.map_eq_some_iff.1 hsz
    simp [sizeOf, typeInfo, h1, h2]
  rw [if_pos ⟨by omega, by omega⟩, hs]
  have e2 : (⟨q, 0, none⟩ : Addr).add (i * s) = ⟨q, i * s, none⟩ := by
    unfold Addr.add
    by_cases h0 : i * s = 0
    · rw [if_pos h0, h0]
    · rw [if_neg h0, Nat.zero_add]
  simp [e2]

theorem load4 {P : Program} (E : TypeId) (fs : TypeDesc) (hE : P.underlying E = some fs) (hd : fs.isRow = true) (hsz : (P.info? E).map (fun i => i.size) = some 4) {w : World} {q o : Nat} {a b c d : Value} (h0 : w.cell? ⟨q, o, none⟩ = some a) (h1 : w.cell? ⟨q, o + 1, none⟩ = some b) (h2 : w.cell? ⟨q, o + 2, none⟩ = some c) (h3 : w.cell? ⟨q, o + 3, none⟩ = some d) :
    (Instr.loadAt E (.pointer (some ⟨q, o, none⟩))).run P w = .ok (.agg #[a, b, c, d]) w :=
  run_loadAt_mid w q o E [a, b, c, d] fs (fun j v hj => match j, hj with
    | 0, hj => by simp at hj; subst hj; exact h0
    | 1, hj => by simp at hj; subst hj; exact h1
    | 2, hj => by simp at hj; subst hj; exact h2
    | 3, hj => by simp at hj; subst hj; exact h3
    | (j + 4), hj => by simp at hj) hE hd hsz

theorem load2 {P : Program} (E : TypeId) (fs : TypeDesc) (hE : P.underlying E = some fs) (hd : fs.isRow = true) (hsz : (P.info? E).map (fun i => i.size) = some 2) {w : World} {q o : Nat} {a b : Value} (h0 : w.cell? ⟨q, o, none⟩ = some a) (h1 : w.cell? ⟨q, o + 1, none⟩ = some b) :
    (Instr.loadAt E (.pointer (some ⟨q, o, none⟩))).run P w = .ok (.agg #[a, b]) w :=
  run_loadAt_mid w q o E [a, b] fs (fun j v hj => match j, hj with
    | 0, hj => by simp at hj; subst hj; exact h0
    | 1, hj => by simp at hj; subst hj; exact h1
    | (j + 2), hj => by simp at hj) hE hd hsz

section
variable {w : World} {B : Nat} {E : TypeId} {v : Value} {n q cap : Nat} {F : Nat → List Value} {j : Nat} {x0 x1 x2 x3 : Value}
/-- The four cells of an element. -/
theorem Gw.cells4 (h : Gw w B E 4 (.slice (some ⟨q, 0, none⟩) n cap) n F) (hF : ∀ i, i < n → (F i).length = 4) (hj : j < n) (e : F j = [x0, x1, x2, x3]) :
    w.cell? ⟨q, j * 4, none⟩ = some x0 ∧ w.cell? ⟨q, j * 4 + 1, none⟩ = some x1 ∧ w.cell? ⟨q, j * 4 + 2, none⟩ = some x2 ∧ w.cell? ⟨q, j * 4 + 3, none⟩ = some x3 :=
  ⟨h.cell hF (c := 0) hj (by omega) x0 (by rw [e]; rfl), h.cell hF (c := 1) hj (by omega) x1 (by rw [e]; rfl), h.cell hF (c := 2) hj (by omega) x2 (by rw [e]; rfl), h.cell hF (c := 3) hj (by omega) x3 (by rw [e]; rfl)⟩
end

/-- The element has just been laid in a block of its own. -/
theorem step_pushW {P : Program} (w : World) {ops : Array Oper} {o : Oper} {a : Act} {K : Act → World → Prop} {Q : Exit → Act → World → Prop} {E : Prop} (hgd : o.guard = none) (s x : Operand) (t : TypeId)
    (ho : o.op = .call { callee := .builtin .append, args := #[s, x], argTypes := #[t, t] })
    (base : Nat) (e : TypeId) (z : Value) (size bytes : Nat) (ht : P.underlying t = some (.slice e)) (hinfo : (P.info? e).map (fun i => (i.zero, i.size, i.bytes)) = some (some z, size, bytes)) (hz1 : z.cells.size = size) (hsz : 0 < size)
    (v : Value) (n : Nat) (F : Nat → List Value) (us : List Value) (hs : a.eval s = v) (hown : Gw w base e size v n F) (hx : a.eval x = .slice (some ⟨w.heap.size, 0, none⟩) 1 1) (hl : us.length = size) (h1 : ∀ u ∈ us, u.oneCell' = true)
    (hn : n ≤ 4294967296) (hby : bytes ≤ 128) (hbase : base ≤ w.heap.size)
    (h : ∀ v' w', Gw w' base e size v' (n + 1) (fun i => if i = n then us else F i) → (w.alloc (.cells us.toArray e)).grownBy w' v.ownBlock → (v'.ownBlock = v.ownBlock ∨ v'.ownBlock = some (w.heap.size + 1)) → K (a.put o.dst v') w') :
    if Region.wanted o (yielded ops a.tmps) = true then Oper.wp P o a (w.alloc (.cells us.toArray e)) K Q else E := by
  have hw : Region.wanted o (yielded ops a.tmps) = true := by simp [Region.wanted, hgd]
  rw [if_pos hw]
  obtain ⟨i, hi, h2, h3, h4⟩ := info_parts hinfo
  have hb : (n + 1) * bytes ≤ 140737488355328 := by
    have := Nat.mul_le_mul (show n + 1 ≤ 4294967297 by omega) hby
    omega
  have hcells : ∀ j u, us[j]? = some u → (w.alloc (.cells us.toArray e)).cell? ((⟨w.heap.size, 0, none⟩ : Addr).add j) = some u := by
    intro j y hj
    have e2 : (⟨w.heap.size, 0, none⟩ : Addr).add j = ⟨w.heap.size, j, none⟩ := by
      unfold Addr.add
      by_cases h0 : j = 0
      · rw [if_pos h0, h0]
      · rw [if_neg h0, Nat.zero_add]
    rw [e2]
    have hh := heap_alloc_new w (.cells us.toArray e)
    unfold World.cell?
    simp only [hh]
    simpa using hj
  obtain ⟨v', w', hr, q1, q2, q4, q5⟩ := run_append_own_at (P := P) (w.alloc (.cells us.toArray e)) base t o.type e i z size bytes ht hi h2 h3 h4 hz1 hsz v n ((List.range n).flatMap F) (World.ownsRow.alloc hown _) ⟨w.heap.size, 0, none⟩ 1 1 us (by rw [hl]; omega) hcells h1 (by unfold maxLen; omega) hb (by simp; omega)
  unfold Oper.wp
  simp [execOp, ho, resolve, invoke, builtin, hs, hx, hr, Result.andThen]
  refine h v' w' ?_ q2 ?_
  · unfold Gw; rw [flat_snoc]; exact q1
  · simpa using q5

end Go.Proofs.YtjelgbfgciaapaaDoor
