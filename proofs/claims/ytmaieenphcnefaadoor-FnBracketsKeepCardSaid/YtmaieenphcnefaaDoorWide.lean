/- Slices of structs of one-cell fields that the call itself makes: an element is a list of cells. No program in sight. -/
import Derived.Test.YtmaieenphcnefaaDoorBase
namespace Go.Proofs.YtmaieenphcnefaaDoor
open Go.RowKit

/-- The slice value v, of n elements of s cells each, is nil or begins a block from 'base' on, and holds the cells F 0, F 1, .. F (n - 1). -/
def Gw (w : World) (base : Nat) (e : TypeId) (s : Nat) (v : Value) (n : Nat) (F : Nat → List Value) : Prop := w.ownsRow base e s v n ((List.range n).flatMap F)

theorem flat_len {F : Nat → List Value} {s : Nat} : ∀ n, (∀ i, i < n → (F i).length = s) → ((List.range n).flatMap F).length = n * s
  | 0, _ => by simp
  | n + 1, h => by
    rw [List.range_succ, List.flatMap_append, List.length_append, flat_len n (fun i hi => h i (by omega))]
    simp only [List.flatMap_cons, List.flatMap_nil, List.append_nil]
    rw [h n (by omega), Nat.succ_mul]

theorem flat_at {F : Nat → List Value} {s : Nat} : ∀ n, (∀ i, i < n → (F i).length = s) → ∀ i c, i < n → c < s → ((List.range n).flatMap F)[i * s + c]? = (F i)[c]?
  | 0, _, i, c, hi, _ => absurd hi (Nat.not_lt_zero _)
  | n + 1, h, i, c, hi, hc => by
    have hl := flat_len (F := F) n (fun i hi => h i (by omega))
    rw [List.range_succ, List.flatMap_append]
    simp only [List.flatMap_cons, List.flatMap_nil, List.append_nil]
    by_cases e : i = n
    · subst e
      rw [List.getElem?_append_right (by omega), hl, Nat.add_sub_cancel_left]
    · have hlt : i * s + c < n * s := by
        have : (i + 1) * s ≤ n * s := Nat.mul_le_mul_right _ (by omega)
        rw [Nat.succ_mul] at this; omega
      rw [List.getElem?_append_left (by rw [hl]; exact hlt)]
      exact flat_at n (fun i hi => h i (by omega)) i c (by omega) hc

theorem flat_take {F : Nat → List Value} {s : Nat} (n m : Nat) (hm : m ≤ n) (h : ∀ i, i < n → (F i).length = s) : ((List.range n).flatMap F).take (m * s) = (List.range m).flatMap F := by
  have e : List.range n = List.range m ++ (List.range (n - m)).map (m + ·) := by
    rw [← List.range_add, Nat.add_sub_cancel' hm]
  rw [e, List.flatMap_append, List.take_left' (flat_len m (fun i hi => h i (by omega)))]

section
variable {w w' : World} {base : Nat} {e : TypeId} {s : Nat} {v : Value} {n : Nat} {F G : Nat → List Value}

theorem Gw.cell {q cap : Nat} (h : Gw w base e s (.slice (some ⟨q, 0, none⟩) n cap) n F) (hF : ∀ i, i < n → (F i).length = s) {i c : Nat} (hi : i < n) (hc : c < s) (u : Value) (hu : (F i)[c]? = some u) : w.cell? ⟨q, i * s + c, none⟩ = some u := by
  have h2 := World.ownsRow.cells h (g := q) rfl (i * s + c) u (by rw [flat_at n hF i c hi hc]; exact hu)
  have e : (⟨q, 0, none⟩ : Addr).add (i * s + c) = ⟨q, i * s + c, none⟩ := by
    unfold Addr.add
    by_cases h0 : i * s + c = 0
    · rw [if_pos h0, h0]
    · rw [if_neg h0, Nat.zero_add]
  rw [e] at h2; exact h2

theorem Gw.ge (h : Gw w base e s v n F) : ∀ k, v.ownBlock = some k → base ≤ k ∧ k < w.heap.size := World.ownsRow.lt h

theorem Gw.kept' (h : Gw w base e s v n F) (hk : ∀ k, v.ownBlock = some k → w'.heap[k]? = w.heap[k]?) : Gw w' base e s v n F := by
  refine ⟨h.1, ?_⟩
  rcases h.2 with hn | ⟨g', cap, cur, rfl, hb, hg, rest⟩
  · exact .inl hn
  · exact .inr ⟨g', cap, cur, rfl, hb, by rw [hk g' rfl]; exact hg, rest⟩

theorem Gw.since (h : Gw w base e s v n F) (k : w.Since w.heap.size w') : Gw w' base e s v n F := h.kept' (fun q hq => k.block q (h.ge q hq).2)

theorem Gw.alloc (h : Gw w base e s v n F) (x : Obj) : Gw (w.alloc x) base e s v n F := World.ownsRow.alloc h x

theorem Gw.congr (h : Gw w base e s v n F) (k : ∀ i, i < n → F i = G i) : Gw w base e s v n G := by
  unfold Gw at *
  have : (List.range n).flatMap F = (List.range n).flatMap G := by
    rw [List.flatMap_def, List.flatMap_def]
    congr 1
    exact List.map_congr_left fun i hi => k i (by simpa using hi)
  rw [← this]; exact h

theorem Gw.form (h : Gw w base e s v n F) (hn : 0 < n) : ∃ g cap, v = .slice (some ⟨g, 0, none⟩) n cap ∧ base ≤ g ∧ n ≤ cap := by
  rcases h.2 with ⟨rfl, rfl⟩ | ⟨g', cap, cur, rfl, hb, hg, hc, rest⟩
  · omega
  · exact ⟨g', cap, rfl, hb, hc⟩

/-- 'x[:m]'. -/
theorem Gw.cut {q cap m : Nat} (h : Gw w base e s (.slice (some ⟨q, 0, none⟩) n cap) n F) (hF : ∀ i, i < n → (F i).length = s) (hm : m ≤ n) : Gw w base e s (.slice (some ⟨q, 0, none⟩) m cap) m F := by
  refine ⟨flat_len m (fun i hi => hF i (by omega)), .inr ?_⟩
  rcases h.2 with ⟨h1, _⟩ | ⟨g', cap', cur, h1, hb, hg, hc, hx, hsz, ht⟩
  · simp at h1
  · simp only [Value.slice.injEq, Option.some.injEq, Addr.mk.injEq] at h1
    obtain ⟨⟨rfl, _, _⟩, _, rfl⟩ := h1
    refine ⟨q, cap, cur, rfl, hb, hg, by omega, hx, hsz, ?_⟩
    rw [← flat_take n m hm hF, ← ht, List.take_take]
    congr 1
    have : m * s ≤ n * s := Nat.mul_le_mul_right _ hm
    omega

theorem Gw.nil (w : World) (base : Nat) (e : TypeId) (s : Nat) (F : Nat → List Value) : Gw w base e s (.slice none 0 0) 0 F := World.ownsRow_nil _ _ _ _

/-- '[]T{}'. -/
theorem Gw.empty (w : World) (base : Nat) (e : TypeId) (s : Nat) (F : Nat → List Value) (hb : base ≤ w.heap.size) : Gw (w.alloc (.cells #[] e)) base e s (.slice (some ⟨w.heap.size, 0, none⟩) 0 0) 0 F := by
  have := World.ownsRow_made (size := s) (e := e) w #[] 0 hb (Nat.zero_le _) (by simp)
  simpa [Gw] using this
end

theorem flat_snoc (F : Nat → List Value) (n : Nat) (u : List Value) : (List.range (n + 1)).flatMap (fun i => if i = n then u else F i) = (List.range n).flatMap F ++ u := by
  rw [List.range_succ, List.flatMap_append]
  simp only [List.flatMap_cons, List.flatMap_nil, List.append_nil, if_pos]
  congr 1
  rw [List.flatMap_def, List.flatMap_def]
  congr 1
  refine List.map_congr_left fun i hi => ?_
  have : i < n := by simpa using hi
  rw [if_neg (by omega)]

/-- 'append(s, x)', where x has just been laid in a block of its own. -/
theorem wpList_pushW {P : Program} (w : World) {ops : Array Oper} {rest : List Oper} {o : Oper} {a : Act} {Q : Exit → Act → World → Prop} (hgd : o.guard = none) (s x : Operand) (t : TypeId)
    (ho : o.op = .call { callee := .builtin .append, args := #[s, x], argTypes := #[t, t] })
    (base : Nat) (e : TypeId) (z : Value) (size bytes : Nat) (ht : P.underlying t = some (.slice e)) (hinfo : (P.info? e).map (fun i => (i.zero, i.size, i.bytes)) = some (some z, size, bytes)) (hz1 : z.cells.size = size) (hsz : 0 < size)
    (v : Value) (n : Nat) (F : Nat → List Value) (us : List Value) (hs : a.eval s = v) (hown : Gw w base e size v n F) (hx : a.eval x = .slice (some ⟨w.heap.size, 0, none⟩) 1 1) (hl : us.length = size) (h1 : ∀ u ∈ us, u.oneCell' = true)
    (hn : n ≤ 4294967296) (hby : bytes ≤ 128) (hbase : base ≤ w.heap.size)
    (h : ∀ v' w', Gw w' base e size v' (n + 1) (fun i => if i = n then us else F i) → (w.alloc (.cells us.toArray e)).grownBy w' v.ownBlock → (v'.ownBlock = v.ownBlock ∨ v'.ownBlock = some (w.heap.size + 1)) → wpList P ops Q rest (a.put o.dst v') w') :
    wpList P ops Q (o :: rest) a (w.alloc (.cells us.toArray e)) := by
  obtain ⟨i, hi, h2, h3, h4⟩ := info_parts hinfo
  have hb : (n + 1) * bytes ≤ 140737488355328 := by
    have := Nat.mul_le_mul (show n + 1 ≤ 4294967297 by omega) hby
    omega
  refine wpList_append_own_at (w.alloc (.cells us.toArray e)) hgd s x t ho base e i z size bytes ht hi h2 h3 h4 hz1 hsz v n ((List.range n).flatMap F) hs (World.ownsRow.alloc hown _) ⟨w.heap.size, 0, none⟩ 1 1 us hx (by rw [hl]; omega) ?_ h1 ?_ hb ?_ ?_
  · intro j y hj
    have hj2 : us[j]? = some y := hj
    have e2 : (⟨w.heap.size, 0, none⟩ : Addr).add j = ⟨w.heap.size, j, none⟩ := by
      unfold Addr.add
      by_cases h0 : j = 0
      · rw [if_pos h0, h0]
      · rw [if_neg h0, Nat.zero_add]
    rw [e2]
    have hh := heap_alloc_new w (.cells us.toArray e)
    unfold World.cell?
    simp only [hh]
    simpa using hj2
  · unfold maxLen; omega
  · simp; omega
  · intro v' w' q1 q2 _ q4
    refine h v' w' ?_ q2 ?_
    · unfold Gw; rw [flat_snoc]; exact q1
    · simpa using q4

end Go.Proofs.YtmaieenphcnefaaDoor
