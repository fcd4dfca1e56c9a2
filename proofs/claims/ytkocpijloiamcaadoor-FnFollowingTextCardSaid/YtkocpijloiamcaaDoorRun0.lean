/- What stands in memory while run goes over the isolating run sequences. No walk. -/
import Derived.Test.YtkocpijloiamcaaDoorAsg
import Derived.Test.YtkocpijloiamcaaDoorDirs
import Derived.Test.YtkocpijloiamcaaDoorRes
import Derived.Test.YtkocpijloiamcaaDoorGQ
namespace Go.Proofs.YtkocpijloiamcaaDoor
open Go.RowKit
set_option linter.unusedVariables false
set_option linter.unusedSimpArgs false

/-- A block that was made at its length is a slice's own. -/
theorem gr_of_row {w : World} {B q n : Nat} {E : TypeId} {f : Nat → Value} (h : w.rowIs q E n f) (hB : B ≤ q) (hn : n ≤ 8589934592) : Gr w B E (.slice (some ⟨q, 0, none⟩) n n) n f := by
  obtain ⟨c, h1, h2, h3⟩ := h
  refine ⟨by simp, .inr ⟨q, n, c, rfl, hB, h1, Nat.le_refl _, by unfold maxLen; omega, by omega, ?_⟩⟩
  refine List.ext_getElem (by simp; omega) fun i q1 q2 => ?_
  have hi : i < n := by simpa using q2
  have := h3 i hi
  have hic : i < c.size := by omega
  rw [Array.getElem?_eq_getElem hic] at this
  simp only [List.getElem_take, Array.getElem_toList, List.getElem_map, List.getElem_range]
  exact Option.some.inj this

theorem ne_of_cell {w : World} {a b : Nat} {u v : Value} (h1 : w.cell? ⟨a, 0, none⟩ = some u) (h2 : w.cell? ⟨b, 0, none⟩ = some v) (h : u ≠ v) : a ≠ b := fun e => h (by
  rw [e, h2] at h1
  exact (Option.some.inj h1).symm)

/-- The blocks of a paragraph. -/
structure Dst (p b0 bt bv T R M : Nat) : Prop where
  pT : p ≠ T ∧ p ≠ R
  b0T : b0 ≠ T ∧ b0 ≠ R
  btT : bt ≠ T ∧ bt ≠ R
  bvT : bv ≠ T ∧ bv ≠ R
  TR : T ≠ R
  lt : p < M ∧ b0 < M ∧ bt < M ∧ bv < M ∧ T < M ∧ R < M

/-- A paragraph's fields, and what they read as. -/
structure Pg (w : World) (x kd vl : Nat → Int) (N p b0 c0 bt ct bv cv T capT R : Nat) (base : Int) : Prop where
  k0 : w.cell? ⟨p, 0, none⟩ = some (.slice (some ⟨b0, 0, none⟩) N c0)
  k1 : w.cell? ⟨p, 1, none⟩ = some (.slice (some ⟨bt, 0, none⟩) N ct)
  k2 : w.cell? ⟨p, 2, none⟩ = some (.slice (some ⟨bv, 0, none⟩) N cv)
  k3 : w.cell? ⟨p, 3, none⟩ = some (.int .i8 base)
  k4 : w.cell? ⟨p, 4, none⟩ = some (.slice (some ⟨T, 0, none⟩) N capT)
  k5 : w.cell? ⟨p, 5, none⟩ = some (.slice (some ⟨R, 0, none⟩) N N)
  init : Sees w (some ⟨b0, 0, none⟩) b0 0 N c0 (fun i => .int .u64 (cls (x i)))
  kinds : Sees w (some ⟨bt, 0, none⟩) bt 0 N ct (fun i => .int .u8 (kd i))
  vals : Sees w (some ⟨bv, 0, none⟩) bv 0 N cv (fun i => .int .i32 (vl i))

section
variable {w w' : World} {x kd vl : Nat → Int} {N p b0 c0 bt ct bv cv T capT R M : Nat} {base : Int} {Q : Nat → Prop}

theorem Pg.kp (h : Pg w x kd vl N p b0 c0 bt ct bv cv T capT R base) (k : Kp Q w w') (h1 : ¬ Q p) (h2 : ¬ Q b0) (h3 : ¬ Q bt) (h4 : ¬ Q bv) : Pg w' x kd vl N p b0 c0 bt ct bv cv T capT R base :=
  ⟨k.cell h.k0 h1, k.cell h.k1 h1, k.cell h.k2 h1, k.cell h.k3 h1, k.cell h.k4 h1, k.cell h.k5 h1, k.sees h.init (fun _ => h2), k.sees h.kinds (fun _ => h3), k.sees h.vals (fun _ => h4)⟩
end

/-- The blocks that the first k sequences turn, and the paragraph's. -/
def turned (T R : Nat) (Sf Tf : Nat → Nat) (k b : Nat) : Prop := b = T ∨ b = R ∨ ∃ j, j < k ∧ (b = Sf j ∨ b = Tf j)

/-- What holds behind the first k sequences. -/
structure Rn (wB : World) (x kd vl : Nat → Int) (base : Int) (N B T capT R : Nat) (L : List (List Nat)) (Sf Tf : Nat → Nat) (k : Nat) (wx : World) : Prop where
  kept : Kp (turned T R Sf Tf k) wB wx
  ex : ∃ ft fl : Nat → Int, Gr wx B 67 (.slice (some ⟨T, 0, none⟩) N capT) N (fun i => .int .u64 (ft i)) ∧ wx.rowIs R 62 N (fun i => .int .i8 (fl i)) ∧
    ∀ j, j < k → ∀ t, t < (L.getD j []).length → ft ((L.getD j []).getD t 0) = sqT x kd vl base N (L.getD j []) t ∧ fl ((L.getD j []).getD t 0) = imp (sqV x base N (L.getD j [])) (sqT x kd vl base N (L.getD j []) t)

/-- A sequence that is worked on: its fields, and what they read as. -/
structure Sx (w : World) (p S q b c : Nat) (a : Option Addr) (l : List Nat) (f3 : Value) (lv sos eos : Int) : Prop where
  row : w.rowIs S 109 7 (sf (.pointer (some ⟨p, 0, none⟩)) (.slice a l.length c) (.slice (some ⟨q, 0, none⟩) l.length l.length) f3 (.int .i8 lv) (.int .u64 sos) (.int .u64 eos))
  idx : Sees w a b 0 l.length c (cellsOf l)

section
variable {w w' : World} {p S q b c : Nat} {a : Option Addr} {l : List Nat} {f3 : Value} {lv sos eos : Int} {Q : Nat → Prop}
theorem Sx.kp (h : Sx w p S q b c a l f3 lv sos eos) (k : Kp Q w w') (h1 : ¬ Q S) (h2 : ¬ Q b) : Sx w' p S q b c a l f3 lv sos eos := ⟨k.row h.row h1, k.sees h.idx (fun _ => h2)⟩
end

/-- What is known of the sequences when the loop over them begins. -/
structure Sk (wB : World) (x : Nat → Int) (base : Int) (N p T R M : Nat) (L : List (List Nat)) (Sf Tf : Nat → Nat) : Prop where
  sq : ∀ j, j < L.length → ∃ a b c, Sx wB p (Sf j) (Tf j) b c a (L.getD j []) (.slice none 0 0) (sqV x base N (L.getD j [])) (sqS x base N (L.getD j [])) (sqE x base N (L.getD j [])) ∧
    wB.rowIs (Tf j) 67 (L.getD j []).length (fun i => .int .u64 (sqC x base N (L.getD j []) i)) ∧ b ≠ T ∧ b ≠ R ∧ (∀ i, i < L.length → b ≠ Sf i ∧ b ≠ Tf i) ∧ b < wB.heap.size
  lt : ∀ j, j < L.length → M ≤ Tf j ∧ Tf j < Sf j ∧ Sf j < wB.heap.size
  ord : ∀ j k, j < k → k < L.length → Sf j < Tf k

section
variable {wB wx : World} {x kd vl : Nat → Int} {base : Int} {N p b0 c0 bt ct bv cv T capT R M B : Nat} {L : List (List Nat)} {Sf Tf : Nat → Nat} {k : Nat}

theorem Sk.apart (h : Sk wB x base N p T R M L Sf Tf) {j k : Nat} (hj : j < L.length) (hk : k < L.length) : Sf j ≠ Tf k ∧ (j ≠ k → Sf j ≠ Sf k ∧ Tf j ≠ Tf k) := by
  have a := h.lt j hj
  have b := h.lt k hk
  rcases Nat.lt_trichotomy j k with e | e | e
  · have := h.ord j k e hk
    exact ⟨by omega, fun _ => ⟨by omega, by omega⟩⟩
  · subst e; exact ⟨by omega, fun h => absurd rfl h⟩
  · have := h.ord k j e hj
    exact ⟨by omega, fun _ => ⟨by omega, by omega⟩⟩

theorem turned_not {b : Nat} (h1 : b ≠ T) (h2 : b ≠ R) (h3 : ∀ j, j < k → b ≠ Sf j ∧ b ≠ Tf j) : ¬ turned T R Sf Tf k b := by
  rintro (e | e | ⟨j, hj, e | e⟩)
  · exact h1 e
  · exact h2 e
  · exact (h3 j hj).1 e
  · exact (h3 j hj).2 e

theorem turned_low (h : Sk wB x base N p T R M L Sf Tf) (hk : k ≤ L.length) {b : Nat} (hb : b < M) (h1 : b ≠ T) (h2 : b ≠ R) : ¬ turned T R Sf Tf k b :=
  turned_not h1 h2 (fun j hj => by have := h.lt j (by omega); omega)

/-- Sequence k as it stands when its turn comes. -/
theorem Rn.seq (h : Rn wB x kd vl base N B T capT R L Sf Tf k wx) (hS : Sk wB x base N p T R M L Sf Tf) (hd : Dst p b0 bt bv T R M) (hk : k < L.length) :
    ∃ a b c, Sx wx p (Sf k) (Tf k) b c a (L.getD k []) (.slice none 0 0) (sqV x base N (L.getD k [])) (sqS x base N (L.getD k [])) (sqE x base N (L.getD k [])) ∧
      wx.rowIs (Tf k) 67 (L.getD k []).length (fun i => .int .u64 (sqC x base N (L.getD k []) i)) ∧ b ≠ T ∧ b ≠ R ∧ b ≠ Sf k ∧ b ≠ Tf k ∧ b < wB.heap.size := by
  obtain ⟨a, b, c, h1, h2, h3, h4, h5, h6⟩ := hS.sq k hk
  have hl := hS.lt k hk
  have hM := hd.lt
  refine ⟨a, b, c, h1.kp h.kept (turned_not (by omega) (by omega) fun j hj => ?_) (turned_not h3 h4 fun j hj => h5 j (by omega)), h.kept.row h2 (turned_not (by omega) (by omega) fun j hj => ?_), h3, h4, (h5 k hk).1, (h5 k hk).2, h6⟩
  · have := hS.apart (show j < L.length by omega) hk
    have := hS.apart hk (show j < L.length by omega)
    exact ⟨fun e => (this.2 (by omega)).1 e, this.1⟩
  · have := hS.apart (show j < L.length by omega) hk
    have := hS.ord j k hj hk
    have := hS.lt j (by omega)
    exact ⟨by omega, by omega⟩

/-- .. and what is written of it. -/
theorem Rn.step {w4 w5 : World} {B' : Nat} {cT cL ft fl : Nat → Int} (h : Rn wB x kd vl base N B T capT R L Sf Tf k wx) (hk : k < L.length) (hc : ChOk x (fsI N x) base N L) (hb : base = 0 ∨ base = 1) (hB7 : ∀ i, i < N → x i = 7 → N ≤ i + 1)
    (hft : ∀ j, j < k → ∀ t, t < (L.getD j []).length → ft ((L.getD j []).getD t 0) = sqT x kd vl base N (L.getD j []) t ∧ fl ((L.getD j []).getD t 0) = imp (sqV x base N (L.getD j [])) (sqT x kd vl base N (L.getD j []) t))
    (h4 : Kp (fun b => b = Sf k ∨ b = Tf k) wx w4) (h5 : Ap w4 B T R N capT (L.getD k []) cT cL ft fl (L.getD k []).length w5) (hT : ∀ t, t < (L.getD k []).length → cT t = sqT x kd vl base N (L.getD k []) t ∧ cL t = imp (sqV x base N (L.getD k [])) (sqT x kd vl base N (L.getD k []) t)) :
    Rn wB x kd vl base N B T capT R L Sf Tf (k + 1) w5 := by
  have m1 : Kp (turned T R Sf Tf (k + 1)) wB wx := h.kept.mono (fun b _ hb => by
    rcases hb with e | e | ⟨j, hj, e⟩
    · exact .inl e
    · exact .inr (.inl e)
    · exact .inr (.inr ⟨j, by omega, e⟩))
  have m2 : Kp (turned T R Sf Tf (k + 1)) wx w4 := h4.mono (fun b _ e => .inr (.inr ⟨k, by omega, e⟩))
  have m3 : Kp (turned T R Sf Tf (k + 1)) w4 w5 := h5.kept.mono (fun b _ e => by
    rcases e with e | e
    · exact .inl e
    · exact .inr (.inl e))
  refine ⟨(m1.trans m2).trans m3, ?_⟩
  obtain ⟨ft', fl', q1, q2, q3, q4⟩ := h5.ex
  refine ⟨ft', fl', q1, q2, fun j hj t ht => ?_⟩
  by_cases e : j = k
  · subst e
    rw [(q3 t ht).1, (q3 t ht).2, (hT t ht).1, (hT t ht).2]; exact ⟨rfl, rfl⟩
  · have := q4 ((L.getD j []).getD t 0) (fun i hi e2 => e (hc.once hb hB7 hk (by omega) hi ht e2).1.symm)
    rw [this.1, this.2]
    exact hft j (by omega) t ht
end
end Go.Proofs.YtkocpijloiamcaaDoor
