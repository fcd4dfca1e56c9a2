/- (*bracketPairer).locateBrackets: the pairs of BD16. -/
import Derived.Test.YtmaieenphcnefaaDoorLst
import Derived.Test.YtmaieenphcnefaaDoorPr2
import Derived.Test.YtmaieenphcnefaaDoorSrt8
import Derived.Deep.DeepCutAuto
import Derived.Deep.CutBlock
import Derived.StillTailTactics
namespace Go.Proofs.YtmaieenphcnefaaDoor
set_option linter.unusedVariables false
set_option linter.unusedSimpArgs false
open Go.RowKit Go.Lib Go.Sort

/-- A bracketPairer's fields. -/
def bpf (sos op pp cd ix : Value) : Nat → Value | 0 => sos | 1 => op | 2 => pp | 3 => cd | _ => ix

theorem Kp.next {S T : Nat → Prop} {w0 w w' : World} (h : Kp S w0 w) (k : Kp T w w') (hT : ∀ i, i < w0.heap.size → T i → S i) : Kp S w0 w' :=
  ⟨k.os.trans h.os, k.tape.trans h.tape, k.output.trans h.output, Nat.le_trans h.size k.size, fun i hi hs => (k.block i (Nat.lt_of_lt_of_le hi h.size) (fun ht => hs (hT i hi ht))).trans (h.block i hi hs)⟩

/-- What stands in memory while the pairs are looked for. -/
structure Lc (w0 : World) (p L : Nat) (sos cd ix : Value) (st : List Nat) (es : List (Nat × Nat)) (v : Value) (d : Array (Nat × Nat)) (w : World) : Prop where
  row : w.rowIs p 64 5 (bpf sos (ptr L) v cd ix)
  ls : Ls w L es
  st : es.map Prod.snd = st
  new : ∀ k, k ∈ es.map Prod.fst → w0.heap.size ≤ k
  gw : Gw w w0.heap.size 69 2 v d.size (fun i => prc d[i]!)
  ap : ∀ k, v.ownBlock = some k → k ∉ es.map Prod.fst
  kp : Kp (fun k => k = p ∨ k = L) w0 w
  hp : p < w0.heap.size
  hL : L < w0.heap.size
  pL : p ≠ L

section
variable {w0 w w' : World} {p L : Nat} {sos cd ix : Value} {st : List Nat} {es : List (Nat × Nat)} {v : Value} {d : Array (Nat × Nat)}

theorem Lc.drewN (h : Lc w0 p L sos cd ix st es v d w) (k : Nat) : Lc w0 p L sos cd ix st es v d (w.drewN k) :=
  ⟨h.row, h.ls.kept (fun _ _ => rfl), h.st, h.new, h.gw.kept' (fun _ _ => rfl), h.ap, h.kp.drewN k, h.hp, h.hL, h.pL⟩

theorem Lc.len (h : Lc w0 p L sos cd ix st es v d w) : es.length = st.length := by rw [← h.st]; simp

/-- An opener is remembered. -/
theorem Lc.push (h : Lc w0 p L sos cd ix st es v d w) {b i : Nat} (hb : w.heap.size ≤ b) (hl : Ls w' L ((b, i) :: es)) (hk : Kp (fun k => k = L ∨ k ∈ es.map Prod.fst) w w') :
    Lc w0 p L sos cd ix (i :: st) ((b, i) :: es) v d w' := by
  have hw := h.kp.size
  have hp := h.hp
  have hL := h.hL
  refine ⟨h.row.of_block (hk.block p h.row.lt ?_), hl, by rw [List.map_cons, h.st], ?_, h.gw.kept' (fun k hv => hk.block k (h.gw.ge k hv).2 ?_), fun k hv hm => ?_, h.kp.next hk ?_, hp, hL, h.pL⟩
  · rintro (e | e)
    · exact h.pL e
    · have := h.new p e; omega
  · intro k hm
    rcases List.mem_cons.1 hm with e | hm
    · have e2 : k = b := e
      omega
    · exact h.new k hm
  · have h1 := (h.gw.ge k hv).1
    rintro (e | e)
    · omega
    · exact h.ap k hv e
  · have h1 := (h.gw.ge k hv).2
    rcases List.mem_cons.1 hm with e | hm
    · have e2 : k = b := e
      omega
    · exact h.ap k hv hm
  · rintro k hk1 (e | e)
    · exact .inr e
    · have := h.new k e; omega

/-- The latest opener is forgotten. -/
theorem Lc.pop {b u : Nat} (h : Lc w0 p L sos cd ix st ((b, u) :: es) v d w) (hl : Ls w' L es) (hk : Kp (fun k => k = L ∨ k ∈ ((b, u) :: es).map Prod.fst) w w') :
    Lc w0 p L sos cd ix (st.drop 1) es v d w' := by
  have hp := h.hp
  have hL := h.hL
  refine ⟨h.row.of_block (hk.block p h.row.lt ?_), hl, by rw [← h.st]; rfl, fun k hm => h.new k (List.mem_cons_of_mem _ hm), h.gw.kept' (fun k hv => hk.block k (h.gw.ge k hv).2 ?_), fun k hv hm => h.ap k hv (List.mem_cons_of_mem _ hm), h.kp.next hk ?_, hp, hL, h.pL⟩
  · rintro (e | e)
    · exact h.pL e
    · have := h.new p e; omega
  · have h1 := (h.gw.ge k hv).1
    rintro (e | e)
    · omega
    · exact h.ap k hv e
  · rintro k hk1 (e | e)
    · exact .inr e
    · have := h.new k e; omega

/-- All openers are forgotten. -/
theorem Lc.clear (h : Lc w0 p L sos cd ix st es v d w) (hl : Ls w' L []) (hk : Kp (fun k => k = L) w w') : Lc w0 p L sos cd ix [] [] v d w' := by
  have hp := h.hp
  have hL := h.hL
  refine ⟨h.row.of_block (hk.block p h.row.lt h.pL), hl, rfl, fun k hm => absurd hm (by simp), h.gw.kept' (fun k hv => hk.block k (h.gw.ge k hv).2 ?_), fun k hv hm => absurd hm (by simp), h.kp.next hk (fun k _ e => .inr e), hp, hL, h.pL⟩
  have h1 := (h.gw.ge k hv).1
  omega

/-- A pair more. -/
theorem Lc.pair (h : Lc w0 p L sos cd ix st es v d w) {w1 : World} {v' : Value} {x : Nat × Nat} {o : Obj}
    (hg : Gw w1 w0.heap.size 69 2 v' (d.size + 1) (fun i => if i = d.size then prc x else prc d[i]!)) (hgr : (w.alloc o).grownBy w1 v.ownBlock) (hat : v'.ownBlock = v.ownBlock ∨ v'.ownBlock = some (w.heap.size + 1)) :
    Lc w0 p L sos cd ix st es v' (d.push x) (w1.setCell ⟨p, 2, none⟩ v') := by
  have hp := h.hp
  have hL := h.hL
  have hw := h.kp.size
  have hz : (w.alloc o).heap.size = w.heap.size + 1 := by rw [World.size_alloc]
  have hvne : ∀ k, v.ownBlock = some k → w0.heap.size ≤ k := fun k hv => (h.gw.ge k hv).1
  have kp1 : Kp (fun k => v.ownBlock = some k) w w1 := ((Kp.refl _ _).alloc o).grown hgr (fun k hk => .inl hk)
  have kp2 : Kp (fun k => v.ownBlock = some k ∨ k = p) w (w1.setCell ⟨p, 2, none⟩ v') := (kp1.mono (fun k _ hk => .inl hk)).setCell (a := ⟨p, 2, none⟩) (.inl (.inr rfl)) _
  have hpv : v.ownBlock ≠ some p := fun e => by have := hvne p e; omega
  have hLv : v.ownBlock ≠ some L := fun e => by have := hvne L e; omega
  have hrow1 : w1.rowIs p 64 5 (bpf sos (ptr L) v cd ix) := kp1.row h.row hpv
  refine ⟨(hrow1.set 2 v').congr (fun i hi => ?_), h.ls.kept (fun k hk => kp2.block k (h.ls.lt k hk) ?_), h.st, h.new, ?_, ?_, h.kp.next kp2 ?_, hp, hL, h.pL⟩
  · match i, hi with
    | 0, _ => rfl
    | 1, _ => rfl
    | 2, _ => rfl
    | 3, _ => rfl
    | 4, _ => rfl
  · rcases List.mem_cons.1 hk with e | hk
    · subst e
      rintro (e | e)
      · exact hLv e
      · exact h.pL e.symm
    · rintro (e | e)
      · exact h.ap k e hk
      · have := h.new k hk; omega
  · have hg2 : Gw w1 w0.heap.size 69 2 v' (d.push x).size (fun i => prc (d.push x)[i]!) := by
      rw [Array.size_push]
      refine hg.congr (fun i hi => ?_)
      by_cases e : i = d.size
      · subst e
        rw [if_pos rfl, getElem!_pos (d.push x) d.size (by rw [Array.size_push]; omega), Array.getElem_push_eq]
      · have hi' : i < d.size := by omega
        rw [if_neg e, getElem!_pos (d.push x) i (by rw [Array.size_push]; omega), getElem!_pos d i hi', Array.getElem_push_lt hi']
    refine hg2.kept' (fun k hk => ?_)
    have hk2 := hg2.ge k hk
    exact Go.Deep.blk_setCell_other _ _ _ _ (by show k ≠ p; omega)
  · intro k hk hm
    rcases hat with e | e
    · exact h.ap k (by rw [← e]; exact hk) hm
    · rw [e] at hk
      simp only [Option.some.injEq] at hk
      have := h.ls.lt k (List.mem_cons_of_mem _ hm)
      omega
  · rintro k hk1 (e | e)
    · have := hvne k e; omega
    · exact .inl e

/-- The pairs, sorted. -/
theorem Lc.sorted (h : Lc w0 p L sos cd ix st es v d w) {q cap : Nat} (hv : v = rvp q d.size cap) {d' : Array (Nat × Nat)} (hs : d'.size = d.size) (hh : Hp w' w0.heap.size q cap d.size d') (hk : Kp (fun k => k = q) w w') :
    Lc w0 p L sos cd ix st es v d' w' := by
  have hp := h.hp
  have hL := h.hL
  have hq : w0.heap.size ≤ q := (h.gw.ge q (by rw [hv]; rfl)).1
  refine ⟨h.row.of_block (hk.block p h.row.lt (by omega)), h.ls.kept (fun k hm => hk.block k (h.ls.lt k hm) (fun e => ?_)), h.st, h.new, by rw [hs, hv]; exact hh.gw, h.ap, h.kp.next hk (fun k h1 e => by omega), hp, hL, h.pL⟩
  subst e
  rcases List.mem_cons.1 hm with e | hm
  · omega
  · exact h.ap k (by rw [hv]; rfl) hm

/-- The sort's own view of the pairs. -/
theorem Lc.view (h : Lc w0 p L sos cd ix st es v d w) : (v = .slice none 0 0 ∧ d.size = 0) ∨ ∃ q cap, v = rvp q d.size cap ∧ Hp w w0.heap.size q cap d.size d := by
  rcases h.gw.2 with ⟨h1, h2⟩ | ⟨q, cap, cur, h1, _⟩
  · exact .inl ⟨h1, h2⟩
  · exact .inr ⟨q, cap, h1, rfl, by rw [← h1]; exact h.gw⟩
end

section
variable {w0 w w' : World} {p L : Nat} {sos cd ix : Value}

set_option maxHeartbeats 1000000 in
set_option maxRecDepth 100000 in
/-- 'matchOpener'. -/
theorem matchOpener_any {ai : Option Addr} {bi oi n ci : Nat} {xi : Nat → Nat} {av : Option Addr} {bv ov N cv : Nat} {vl0 : Nat → Int} {f : Nat → Value} (w : World) (hr : w.rowIs p 64 5 f) (hf : f 4 = .slice ai n ci)
    (hx : Sees w ai bi oi n ci (fun i => .int .i64 ((xi i : Nat) : Int))) (hN : N ≤ 4294967296) (hxi : ∀ i, i < n → xi i < N) (hv : Sees w av bv ov N cv (fun j => .int .i32 (vl0 j))) (o i : Nat) (ho : o < n) (hi : i < n) (hn : n ≤ 4294967296) :
    Calls Tryd.prog 50 #[ptr p, .slice av N cv, .int .i64 o, .int .i64 i] w fun e w' => e = .returned (.bool (decide (vl0 (xi o) = vl0 (xi i)))) ∧ ∃ k, w' = w.drewN k := by
  have c4 : w.cell? ⟨p, 4, none⟩ = some (.slice ai n ci) := by rw [← hf]; exact hr.cell (by omega)
  obtain ⟨rfl, x1⟩ := hx.get ho
  obtain ⟨_, x2⟩ := hx.get hi
  obtain ⟨rfl, v1⟩ := hv.get (hxi o ho)
  obtain ⟨_, v2⟩ := hv.get (hxi i hi)
  have h1 := hxi o ho
  have h2 := hxi i hi
  have hoz : (o : Int) < (n : Int) := by omega
  have hiz : (i : Int) < (n : Int) := by omega
  obtain ⟨a, ha⟩ : ∃ a, a = xi o := ⟨_, rfl⟩
  obtain ⟨b, hb⟩ : ∃ b, b = xi i := ⟨_, rfl⟩
  rw [← ha] at x1 v1 h1 ⊢
  rw [← hb] at x2 v2 h2 ⊢
  have haz : (a : Int) < (N : Int) := by omega
  have hbz : (b : Int) < (N : Int) := by omega
  clear hr hx hxi hv hf ha hb
  go_enter Tryd.func50, Tryd.ntmps50
  go_wp2
  go_quiet (fail)
  go_wp2
  go_ret
  exact ⟨by by_cases e : vl0 a = vl0 b <;> simp [e], _, rfl⟩
end

/-! ### The machine's steps -/
section
variable {kd vl : Nat → Int} {nn : Nat → Bool} {k : Nat}
theorem bk_skip (h1 : (bk kd vl nn k).on = true) (h : kd k = 0 ∨ nn k = false) : bk kd vl nn (k + 1) = bk kd vl nn k := by
  show (bk kd vl nn k).step kd vl nn k = _
  unfold Bk.step
  rw [if_neg (by rw [h1]; decide), if_pos h]
theorem bk_full (h1 : (bk kd vl nn k).on = true) (h2 : kd k = 1) (h3 : nn k = true) (h4 : (bk kd vl nn k).st.length = 63) : bk kd vl nn (k + 1) = { bk kd vl nn k with st := [], on := false } := by
  show (bk kd vl nn k).step kd vl nn k = _
  unfold Bk.step
  rw [if_neg (by rw [h1]; decide), if_neg (by rw [h2, h3]; simp), if_pos h2, if_pos h4]
theorem bk_open (h1 : (bk kd vl nn k).on = true) (h2 : kd k = 1) (h3 : nn k = true) (h4 : (bk kd vl nn k).st.length ≠ 63) : bk kd vl nn (k + 1) = { bk kd vl nn k with st := k :: (bk kd vl nn k).st } := by
  show (bk kd vl nn k).step kd vl nn k = _
  unfold Bk.step
  rw [if_neg (by rw [h1]; decide), if_neg (by rw [h2, h3]; simp), if_pos h2, if_neg h4]
theorem bk_none (h1 : (bk kd vl nn k).on = true) (h2 : kd k = 2) (h3 : nn k = true) (h4 : ∀ j, j < (bk kd vl nn k).st.length → vl ((bk kd vl nn k).st.getD j 0) ≠ vl k) : bk kd vl nn (k + 1) = bk kd vl nn k := by
  show (bk kd vl nn k).step kd vl nn k = _
  have : (bk kd vl nn k).st.findIdx? (fun o => decide (vl o = vl k)) = none := by
    rw [List.findIdx?_eq_none_iff]
    intro o ho
    obtain ⟨j, hj, rfl⟩ := List.getElem_of_mem ho
    have := h4 j hj
    rw [List.getD_eq_getElem?_getD, List.getElem?_eq_getElem hj] at this
    simpa using this
  unfold Bk.step
  rw [if_neg (by rw [h1]; decide), if_neg (by rw [h2, h3]; simp), if_neg (by rw [h2]; decide), this]
theorem bk_close {c : Nat} (h1 : (bk kd vl nn k).on = true) (h2 : kd k = 2) (h3 : nn k = true) (hc : c < (bk kd vl nn k).st.length) (h4 : ∀ j, j < c → vl ((bk kd vl nn k).st.getD j 0) ≠ vl k) (h5 : vl ((bk kd vl nn k).st.getD c 0) = vl k) :
    bk kd vl nn (k + 1) = { bk kd vl nn k with st := (bk kd vl nn k).st.drop (c + 1), cl := fun j => if j = (bk kd vl nn k).st.getD c 0 then k else (bk kd vl nn k).cl j } := by
  show (bk kd vl nn k).step kd vl nn k = _
  have : (bk kd vl nn k).st.findIdx? (fun o => decide (vl o = vl k)) = some c := by
    rw [List.findIdx?_eq_some_iff_getElem]
    refine ⟨hc, ?_, fun j hj => ?_⟩
    · rw [List.getD_eq_getElem?_getD, List.getElem?_eq_getElem hc] at h5
      simpa using h5
    · have := h4 j hj
      rw [List.getD_eq_getElem?_getD, List.getElem?_eq_getElem (by omega)] at this
      simpa using this
  unfold Bk.step
  rw [if_neg (by rw [h1]; decide), if_neg (by rw [h2, h3]; simp), if_neg (by rw [h2]; decide), this]
end

theorem Chw.drop {w : World} {L : Nat} : ∀ {es : List (Nat × Nat)} (c : Nat), Chw w L es → Chw w L (es.drop c)
  | es, 0, h => by simpa using h
  | [], c + 1, h => by simpa using h
  | (b, v) :: r, c + 1, h => by rw [List.drop_succ_cons]; exact Chw.drop c h.2
end Go.Proofs.YtmaieenphcnefaaDoor
