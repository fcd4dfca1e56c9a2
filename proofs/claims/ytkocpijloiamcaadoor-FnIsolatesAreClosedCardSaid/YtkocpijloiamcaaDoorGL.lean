/- (*bracketPairer).locateBrackets: the pairs of BD16. -/
import Derived.Test.YtkocpijloiamcaaDoorLst
import Derived.Test.YtkocpijloiamcaaDoorGF
import Derived.Test.YtkocpijloiamcaaDoorSrt8
import Derived.Deep.DeepCutAuto
import Derived.Deep.CutBlock
import Derived.StillTailTactics
import Derived.Test.YtkocpijloiamcaaDoorGE
import Derived.Test.YtkocpijloiamcaaDoorGA
namespace Go.Proofs.YtkocpijloiamcaaDoor
set_option linter.unusedVariables false
set_option linter.unusedSimpArgs false
open Go.RowKit Go.Lib Go.Sort

/-- A bracketPairer's fields. -/
def bpf (sos op pp cd ix : Value) : Nat → Value | 0 => sos | 1 => op | 2 => pp | 3 => cd | _ => ix

theorem Kp.next {S T : Nat → Prop} {w0 w w' : World} (h : Kp S w0 w) (k : Kp T w w') (hT : ∀ i, i < w0.heap.size → T i → S i) : Kp S w0 w' :=
  ⟨k.os.trans h.os, k.tape.trans h.tape, k.output.trans h.output, Nat.le_trans h.size k.size, fun i hi hs => (k.block i (Nat.lt_of_lt_of_le hi h.size) (fun ht => hs (hT i hi ht))).trans (h.block i hi hs)⟩

/-- What stands in memory while the pairs are looked for. -/
structure Lc (w0 : World) (p L : Nat) (sos cd ix : Value) (st : List Nat) (es : List (Nat × Nat)) (v : Value) (d : Array (Nat × Nat)) (w : World) : Prop where
  row : w.rowIs p 117 5 (bpf sos (ptr L) v cd ix)
  ls : Ls w L es
  st : es.map Prod.snd = st
  new : ∀ k, k ∈ es.map Prod.fst → w0.heap.size ≤ k
  gw : Gw w w0.heap.size 132 2 v d.size (fun i => prc d[i]!)
  ap : ∀ k, v.ownBlock = some k → k ∉ es.map Prod.fst
  kp : Kp (fun k => k = p ∨ k = L) w0 w
  hp : p < w0.heap.size
  hL : L < w0.heap.size
  pL : p ≠ L

section
variable {w0 w w' : World} {p L : Nat} {sos cd ix : Value} {st : List Nat} {es : List (Nat × Nat)} {v : Value} {d : Array (Nat × Nat)}

theorem Lc.drewN (h : Lc w0 p L sos cd ix st es v d w) (k : Nat) : Lc w0 p L sos cd ix st es v d (w.drewN k) :=
  ⟨h.row, h.ls.kept (fun _ _ => rfl), h.st, h.new, h.gw.kept' (fun _ _ => rfl), h.ap, h.kp.drewN k, h.hp, h.hL, h.pL⟩

theorem Lc.len (h : Lc w0 p L sos cd ix st es v d w) : es.length = st.length := by rw [← h.st]; simp

/-- An opener is remembered. -/
theorem Lc.push (h : Lc w0 p L sos cd ix st es v d w) {b i : Nat} (hb : w.heap.size ≤ b) (hl : Ls w' L ((b, i) :: es)) (hk : Kp (fun k => k = L ∨ k ∈ es.map Prod.fst) w w') :
    Lc w0 p L sos cd ix (i :: st) ((b, i) :: es) v d w' := by
  have hw := h.kp.size
  have hp := h.hp
  have hL := h.hL
  refine ⟨h.row.of_block (hk.block p h.row.lt ?_), hl, by rw [List.map_cons, h.st], ?_, h.gw.kept' (fun k hv => hk.block k (h.gw.ge k hv).2 ?_), fun k hv hm => ?_, h.kp.next hk ?_, hp, hL, h.pL⟩
  · rintro (e | e)
    · exact h.pL e
    · have := h.new p e; omega
  · intro k hm
    rcases List.mem_cons.1 hm with e | hm
    · have e2 : k = b := e
      omega
    · exact h.new k hm
  · have h1 := (h.gw.ge k hv).1
    rintro (e | e)
    · omega
    · exact h.ap k hv e
  · have h1 := (h.gw.ge k hv).2
    rcases List.mem_cons.1 hm with e | hm
    · have e2 : k = b := e
      omega
    · exact h.ap k hv hm
  · rintro k hk1 (e | e)
    · exact .inr e
    · have := h.new k e; omega

/-- The latest opener is forgotten. -/
theorem Lc.pop {b u : Nat} (h : Lc w0 p L sos cd ix st ((b, u) :: es) v d w) (hl : Ls w' L es) (hk : Kp (fun k => k = L ∨ k ∈ ((b, u) :: es).map Prod.fst) w w') :
    Lc w0 p L sos cd ix (st.drop 1) es v d w' := by
  have hp := h.hp
  have hL := h.hL
  refine ⟨h.row.of_block (hk.block p h.row.lt ?_), hl, by rw [← h.st]; rfl, fun k hm => h.new k (List.mem_cons_of_mem _ hm), h.gw.kept' (fun k hv => hk.block k (h.gw.ge k hv).2 ?_), fun k hv hm => h.ap k hv (List.mem_cons_of_mem _ hm), h.kp.next hk ?_, hp, hL, h.pL⟩
  · rintro (e | e)
    · exact h.pL e
    · have := h.new p e; omega
  · have h1 := (h.gw.ge k hv).1
    rintro (e | e)
    · omega
    · exact h.ap k hv e
  · rintro k hk1 (e | e)
    · exact .inr e
    · have := h.new k e; omega

/-- All openers are forgotten. -/
theorem Lc.clear (h : Lc w0 p L sos cd ix st es v d w) (hl : Ls w' L []) (hk : Kp (fun k => k = L) w w') : Lc w0 p L sos cd ix [] [] v d w' := by
  have hp := h.hp
  have hL := h.hL
  refine ⟨h.row.of_block (hk.block p h.row.lt h.pL), hl, rfl, fun k hm => absurd hm (by simp), h.gw.kept' (fun k hv => hk.block k (h.gw.ge k hv).2 ?_), fun k hv hm => absurd hm (by simp), h.kp.next hk (fun k _ e => .inr e), hp, hL, h.pL⟩
  have h1 := (h.gw.ge k hv).1
  omega

/-- A pair more. -/
theorem Lc.pair (h : Lc w0 p L sos cd ix st es v d w) {w1 : World} {v' : Value} {x : Nat × Nat} {o : Obj}
    (hg : Gw w1 w0.heap.size 132 2 v' (d.size + 1) (fun i => if i = d.size then prc x else prc d[i]!)) (hgr : (w.alloc o).grownBy w1 v.ownBlock) (hat : v'.ownBlock = v.ownBlock ∨ v'.ownBlock = some (w.heap.size + 1)) :
    Lc w0 p L sos cd ix st es v' (d.push x) (w1.setCell ⟨p, 2, none⟩ v') := by
  have hp := h.hp
  have hL := h.hL
  have hw := h.kp.size
  have hz : (w.alloc o).heap.size = w.heap.size + 1 := by rw [World.size_alloc]
  have hvne : ∀ k, v.ownBlock = some k → w0.heap.size ≤ k := fun k hv => (h.gw.ge k hv).1
  have kp1 : Kp (fun k => v.ownBlock = some k) w w1 := ((Kp.refl _ _).alloc o).grown hgr (fun k hk => .inl hk)
  have kp2 : Kp (fun k => v.ownBlock = some k ∨ k = p) w (w1.setCell ⟨p, 2, none⟩ v') := (kp1.mono (fun k _ hk => .inl hk)).setCell (a := ⟨p, 2, none⟩) (.inl (.inr rfl)) _
  have hpv : v.ownBlock ≠ some p := fun e => by have := hvne p e; omega
  have hLv : v.ownBlock ≠ some L := fun e => by have := hvne L e; omega
  have hrow1 : w1.rowIs p 117 5 (bpf sos (ptr L) v cd ix) := kp1.row h.row hpv
  refine ⟨(hrow1.set 2 v').congr (fun i hi => ?_), h.ls.kept (fun k hk => kp2.block k (h.ls.lt k hk) ?_), h.st, h.new, ?_, ?_, h.kp.next kp2 ?_, hp, hL, h.pL⟩
  · match i, hi with
    | 0, _ => rfl
    | 1, _ => rfl
    | 2, _ => rfl
    | 3, _ => rfl
    | 4, _ => rfl
  · rcases List.mem_cons.1 hk with e | hk
    · subst e
      rintro (e | e)
      · exact hLv e
      · exact h.pL e.symm
    · rintro (e | e)
      · exact h.ap k e hk
      · have := h.new k hk; omega
  · have hg2 : Gw w1 w0.heap.size 132 2 v' (d.push x).size (fun i => prc (d.push x)[i]!) := by
      rw [Array.size_push]
      refine hg.congr (fun i hi => ?_)
      by_cases e : i = d.size
      · subst e
        rw [if_pos rfl, getElem!_pos (d.push x) d.size (by rw [Array.size_push]; omega), Array.getElem_push_eq]
      · have hi' : i < d.size := by omega
        rw [if_neg e, getElem!_pos (d.push x) i (by rw [Array.size_push]; omega), getElem!_pos d i hi', Array.getElem_push_lt hi']
    refine hg2.kept' (fun k hk => ?_)
    have hk2 := hg2.ge k hk
    exact Go.Deep.blk_setCell_other _ _ _ _ (by show k ≠ p; omega)
  · intro k hk hm
    rcases hat with e | e
    · exact h.ap k (by rw [← e]; exact hk) hm
    · rw [e] at hk
      simp only [Option.some.injEq] at hk
      have := h.ls.lt k (List.mem_cons_of_mem _ hm)
      omega
  · rintro k hk1 (e | e)
    · have := hvne k e; omega
    · exact .inl e

/-- The pairs, sorted. -/
theorem Lc.sorted (h : Lc w0 p L sos cd ix st es v d w) {q cap : Nat} (hv : v = rvp q d.size cap) {d' : Array (Nat × Nat)} (hs : d'.size = d.size) (hh : Hp w' w0.heap.size q cap d.size d') (hk : Kp (fun k => k = q) w w') :
    Lc w0 p L sos cd ix st es v d' w' := by
  have hp := h.hp
  have hL := h.hL
  have hq : w0.heap.size ≤ q := (h.gw.ge q (by rw [hv]; rfl)).1
  refine ⟨h.row.of_block (hk.block p h.row.lt (by omega)), h.ls.kept (fun k hm => hk.block k (h.ls.lt k hm) (fun e => ?_)), h.st, h.new, by rw [hs, hv]; exact hh.gw, h.ap, h.kp.next hk (fun k h1 e => by omega), hp, hL, h.pL⟩
  subst e
  rcases List.mem_cons.1 hm with e | hm
  · omega
  · exact h.ap k (by rw [hv]; rfl) hm

/-- The sort's own view of the pairs. -/
theorem Lc.view (h : Lc w0 p L sos cd ix st es v d w) : (v = .slice none 0 0 ∧ d.size = 0) ∨ ∃ q cap, v = rvp q d.size cap ∧ Hp w w0.heap.size q cap d.size d := by
  rcases h.gw.2 with ⟨h1, h2⟩ | ⟨q, cap, cur, h1, _⟩
  · exact .inl ⟨h1, h2⟩
  · exact .inr ⟨q, cap, h1, rfl, by rw [← h1]; exact h.gw⟩
end

section
variable {w0 w w' : World} {p L : Nat} {sos cd ix : Value}

set_option maxHeartbeats 1000000 in
set_option maxRecDepth 100000 in
/-- 'matchOpener'. -/
theorem matchOpener_any {ai : Option Addr} {bi oi n ci : Nat} {xi : Nat → Nat} {av : Option Addr} {bv ov N cv : Nat} {vl0 : Nat → Int} {f : Nat → Value} (w : World) (hr : w.rowIs p 117 5 f) (hf : f 4 = .slice ai n ci)
    (hx : Sees w ai bi oi n ci (fun i => .int .i64 ((xi i : Nat) : Int))) (hN : N ≤ 8589934592) (hxi : ∀ i, i < n → xi i < N) (hv : Sees w av bv ov N cv (fun j => .int .i32 (vl0 j))) (o i : Nat) (ho : o < n) (hi : i < n) (hn : n ≤ 4294967296) :
    Calls Tryd.prog 92 #[ptr p, .slice av N cv, .int .i64 o, .int .i64 i] w fun e w' => e = .returned (.bool (decide (vl0 (xi o) = vl0 (xi i)))) ∧ ∃ k, w' = w.drewN k := by
  have c4 : w.cell? ⟨p, 4, none⟩ = some (.slice ai n ci) := by rw [← hf]; exact hr.cell (by omega)
  obtain ⟨rfl, x1⟩ := hx.get ho
  obtain ⟨_, x2⟩ := hx.get hi
  obtain ⟨rfl, v1⟩ := hv.get (hxi o ho)
  obtain ⟨_, v2⟩ := hv.get (hxi i hi)
  have h1 := hxi o ho
  have h2 := hxi i hi
  have hoz : (o : Int) < (n : Int) := by omega
  have hiz : (i : Int) < (n : Int) := by omega
  obtain ⟨a, ha⟩ : ∃ a, a = xi o := ⟨_, rfl⟩
  obtain ⟨b, hb⟩ : ∃ b, b = xi i := ⟨_, rfl⟩
  rw [← ha] at x1 v1 h1 ⊢
  rw [← hb] at x2 v2 h2 ⊢
  have haz : (a : Int) < (N : Int) := by omega
  have hbz : (b : Int) < (N : Int) := by omega
  clear hr hx hxi hv hf ha hb
  go_enter Tryd.func92, Tryd.ntmps92
  go_wp2
  go_quiet (fail)
  go_wp2
  go_ret
  exact ⟨by by_cases e : vl0 a = vl0 b <;> simp [e], _, rfl⟩
end

/-! ### The machine's steps -/
section
variable {kd vl : Nat → Int} {nn : Nat → Bool} {k : Nat}
theorem bk_skip (h1 : (bk kd vl nn k).on = true) (h : kd k = 0 ∨ nn k = false) : bk kd vl nn (k + 1) = bk kd vl nn k := by
  show (bk kd vl nn k).step kd vl nn k = _
  unfold Bk.step
  rw [if_neg (by rw [h1]; decide), if_pos h]
theorem bk_full (h1 : (bk kd vl nn k).on = true) (h2 : kd k = 1) (h3 : nn k = true) (h4 : (bk kd vl nn k).st.length = 63) : bk kd vl nn (k + 1) = { bk kd vl nn k with st := [], on := false } := by
  show (bk kd vl nn k).step kd vl nn k = _
  unfold Bk.step
  rw [if_neg (by rw [h1]; decide), if_neg (by rw [h2, h3]; simp), if_pos h2, if_pos h4]
theorem bk_open (h1 : (bk kd vl nn k).on = true) (h2 : kd k = 1) (h3 : nn k = true) (h4 : (bk kd vl nn k).st.length ≠ 63) : bk kd vl nn (k + 1) = { bk kd vl nn k with st := k :: (bk kd vl nn k).st } := by
  show (bk kd vl nn k).step kd vl nn k = _
  unfold Bk.step
  rw [if_neg (by rw [h1]; decide), if_neg (by rw [h2, h3]; simp), if_pos h2, if_neg h4]
theorem bk_none (h1 : (bk kd vl nn k).on = true) (h2 : kd k = 2) (h3 : nn k = true) (h4 : ∀ j, j < (bk kd vl nn k).st.length → vl ((bk kd vl nn k).st.getD j 0) ≠ vl k) : bk kd vl nn (k + 1) = bk kd vl nn k := by
  show (bk kd vl nn k).step kd vl nn k = _
  have : (bk kd vl nn k).st.findIdx? (fun o => decide (vl o = vl k)) = none := by
    rw [List.findIdx?_eq_none_iff]
    intro o ho
    obtain ⟨j, hj, rfl⟩ := List.getElem_of_mem ho
    have := h4 j hj
    rw [List.getD_eq_getElem?_getD, List.getElem?_eq_getElem hj] at this
    simpa using this
  unfold Bk.step
  rw [if_neg (by rw [h1]; decide), if_neg (by rw [h2, h3]; simp), if_neg (by rw [h2]; decide), this]
theorem bk_close {c : Nat} (h1 : (bk kd vl nn k).on = true) (h2 : kd k = 2) (h3 : nn k = true) (hc : c < (bk kd vl nn k).st.length) (h4 : ∀ j, j < c → vl ((bk kd vl nn k).st.getD j 0) ≠ vl k) (h5 : vl ((bk kd vl nn k).st.getD c 0) = vl k) :
    bk kd vl nn (k + 1) = { bk kd vl nn k with st := (bk kd vl nn k).st.drop (c + 1), cl := fun j => if j = (bk kd vl nn k).st.getD c 0 then k else (bk kd vl nn k).cl j } := by
  show (bk kd vl nn k).step kd vl nn k = _
  have : (bk kd vl nn k).st.findIdx? (fun o => decide (vl o = vl k)) = some c := by
    rw [List.findIdx?_eq_some_iff_getElem]
    refine ⟨hc, ?_, fun j hj => ?_⟩
    · rw [List.getD_eq_getElem?_getD, List.getElem?_eq_getElem hc] at h5
      simpa using h5
    · have := h4 j hj
      rw [List.getD_eq_getElem?_getD, List.getElem?_eq_getElem (by omega)] at this
      simpa using this
  unfold Bk.step
  rw [if_neg (by rw [h1]; decide), if_neg (by rw [h2, h3]; simp), if_neg (by rw [h2]; decide), this]
end

theorem Chw.drop {w : World} {L : Nat} : ∀ {es : List (Nat × Nat)} (c : Nat), Chw w L es → Chw w L (es.drop c)
  | es, 0, h => by simpa using h
  | [], c + 1, h => by simpa using h
  | (b, v) :: r, c + 1, h => by rw [List.drop_succ_cons]; exact Chw.drop c h.2
end Go.Proofs.YtkocpijloiamcaaDoor

/- (*bracketPairer).locateBrackets: the walk. -/
namespace Go.Proofs.YtkocpijloiamcaaDoor
set_option linter.unusedVariables false
set_option linter.unusedSimpArgs false
open Go.RowKit Go.Lib Go.Sort

theorem Ls.drewN {w : World} {L : Nat} {es : List (Nat × Nat)} (h : Ls w L es) (k : Nat) : Ls (w.drewN k) L es := h.kept (fun _ _ => rfl)

theorem assertInt (u : Nat) (w : World) : (Instr.typeAssert (opn u) 20 3 false).run Tryd.prog w = .ok (.int .i64 ((u : Nat) : Int)) w := by
  have h : Tryd.prog.underlying 3 = some (.int .i64) := by kernel_rfl
  simp [Instr.typeAssert, run_underlying h]

theorem und_bp : Tryd.prog.underlying 115 = some (.slice 132) := by kernel_rfl
theorem info_bp : (Tryd.prog.info? 132).map (fun i => (i.zero, i.size, i.bytes)) = some (some (.agg #[.int .i64 0, .int .i64 0]), 2, 16) := by kernel_rfl

/-- The row of the search behind an append. -/
theorem Lc.row4 {w0 w w1 : World} {p L : Nat} {sos cd ix : Value} {st : List Nat} {es : List (Nat × Nat)} {v : Value} {d : Array (Nat × Nat)} (h : Lc w0 p L sos cd ix st es v d w) {o : Obj} (hgr : (w.alloc o).grownBy w1 v.ownBlock) :
    w1.rowIs p 117 5 (bpf sos (ptr L) v cd ix) := by
  have hp := h.hp
  have kp1 : Kp (fun k => v.ownBlock = some k) w w1 := ((Kp.refl _ _).alloc o).grown hgr (fun k hk => .inl hk)
  exact kp1.row h.row (fun e => by have := (h.gw.ge p e).1; omega)

theorem bk_len {kd vl : Nat → Int} {nn : Nat → Bool} : ∀ k, (bk kd vl nn k).st.length ≤ k
  | 0 => Nat.le_refl _
  | k + 1 => by
    have ih := bk_len (kd := kd) (vl := vl) (nn := nn) k
    show ((bk kd vl nn k).step kd vl nn k).st.length ≤ k + 1
    unfold Bk.step
    split
    · omega
    split
    · omega
    split
    · split
      · exact Nat.zero_le _
      · show (k :: (bk kd vl nn k).st).length ≤ k + 1
        rw [List.length_cons]; omega
    · split
      · omega
      · show ((bk kd vl nn k).st.drop _).length ≤ k + 1
        rw [List.length_drop]; omega

set_option maxHeartbeats 16000000 in
set_option maxRecDepth 100000 in
theorem locate_any {p L : Nat} {sos : Value} {ai ac at_ av : Option Addr} {bi oi ci bc oc cc bt ot ct bv ov cv n N : Nat} {xi : Nat → Nat} {c kd0 vl0 : Nat → Int} (w : World)
    (hrow : w.rowIs p 117 5 (bpf sos (ptr L) (.slice none 0 0) (.slice ac n cc) (.slice ai n ci))) (hL : Ls w L []) (hpL : p ≠ L)
    (hx : Sees w ai bi oi n ci (fun i => .int .i64 ((xi i : Nat) : Int))) (hxb : 0 < n → bi ≠ p ∧ bi ≠ L)
    (hc : Sees w ac bc oc n cc (fun i => .int .u64 (c i))) (hcb : 0 < n → bc ≠ p ∧ bc ≠ L)
    (hk : Sees w at_ bt ot N ct (fun j => .int .u8 (kd0 j))) (hkb : 0 < N → bt ≠ p ∧ bt ≠ L)
    (hv : Sees w av bv ov N cv (fun j => .int .i32 (vl0 j))) (hvb : 0 < N → bv ≠ p ∧ bv ≠ L)
    (hxi : ∀ i, i < n → xi i < N) (hn : n ≤ 8589934592) (hnb : n ≤ 2147483647 ∨ ∀ j, j < N → kd0 j = 0) (hN : N ≤ 8589934592) (hkd : ∀ j, j < N → kd0 j = 0 ∨ kd0 j = 1 ∨ kd0 j = 2) :
    Calls Tryd.prog 83 #[ptr p, .slice at_ N ct, .slice av N cv] w fun e w' => e = .returned (.tuple #[]) ∧
      ∃ (v : Value) (d : Array (Nat × Nat)), w'.rowIs p 117 5 (bpf sos (ptr L) v (.slice ac n cc) (.slice ai n ci)) ∧ Gw w' w.heap.size 132 2 v d.size (fun i => prc d[i]!) ∧
        d.toList = prs (bk (fun i => kd0 (xi i)) (fun i => vl0 (xi i)) (fun i => decide (c i = 10)) n).cl n ∧ Kp (fun k => k = p ∨ k = L) w w' := by
  obtain ⟨kd, hkdd⟩ : ∃ kd : Nat → Int, kd = fun i => kd0 (xi i) := ⟨_, rfl⟩
  obtain ⟨vl, hvld⟩ : ∃ vl : Nat → Int, vl = fun i => vl0 (xi i) := ⟨_, rfl⟩
  obtain ⟨nn, hnnd⟩ : ∃ nn : Nat → Bool, nn = fun i => decide (c i = 10) := ⟨_, rfl⟩
  rw [← hkdd, ← hvld, ← hnnd]
  have HKD := hid hkdd
  have HVL := hid hvld
  have HNN := hid hnnd
  have hp := hrow.lt
  have hLlt := hL.lt L List.mem_cons_self
  obtain ⟨cd, hcd⟩ : ∃ cd, cd = Value.slice ac n cc := ⟨_, rfl⟩
  obtain ⟨ix, hix⟩ : ∃ ix, ix = Value.slice ai n ci := ⟨_, rfl⟩
  have h0 : Lc w p L sos cd ix [] [] (.slice none 0 0) #[] w := ⟨by rw [hcd, hix]; exact hrow, hL, rfl, fun k h => absurd h (by simp), Gw.nil _ _ _ _ _, fun k h => by simp [Value.ownBlock] at h, Kp.refl _ _, hp, hLlt, hpL⟩
  have c4 : w.cell? ⟨p, 4, none⟩ = some (.slice ai n ci) := hrow.cell (by omega)
  have HCD := hid hcd
  have HIX := hid hix
  have SX := hid (fun (wx : World) (h : Kp (fun k => k = p ∨ k = L) w wx) => h.sees hx (fun h0 e => by rcases e with e | e; exact (hxb h0).1 e; exact (hxb h0).2 e))
  have SC := hid (fun (wx : World) (h : Kp (fun k => k = p ∨ k = L) w wx) => h.sees hc (fun h0 e => by rcases e with e | e; exact (hcb h0).1 e; exact (hcb h0).2 e))
  have SK := hid (fun (wx : World) (h : Kp (fun k => k = p ∨ k = L) w wx) => h.sees hk (fun h0 e => by rcases e with e | e; exact (hkb h0).1 e; exact (hkb h0).2 e))
  have SV := hid (fun (wx : World) (h : Kp (fun k => k = p ∨ k = L) w wx) => h.sees hv (fun h0 e => by rcases e with e | e; exact (hvb h0).1 e; exact (hvb h0).2 e))
  have H0 := hid h0
  have HXI := hid hxi
  have HKB := hid hkd
  have HBN := hid hnb
  clear hx hc hk hv hxb hcb hkb hvb hrow hL h0 hcd hix hkdd hvld hnnd hxi hkd hnb
  go_enter Tryd.func83, Tryd.ntmps83
  go_wp2_with fail
  go_loopg [16] n (fun g i wr => ∃ (k : Nat) (es : List (Nat × Nat)) (v : Value) (d : Array (Nat × Nat)), k ≤ n ∧ g = n - k ∧ i = .int .i64 k ∧ Hid (Lc w p L sos cd ix (bk kd vl nn k).st es v d wr) ∧ Hid (d.toList = prs (bk kd vl nn k).cl n) ∧ Hid ((bk kd vl nn k).on = true))
  case atStart => exact ⟨0, [], .slice none 0 0, #[], Nat.zero_le _, rfl, rfl, H0, (by show ([] : List (Nat × Nat)) = _; unfold prs; symm; rw [List.filterMap_eq_nil_iff]; intro a _; rfl), rfl⟩
  case round =>
    clear H0
    obtain ⟨k, es, v, d, hk, rfl, rfl, HL, HD, HO⟩ := hrel
    by_cases hkn : k < n
    · have hkz : (k : Int) < (n : Int) := by omega
      obtain ⟨hai, x1⟩ := (SX.out wr HL.out.kp).get hkn
      obtain ⟨hac, x2⟩ := (SC.out wr HL.out.kp).get hkn
      have hxn := HXI.out k hkn
      obtain ⟨hat, x3⟩ := (SK.out wr HL.out.kp).get hxn
      have c3 : wr.cell? ⟨p, 3, none⟩ = some (.slice ac n cc) := by rw [← HCD.out]; exact HL.out.row.cell (by omega)
      have c1 : wr.cell? ⟨p, 1, none⟩ = some (ptr L) := HL.out.row.cell (by omega)
      subst hai; subst hac; subst hat
      obtain ⟨X, hX⟩ : ∃ X, X = xi k := ⟨_, rfl⟩
      obtain ⟨K0, hK0⟩ : ∃ K0, K0 = kd0 X := ⟨_, rfl⟩
      obtain ⟨C0, hC0⟩ : ∃ C0, C0 = c k := ⟨_, rfl⟩
      rw [← hX] at x1 x3 hxn
      rw [← hK0] at x3
      rw [← hC0] at x2
      have hXz : (X : Int) < (N : Int) := by omega
      have hkb := HKB.out X hxn
      have HKk : Hid (kd k = K0) := by rw [HKD.out, hK0, hX]; exact rfl
      have HNk : Hid (nn k = decide (C0 = 10)) := by rw [HNN.out, hC0]; exact rfl
      rw [← hK0] at hkb
      have HN2 : Hid (K0 = 0 ∨ n ≤ 2147483647) := by
        rcases HBN.out with h | h
        · exact .inr h
        · exact .inl (by rw [hK0]; exact h X hxn)
      clear hX hK0 hC0
      have SKIP : Hid (K0 = 0 ∨ ¬ C0 = 10 → bk kd vl nn (k + 1) = bk kd vl nn k) := fun h => bk_skip HO.out (by
        rcases h with h | h
        · exact .inl (HKk.out.trans h)
        · exact .inr (by rw [HNk.out]; exact decide_eq_false h))
      by_cases hC : C0 = 10
      case neg =>
        have hS := SKIP.out (.inr hC)
        have HS := hid hS
        clear hS
        rcases hkb with hk0 | hk0 | hk0 <;> subst hk0 <;>
          (go_wp2_with fail
           go_roundg (n - (k + 1))
           case rel => exact ⟨k + 1, es, v, d, by omega, rfl, by go_num, by rw [HS.out]; exact HL, by rw [HS.out]; exact HD, by rw [HS.out]; exact HO⟩
           case measure => omega)
      subst hC
      have HNt : Hid (nn k = true) := HNk.out.trans (by decide)
      rcases hkb with hk0 | hk0 | hk0
      · subst hk0
        have hS := SKIP.out (.inl rfl)
        have HS := hid hS
        clear hS
        go_wp2_with fail
        go_roundg (n - (k + 1))
        case rel => exact ⟨k + 1, es, v, d, by omega, rfl, by go_num, by rw [HS.out]; exact HL, by rw [HS.out]; exact HD, by rw [HS.out]; exact HO⟩
        case measure => omega
      · -- an opening bracket
        subst hk0
        have hn2 : n ≤ 2147483647 := HN2.out.resolve_left (by decide)
        have hsl : es.length ≤ k := by
          rw [HL.out.len]; exact bk_len k
        by_cases h63 : es.length = 63
        · have hF := bk_full HO.out HKk.out HNt.out (by rw [← HL.out.len]; exact h63)
          have HF := hid hF
          have h63z : ((es.length : Nat) : Int) = 63 := by omega
          clear hF
          obtain ⟨pv, hrt⟩ := HL.out.ls.root
          have HIN := hid (init_any wr hrt rfl rfl)
          clear hrt
          go_wp2_with (first
            | (go_at_call 88; refine (listLen_any _ HL.out.ls).mono ?_; rintro e w1 ⟨rfl, rfl⟩)
            | (go_at_call 87; refine HIN.out.mono ?_; rintro e w1 ⟨rfl, h1, h2⟩))
          (try simp only [Exit.inBlock, Exit.then]); refine bodyPost_ret (results_none rfl _ _ _) rfl ?_
          have hcl := HL.out.clear h1 h2
          refine ⟨rfl, v, d, by rw [← HCD.out, ← HIX.out]; exact hcl.row, hcl.gw, ?_, hcl.kp⟩
          have hoff := bk_off (k := k + 1) (kd := kd) (vl := vl) (nn := nn) (by rw [HF.out]) (n - (k + 1))
          rw [show k + 1 + (n - (k + 1)) = n by omega] at hoff
          rw [hoff, HF.out]
          exact HD.out
        · have hF := bk_open HO.out HKk.out HNt.out (by rw [← HL.out.len]; exact h63)
          have HF := hid hF
          have h63z : ¬ ((es.length : Nat) : Int) = 63 := by omega
          clear hF
          go_wp2_with (first
            | (go_at_call 88; refine (listLen_any _ HL.out.ls).mono ?_; rintro e w1 ⟨rfl, rfl⟩)
            | (go_at_call 89; refine (pushFront_any (v := k) _ HL.out.ls (by omega)).mono ?_; rintro e w1 ⟨b, rfl, h0, h1, h2⟩))
          go_roundg (n - (k + 1))
          case rel => exact ⟨k + 1, (b, k) :: es, v, d, by omega, rfl, by go_num, by rw [HF.out]; exact HL.out.push h0 h1 h2, by rw [HF.out]; exact HD, by rw [HF.out]; exact HO⟩
          case measure => omega
      · -- a closing bracket
        subst hk0
        have hn2 : n ≤ 2147483647 := HN2.out.resolve_left (by decide)
        have hsl : es.length ≤ k := by
          rw [HL.out.len]; exact bk_len k
        have hst : ∀ j, j < es.length → (bk kd vl nn k).st.getD j 0 = (es.getD j (0, 0)).2 := fun j hj => by
          rw [← HL.out.st, List.getD_eq_getElem?_getD, List.getD_eq_getElem?_getD, List.getElem?_map, List.getElem?_eq_getElem hj]; rfl
        have HST := hid hst
        clear hst
        go_upto_block 3 with (go_at_call 90; refine (front_any _ HL.out.ls (by omega)).mono ?_; rintro e w1 ⟨rfl, rfl⟩)
        go_cut [] (fun wx => ∃ (es' : List (Nat × Nat)) (v' : Value) (d' : Array (Nat × Nat)), Hid (Lc w p L sos cd ix (bk kd vl nn (k + 1)).st es' v' d' wx) ∧ Hid (d'.toList.Perm (prs (bk kd vl nn (k + 1)).cl n)) ∧ d'.size ≤ n ∧ Hid ((bk kd vl nn (k + 1)).on = true))
        case first =>
          have hcl0 : ∀ u, u ∈ (bk kd vl nn k).st → u < k := (bk_ok (kd := kd) (vl := vl) (nn := nn) k).lt
          have hcl1 : ∀ u, u ∈ (bk kd vl nn k).st → (bk kd vl nn k).cl u = 0 := fun u hu => ((bk_ok (kd := kd) (vl := vl) (nn := nn) k).op u hu).1
          have HC0 := hid hcl0
          have HC1 := hid hcl1
          have hds : d.size ≤ n := by
            have h1 := prs_len (cl := (bk kd vl nn k).cl) (n := n)
            rw [← HD.out] at h1
            simpa using h1
          clear hcl0 hcl1 x1 x2 x3 c3 c1
          go_wp2_with fail
          go_loopg [8, 9, 10] (es.length + 1) (fun g s8 s9 _ wr2 => ∃ c : Nat, c ≤ es.length ∧ es.length + 1 - c ≤ g ∧ s8 = .int .i64 c ∧ s9 = fptr L (es.drop c) ∧ Hid (Lc w p L sos cd ix (bk kd vl nn k).st es v d wr2) ∧ Hid (∀ j, j < c → vl ((bk kd vl nn k).st.getD j 0) ≠ vl k))
          case atStart => exact ⟨0, Nat.zero_le _, Nat.le_refl _, rfl, rfl, HL, fun j hj => absurd hj (Nat.not_lt_zero _)⟩
          case round =>
            clear HL
            rename World => wq
            obtain ⟨c, hc, hg, rfl, rfl, HL, HNE⟩ := hrel
            cases hdr : es.drop c with
            | nil =>
              have hce : c = es.length := by
                have := List.drop_eq_nil_iff.1 hdr
                omega
              have HNN2 := hid (show bk kd vl nn (k + 1) = bk kd vl nn k from bk_none HO.out HKk.out HNt.out (fun j hj => HNE.out j (by rw [hce, HL.out.len]; exact hj)))
              clear hce hdr
              rw [fptr_nil]
              go_wp2_with fail
              go_meet
              exact ⟨es, v, d, by rw [HNN2.out]; exact HL, by rw [HNN2.out]; show List.Perm _ _; rw [HD.out], hds, by rw [HNN2.out]; exact HO⟩
            | cons a r =>
              obtain ⟨b, u⟩ := a
              have hclt : c < es.length := by
                apply Classical.byContradiction
                intro h
                rw [List.drop_eq_nil_iff.2 (by omega)] at hdr; cases hdr
              have hget : es.getD c (0, 0) = (b, u) := by
                have h1 : es[c]? = some (b, u) := by
                  have := congrArg (fun l => l[0]?) hdr
                  simpa using this
                rw [List.getD_eq_getElem?_getD, h1]; rfl
              have hu : (bk kd vl nn k).st.getD c 0 = u := by rw [HST.out c hclt, hget]
              have hum : u ∈ (bk kd vl nn k).st := by rw [← hu]; exact mem_getD (by rw [← HL.out.len]; exact hclt)
              have huk := HC0.out u hum
              have hu0 := HC1.out u hum
              have hch := HL.out.ls.ch.drop c
              rw [hdr] at hch
              obtain ⟨⟨pv, hbr⟩, hchr⟩ := hch
              have b3 : wq.cell? ⟨b, 3, none⟩ = some (opn u) := hbr.cell (by omega)
              have c1 : wq.cell? ⟨p, 1, none⟩ = some (ptr L) := HL.out.row.cell (by omega)
              have HBR := hid hbr
              have HCHR := hid hchr
              have HU := hid hu
              have HU0 := hid hu0
              have HDR := hid hdr
              have hmo := matchOpener_any (f := bpf sos (ptr L) v cd ix) wq HL.out.row (by rw [HIX.out]; exact rfl) (SX.out wq HL.out.kp) hN HXI.out (SV.out wq HL.out.kp) u k (by omega) hkn (by omega)
              rw [show decide (vl0 (xi u) = vl0 (xi k)) = decide (vl u = vl k) by rw [HVL.out]] at hmo
              clear hget hu hum hu0 hbr hchr hdr
              rw [fptr_cons]
              by_cases hm : vl u = vl k
              · -- the pair
                rw [decide_eq_true hm] at hmo
                have HM := hid hm
                have hAs := assertInt u
                have hB := bk_close HO.out HKk.out HNt.out (by rw [← HL.out.len]; exact hclt) HNE.out (by rw [HU.out]; exact hm)
                rw [HU.out] at hB
                have HBk := hid hB
                clear hm hB
                go_wp2_with fail
                refine hmo.mono ?_
                rintro e w3 ⟨rfl, m, hw3⟩
                have HL3 : Hid (Lc w p L sos cd ix (bk kd vl nn k).st es v d w3) := by rw [hw3]; exact HL.out.drewN m
                have c2 : w3.cell? ⟨p, 2, none⟩ = some v := HL3.out.row.cell (by omega)
                have hws : w.heap.size ≤ w3.heap.size := HL3.out.kp.size
                clear hw3 HL hmo b3 c1 HBR HCHR
                go_wp2_with (at_builtin; go_must (refine wpList_pushW w3 rfl _ _ 115 rfl w.heap.size 132 (.agg #[.int .i64 0, .int .i64 0]) 2 16 und_bp info_bp rfl (by omega) v d.size (fun i => prc d[i]!) (prc (u, k)) (by rfl) HL3.out.gw (by rfl) rfl (fun x hx => by simp [prc] at hx; rcases hx with rfl | rfl <;> rfl) (by omega) (by omega) hws ?_))
                intro v' w4 hg4 hgr hat
                obtain ⟨qb, cpb, hv', _, _⟩ := hg4.form (by omega)
                subst hv'
                have hrow4 := HL3.out.row4 hgr
                have g2 : w4.cell? ⟨p, 2, none⟩ = some v := hrow4.cell (by omega)
                have g2f := hrow4.frozen 2
                have HL4 := hid (HL3.out.pair hg4 hgr hat)
                clear hrow4 hg4 hgr hat c2 HL3 hws
                go_wp2_with fail
                go_loopg [8] (c + 1) (fun g s8 wr3 => ∃ t : Nat, t ≤ c + 1 ∧ g = c + 1 - t ∧ s8 = .int .i64 ((c : Int) + 1 - t) ∧ Hid (Lc w p L sos cd ix ((bk kd vl nn k).st.drop t) (es.drop t) (rvp qb (d.size + 1) cpb) (d.push (u, k)) wr3))
                case atStart => exact ⟨0, Nat.zero_le _, rfl, by simp, HL4⟩
                case round =>
                  rename World => wz
                  clear HL4 g2 g2f
                  obtain ⟨t, ht, rfl, rfl, HL4⟩ := hrel
                  by_cases htc : t < c + 1
                  · have htz : (0 : Int) < (c : Int) + 1 - (t : Int) := by omega
                    cases hdt : es.drop t with
                    | nil =>
                      have := List.drop_eq_nil_iff.1 hdt
                      omega
                    | cons a2 r2 =>
                      obtain ⟨b2, u2⟩ := a2
                      have hlen : r2.length < 4294967295 := by
                        have h1 := congrArg List.length hdt
                        rw [List.length_drop, List.length_cons] at h1
                        omega
                      have hr2 : es.drop (t + 1) = r2 := by
                        have h1 : (es.drop t).drop 1 = r2 := by rw [hdt]; rfl
                        rw [List.drop_drop] at h1
                        exact h1
                      rw [hdt] at HL4
                      have c1 : wz.cell? ⟨p, 1, none⟩ = some (ptr L) := HL4.out.row.cell (by omega)
                      have hfr := hid (fun q => front_any (wz.drewN q) (HL4.out.ls.drewN q) (by simp only [List.length_cons]; omega))
                      have HR2 := hid hr2
                      have HF2 : ∀ q, Calls Tryd.prog 90 #[ptr L] (wz.drewN q) fun e w' => e = .returned (ptr b2) ∧ wz.drewN q = w' := fun q => by
                        have := hfr.out q; rw [fptr_cons] at this; exact this
                      have HFQ := hid HF2
                      clear hdt hfr HF2 hr2
                      go_wp2_with fail
                      refine wp_region_quiet_tail 9 (by kernel_rfl) (by kernel_rfl) ?_
                      simp only [List.take_succ_cons, List.take_zero, List.drop_succ_cons, List.drop_zero]
                      repeat (quiet_step ((go_at_call 90; exact quiet_same rfl (HFQ.out _))))
                      refine wpQuiet_nil ?_
                      rintro _ ⟨nq, rfl⟩
                      go_wp2_with fail
                      refine (removeFront_any (wz.drewN nq) (HL4.out.ls.drewN nq) hlen).mono ?_
                      rintro e w5 ⟨rfl, hl5, hk5⟩
                      have HL5 := hid ((HL4.out.drewN nq).pop hl5 hk5)
                      clear hl5 hk5
                      go_wp2_with fail
                      go_roundg (c + 1 - (t + 1))
                      case rel => exact ⟨t + 1, by omega, rfl, (by congr 1; omega), by rw [HR2.out]; rw [List.drop_drop] at HL5; exact HL5⟩
                      case measure => omega
                  · obtain rfl : t = c + 1 := by omega
                    have htz : ¬ (0 : Int) < (c : Int) + 1 - ((c + 1 : Nat) : Int) := by omega
                    go_wp2_with fail
                    go_meet
                    refine ⟨es.drop (c + 1), _, d.push (u, k), by rw [HBk.out]; exact HL4, ?_, ?_, by rw [HBk.out]; exact HO⟩
                    · rw [HBk.out]
                      show List.Perm _ _
                      rw [Array.toList_push, HD.out]
                      exact prs_insert (by omega) HU0.out (by omega)
                    · rw [Array.size_push]
                      have h1 := (prs_insert (cl := (bk kd vl nn k).cl) (n := n) (o := u) (i := k) (by omega) HU0.out (by omega)).length_eq
                      have h2 := prs_len (cl := fun j => if j = u then k else (bk kd vl nn k).cl j) (n := n)
                      rw [← HD.out] at h1
                      simp at h1
                      omega
              · -- the next opener
                rw [decide_eq_false hm] at hmo
                have hAs := assertInt u
                have HM := hid hm
                clear hm
                go_wp2_with fail
                refine hmo.mono ?_
                rintro e w3 ⟨rfl, m, hw3⟩
                have HL3 : Hid (Lc w p L sos cd ix (bk kd vl nn k).st es v d w3) := by rw [hw3]; exact HL.out.drewN m
                have HBR3 : Hid (w3.rowIs b 124 4 (ef (ptr (hdb L r)) pv (ptr L) (opn u))) := by rw [hw3]; exact HBR.out
                have hnd : (L :: r.map Prod.fst).Nodup := by
                  have h1 := HL3.out.ls.nd
                  have h2 : (L :: (es.drop c).map Prod.fst).Nodup := by
                    refine List.nodup_cons.2 ⟨fun hm2 => (List.nodup_cons.1 h1).1 ?_, (List.nodup_cons.1 h1).2.sublist ((List.drop_sublist c es).map _)⟩
                    exact (((List.drop_sublist c es).map Prod.fst).subset hm2)
                  rw [HDR.out] at h2
                  exact List.nodup_cons.2 ⟨fun h3 => (List.nodup_cons.1 h2).1 (List.mem_cons_of_mem _ h3), (List.nodup_cons.1 (List.nodup_cons.1 h2).2).2⟩
                have hch3 : Chw w3 L r := by
                  have h1 := HL3.out.ls.ch.drop c
                  rw [HDR.out] at h1
                  exact h1.2
                obtain ⟨pv3, hrt3⟩ := HL3.out.ls.root
                have hnx := next_any w3 HBR3.out hnd hch3 hrt3
                have hr1 : es.drop (c + 1) = r := by
                  have h1 : (es.drop c).drop 1 = r := by rw [HDR.out]; rfl
                  rw [List.drop_drop] at h1
                  exact h1
                have HR1 := hid hr1
                clear hw3 HL hmo b3 c1 HBR HCHR hnd hch3 hrt3 HBR3 hr1
                go_wp2_with fail
                refine hnx.mono ?_
                rintro e w4 ⟨rfl, rfl⟩
                clear hnx
                go_wp2_with fail
                go_roundg (es.length + 1 - (c + 1))
                case rel => exact ⟨c + 1, by omega, Nat.le_refl _, by go_num, by rw [HR1.out], HL3, (show Hid _ from fun j hj => by
                  by_cases e : j = c
                  · subst e; rw [HU.out]; exact HM.out
                  · exact HNE.out j (by omega))⟩
                case measure => omega
        case rest =>
          obtain ⟨es2, v2, d2, HL2, HP2, hd2, HO2⟩ := hcut
          have c2 : wc.cell? ⟨p, 2, none⟩ = some v2 := HL2.out.row.cell (by omega)
          clear HL HD HO HST hsl x1 x2 x3 c3 c1
          rcases HL2.out.view with ⟨hv2, hd0⟩ | ⟨q, cap, hv2, hh⟩
          · subst hv2
            have HE : Hid (d2.toList = prs (bk kd vl nn (k + 1)).cl n) := by
              have h1 : d2.toList = [] := by
                apply List.eq_nil_of_length_eq_zero
                rw [Array.length_toList]; exact hd0
              have h2 := HP2.out
              rw [h1] at h2
              show _ = _
              rw [h1, List.nil_perm.1 h2]
            clear hd0
            go_wp2_with (go_at_call 94; refine (sort_nil _ 0).mono ?_; rintro e w6 ⟨rfl, rfl⟩)
            go_roundg (n - (k + 1))
            case rel => exact ⟨k + 1, es2, _, d2, by omega, rfl, by go_num, HL2, HE, HO2⟩
            case measure => omega
          · subst hv2
            have HH := hid hh
            clear hh
            go_wp2_with (go_at_call 94; refine (sort_p _ HH.out (by omega)).mono ?_; rintro e w6 ⟨rfl, d3, PP, SS, hh3, hk3⟩)
            go_roundg (n - (k + 1))
            case rel => exact ⟨k + 1, es2, _, d3, by omega, rfl, by go_num, HL2.out.sorted rfl PP.1 hh3 hk3, sorted_is rfl PP SS HP2.out prs_sorted, HO2⟩
            case measure => omega
    · obtain rfl : k = n := by omega
      go_wp2_with fail
      go_end0
      exact ⟨rfl, v, d, by rw [← HCD.out, ← HIX.out]; exact HL.out.row, HL.out.gw, HD.out, HL.out.kp⟩
end Go.Proofs.YtkocpijloiamcaaDoor
