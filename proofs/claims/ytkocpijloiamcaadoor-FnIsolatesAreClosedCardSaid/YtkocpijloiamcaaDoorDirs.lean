/- (*paragraph).determineIsolatingRunSequences (BD13): the walk. -/
import Derived.Test.YtkocpijloiamcaaDoorIrs
import Derived.Test.YtkocpijloiamcaaDoorGK
import Derived.Test.YtkocpijloiamcaaDoorGB
import Derived.Deep.RegionHeld3
namespace Go.Proofs.YtkocpijloiamcaaDoor
open Go.RowKit
set_option linter.unusedVariables false

/-- A sequence in memory, apart from the block of V: its row, its types, its places. -/
structure SqOk (w : World) (V : Value) (p n : Nat) (base : Int) (ct cl lv : Nat → Int) (S q : Nat) (l : List Nat) : Prop where
  ex : ∃ a b c, Sees w a b 0 l.length c (cellsOf l) ∧ b < q ∧ SqRow w p S q a l.length c l ct (cl (hd0 l)) (dirN (max (befL lv base (hd0 l)) (cl (hd0 l)))) (dirN (max (eosL lv ct base n (lst0 l)) (cl (hd0 l)))) ∧ ∀ k, V.ownBlock = some k → k ≠ b ∧ k ≠ q ∧ k ≠ S

theorem SqOk.since {w w' : World} {V : Value} {p n : Nat} {base : Int} {ct cl lv : Nat → Int} {S q : Nat} {l : List Nat} (h : SqOk w V p n base ct cl lv S q l) (s : w.Since w.heap.size w') : SqOk w' V p n base ct cl lv S q l := by
  obtain ⟨a, b, c, h1, h2, h3, h4⟩ := h.ex
  exact ⟨a, b, c, h1.since s, h2, h3.since s, h4⟩

theorem SqOk.lt {w : World} {V : Value} {p n : Nat} {base : Int} {ct cl lv : Nat → Int} {S q : Nat} {l : List Nat} (h : SqOk w V p n base ct cl lv S q l) : q < S ∧ S < w.heap.size := by
  obtain ⟨a, b, c, h1, h2, h3, h4⟩ := h.ex
  exact ⟨h3.ne, h3.row.lt⟩

theorem SqOk.push {w w' : World} {V V' : Value} {x : Obj} {p n : Nat} {base : Int} {ct cl lv : Nat → Int} {S q : Nat} {l : List Nat} (h : SqOk w V p n base ct cl lv S q l) (hg : (w.alloc x).grownBy w' V.ownBlock)
    (hat : V'.ownBlock = V.ownBlock ∨ V'.ownBlock = some (w.heap.size + 1)) : SqOk w' V' p n base ct cl lv S q l := by
  have h0 := h.since ((World.Since.refl _ _ : w.Since w.heap.size w).alloc (Nat.le_refl _) x)
  have hl := h.lt
  obtain ⟨a, b, c, h1, h2, h3, h4⟩ := h0.ex
  have hz : (w.alloc x).heap.size = w.heap.size + 1 := by rw [World.size_alloc]
  have key : ∀ k, k < w.heap.size → V.ownBlock ≠ some k → w'.heap[k]? = (w.alloc x).heap[k]? := fun k hk hne => hg.block k (by omega) (fun e => hne e.symm)
  have hb := key b (by omega) (fun e => (h4 b e).1 rfl)
  have hq := key q (by omega) (fun e => (h4 q e).2.1 rfl)
  have hS := key S (by omega) (fun e => (h4 S e).2.2 rfl)
  refine ⟨a, b, c, h1.kept (fun _ => hb), h2, ⟨h3.row.of_block hS, h3.types.of_block hq, h3.ne⟩, fun k hk => ?_⟩
  rcases hat with e | e
  · exact h4 k (by rw [← e]; exact hk)
  · rw [e] at hk
    simp only [Option.some.injEq] at hk
    omega

/-- The sequences that are found: pointers, each to a sequence of its own, later ones behind earlier ones. -/
structure Sqs (w : World) (B p n : Nat) (base : Int) (ct cl lv : Nat → Int) (v : Value) (L : List (List Nat)) (Sf Tf : Nat → Nat) : Prop where
  outer : Gr w B 89 v L.length (fun j => .pointer (some ⟨Sf j, 0, none⟩))
  ok : ∀ j, j < L.length → SqOk w v p n base ct cl lv (Sf j) (Tf j) (L.getD j [])
  ord : ∀ j k, j < k → k < L.length → Sf j < Tf k
  ge : ∀ j, j < L.length → B ≤ Tf j

/-- A sequence more. -/
theorem Sqs.push {w w5 w6 : World} {B p n : Nat} {base : Int} {ct cl lv : Nat → Int} {v v' : Value} {L : List (List Nat)} {Sf Tf : Nat → Nat} {x : Obj} {S q : Nat} {l : List Nat} (h : Sqs w B p n base ct cl lv v L Sf Tf) (s : w.Since w.heap.size w5)
    (h5 : SqOk w5 v p n base ct cl lv S q l) (hq : w.heap.size ≤ q) (hB : B ≤ w.heap.size)
    (hg : Gr w6 B 89 v' (L.length + 1) (fun j => if j = L.length then .pointer (some ⟨S, 0, none⟩) else .pointer (some ⟨Sf j, 0, none⟩)))
    (hgr : (w5.alloc x).grownBy w6 v.ownBlock) (hat : v'.ownBlock = v.ownBlock ∨ v'.ownBlock = some (w5.heap.size + 1)) :
    Sqs w6 B p n base ct cl lv v' (L ++ [l]) (fun j => if j = L.length then S else Sf j) (fun j => if j = L.length then q else Tf j) := by
  have hl : (L ++ [l]).length = L.length + 1 := by simp
  have ga : ∀ j, j < L.length → (L ++ [l]).getD j [] = L.getD j [] := fun j hj => by
    rw [List.getD_eq_getElem?_getD, List.getElem?_append_left hj, List.getD_eq_getElem?_getD]
  have gb : (L ++ [l]).getD L.length [] = l := by
    rw [List.getD_eq_getElem?_getD, List.getElem?_append_right (Nat.le_refl _)]; simp
  refine ⟨?_, fun j hj => ?_, fun j k hjk hk => ?_, fun j hj => ?_⟩
  · rw [hl]
    refine hg.congr fun j _ => ?_
    by_cases e : j = L.length
    · rw [if_pos e, if_pos e]
    · rw [if_neg e, if_neg e]
  · rw [hl] at hj
    by_cases e : j = L.length
    · subst e; rw [if_pos rfl, if_pos rfl, gb]; exact h5.push hgr hat
    · rw [if_neg e, if_neg e, ga j (by omega)]; exact ((h.ok j (by omega)).since s).push hgr hat
  · rw [hl] at hk
    rw [if_neg (by omega)]
    by_cases e : k = L.length
    · rw [if_pos e]
      have := (h.ok j (by omega)).lt
      omega
    · rw [if_neg e]; exact h.ord j k hjk (by omega)
  · rw [hl] at hj
    by_cases e : j = L.length
    · rw [if_pos e]; omega
    · rw [if_neg e]; exact h.ge j (by omega)

theorem in_q (l : List Int) (c : Int) (r : Bool) (w : World) {b : Nat} (hl : l.length ≤ 1000) (h : w.heap[b]? = some (.cells (l.map (Value.int .u64)).toArray 67 (0, 0))) (hr : memB l c = r) :
    Calls Tryd.prog 55 #[.int .u64 c, .slice (some ⟨b, 0, none⟩) l.length l.length] w fun e w' => e = .returned (.bool r) ∧ w = w' := by
  subst hr; exact in_any l c w hl h

/-! A drawn region by hand, under a condition on its cells: many operations that their guards pass over, at once. -/
def skipB (md : Region.Mode) (ops : Array Oper) : List (Nat × Nat) → Array Bool → Array Value → Bool
  | [], _, _ => true
  | (i, d) :: is, l, t => match ops[i]? with
    | none => false
    | some o => (o.dst == some d) && Region.free md ops l i && (Region.ready md ops l).contains i && !(Region.wanted o (yielded ops t)) && skipB md ops is (l.setIfInBounds i true) (t.setIfInBounds d undef)

def skipL : List (Nat × Nat) → Array Bool → Array Bool
  | [], l => l
  | (i, _) :: is, l => skipL is (l.setIfInBounds i true)

def skipA : List (Nat × Nat) → Act → Act
  | [], a => a
  | (_, d) :: is, a => skipA is (a.put (some d) undef)

theorem wpAnyH_skips {P : Program} {ops : Array Oper} {Q : Exit → Act → World → Prop} {md : Region.Mode} {S : World → Prop} (hs : Region.noSelect ops = true)
    (hQ : ∀ d c a w, Q (.panic c) (a.put d undef) w → Q (.panic c) a w) {w : World} (hS : S w) : ∀ (is : List (Nat × Nat)) (fuel : Nat) (listed : Array Bool) (a : Act), skipB md ops is listed a.tmps = true →
      wpAnyH P md ops Q S fuel (skipL is listed) (skipA is a) w → wpAnyH P md ops Q S (fuel + is.length) listed a w
  | [], fuel, listed, a, _, h => h
  | (i, d) :: is, fuel, listed, a, hB, h => by
    unfold skipB at hB
    cases ho : ops[i]? with
    | none => rw [ho] at hB; cases hB
    | some o =>
      rw [ho] at hB
      dsimp only at hB
      rw [Bool.and_eq_true, Bool.and_eq_true, Bool.and_eq_true, Bool.and_eq_true] at hB
      obtain ⟨⟨⟨⟨h0, h1⟩, h2⟩, h3⟩, h4⟩ := hB
      have hd : o.dst = some d := by simpa using h0
      unfold skipL skipA at h
      rw [← hd] at h
      refine wpAnyH_take (fuel := fuel + is.length) ho hs h1 h2 (fun c a w h => hQ _ c a w h) (Or.inr ⟨by simpa using h3, rfl⟩) hS ?_
      refine wpAnyH_skips hs hQ hS is fuel _ _ ?_ h
      rw [hd]
      exact h4

theorem wpAnyH_takeD {P : Program} {ops : Array Oper} {Q : Exit → Act → World → Prop} {md : Region.Mode} {S : World → Prop} {i d : Nat} {oi : Oper} {v : Value} {fuel : Nat} {listed : Array Bool} {a : Act} {w : World} (hi : ops[i]? = some oi) (hd : oi.dst = some d)
    (hs : Region.noSelect ops = true) (hf : Region.free md ops listed i = true) (hr : (Region.ready md ops listed).contains i = true)
    (hQ : ∀ c a w, Q (.panic c) (a.put (some d) v) w → Q (.panic c) a w) (hy : YieldsIf P ops S oi v a) (hS : S w)
    (h : wpAnyH P md ops Q S fuel (listed.setIfInBounds i true) (a.put (some d) v) w) : wpAnyH P md ops Q S (fuel + 1) listed a w := by
  rw [← hd] at hQ h
  exact wpAnyH_take hi hs hf hr hQ hy hS h

set_option maxHeartbeats 40000000 in
set_option maxRecDepth 100000 in
theorem dirs_any {p n : Nat} {x : Nat → Int} {base : Int} {b0 c0 T capT R N6 N7 : Nat} {ct cl fs : Nat → Int} (w : World) (hn : n ≤ 8589934592) (h0 : 0 < n) (hP : PR w p n x base b0 c0 T capT R N6 N7 ct cl (fun i => mt (iniN x) (pdiN x) n i) (fun i => bg (iniN x) (pdiN x) n n i))
    (hok : ∀ i, i < n → clsOk (x i)) (hb : base = 0 ∨ base = 1) (hB : ∀ i, i < n → x i = 7 → n ≤ i + 1) (hcl : ∀ i, i < n → remN (x i) = false → cl i = lvl x fs base i) :
    Calls Tryd.prog 61 #[.pointer (some ⟨p, 0, none⟩)] w fun e w' => ∃ v Sf Tf B, e = .returned v ∧ w.heap.size ≤ B ∧
      Sqs w' B p n base ct cl (lvR x fs base) v (chains (runs (lvR x fs base) n) (nxR x fs base n) (pdR x fs base n) (runs (lvR x fs base) n).length) Sf Tf ∧ w.Since w.heap.size w' := by
  have HOK := Lib.hid hok
  have HBB := Lib.hid hb
  have HB := Lib.hid hB
  have HCL := Lib.hid hcl
  have HLV := Lib.hid (show ∀ i, i < n → lvR x fs base i = if remN (x i) = true then -1 else cl i from fun i hi => by
    unfold lvR
    by_cases h : remN (x i) = true
    · rw [if_pos h, if_pos h]
    · rw [if_neg h, if_neg h, hcl i hi (by simpa using h)])
  have HRG := Lib.hid (show ∀ i, i < n → remN (x i) = false → 0 ≤ cl i ∧ cl i ≤ 125 from fun i hi h => by
    rw [hcl i hi h]
    have := lvl_range (x := x) (fs := fs) (base := base) (by omega) (by omega) i
    omega)
  have HSU := Lib.hid (runs_succ (x := x) (fs := fs) hb hB)
  have HPD := Lib.hid (runs_pred (x := x) (fs := fs) hb hB)
  have hdl := dlr_any (lv := lvR x fs base) w hn h0 hP.k0 hP.k5 hP.initS hP.levS hok HLV.out (fun i hi => by
    rw [HLV.out i hi]
    by_cases h : remN (x i) = true
    · rw [if_pos h]; omega
    · rw [if_neg h]; have := HRG.out i hi (by simpa using h); omega) (fun i hi hr => (lvR_ne hb).2 hr)
  have HDL := Lib.hid hdl
  have hrl := runs_len (lvR x fs base) n
  have hmk := run_make_row' (P := Tryd.prog) 22 3 (.int .i64 0) 8 Tryd.underlying22 Tryd.infoInt rfl .i64 .i64 n (by omega) (by omega)
  obtain ⟨RR, hRR⟩ : ∃ RR, RR = runs (lvR x fs base) n := ⟨_, rfl⟩
  obtain ⟨lv, hlv⟩ : ∃ lv, lv = lvR x fs base := ⟨_, rfl⟩
  obtain ⟨nx, hnx⟩ : ∃ nx, nx = nxR x fs base n := ⟨_, rfl⟩
  obtain ⟨pd, hpd⟩ : ∃ pd, pd = pdR x fs base n := ⟨_, rfl⟩
  rw [← hlv] at hRR HLV HDL hrl
  rw [← hRR] at hrl HDL
  rw [← hnx] at HSU HPD
  rw [← hpd] at HPD
  rw [← hlv, ← hRR] at HSU
  have HRR := Lib.hid hRR
  have HLVD := Lib.hid hlv
  have HNX := Lib.hid hnx
  have HPDD := Lib.hid hpd
  rw [← hlv, ← hnx, ← hpd, ← hRR]
  clear hok hb hB hcl hdl hRR hlv hnx hpd
  go_enter Tryd.func61, Tryd.ntmps61
  go_wp2_with fail
  refine HDL.out.mono ?_
  rintro e w1 ⟨v, rfl, hL, hsi1⟩
  obtain ⟨vao, vc, rfl⟩ := hL.form
  have hP1 := hP.since hsi1
  have hk0 := hP1.k0
  clear HDL hP
  go_wp2_with fail
  refine (len_any _ hk0).mono ?_
  rintro e w2 ⟨rfl, rfl⟩
  go_wp2_with fail
  clear hmk
  go_loopg [5, 6, 8, 23] RR.length (fun g _ _ _ i wr => ∃ k : Nat, k ≤ RR.length ∧ g = RR.length - k ∧ i = .int .i64 k ∧ wr.rowIs w1.heap.size 3 n (fun j => .int .i64 (rfK lv k [] 0 j)) ∧ w1.Since w1.heap.size wr)
  case atStart => exact ⟨0, by omega, rfl, rfl, (World.rowIs_made w1 _ n 3).congr (fun j _ => by unfold rfK; rw [if_neg]; rintro ⟨_, h | ⟨t, h, _⟩⟩ <;> omega), (World.Since.refl _ _).alloc (Nat.le_refl _) _⟩
  case round =>
    obtain ⟨k, hk, rfl, rfl, hrow, hs⟩ := hrel
    have hz : w1.heap.size < wr.heap.size := hrow.lt
    obtain ⟨_, b2, hb2, f, q1, q2⟩ := hL.sees
    by_cases hkn : k < RR.length
    · have hkz : (k : Int) < (RR.length : Int) := by omega
      obtain ⟨rfl, hc⟩ := (q1.since hs).get hkn
      rw [Nat.zero_add] at hc
      obtain ⟨a3, b3, o3, c3, hv3, hs3⟩ := q2 k hkn
      rw [hv3] at hc
      obtain ⟨r, hr⟩ : ∃ r, r = RR.getD k [] := ⟨_, rfl⟩
      have HR := Lib.hid (show ∀ q, q < r.length → r.getD q 0 < n ∧ rix lv (r.getD q 0) = k ∧ lv (r.getD q 0) ≠ -1 from fun q hq => by
        have hm : r.getD q 0 ∈ RR.getD k [] := by
          rw [← hr]; exact getD_mem0 hq
        rw [HRR.out] at hm
        have := rix_of_mem n k _ (by rw [← HRR.out]; exact hkn) hm
        exact ⟨this.2.1, this.1, this.2.2⟩)
      have hrn : r.length ≤ n := by rw [hr, HRR.out]; exact runs_row_len (by rw [← HRR.out]; exact hkn)
      have HRD := Lib.hid hr
      rw [← hr] at hs3 hc
      clear hr hv3
      go_wp2_with fail
      rename World => wo
      go_loopg [8, 30] r.length (fun g _ i wi => ∃ q : Nat, q ≤ r.length ∧ g = r.length - q ∧ i = .int .i64 q ∧ wi.rowIs w1.heap.size 3 n (fun j => .int .i64 (rfK lv k r q j)) ∧ w1.Since w1.heap.size wi)
      case atStart => exact ⟨0, by omega, rfl, rfl, hrow.congr (fun j _ => by rw [rfK_zero]), hs⟩
      case round =>
        clear hrow hs hc
        obtain ⟨q, hq, rfl, rfl, hrow, hs⟩ := hrel
        by_cases hqn : q < r.length
        · have hqz : (q : Int) < (r.length : Int) := by omega
          obtain ⟨rfl, hc⟩ := (hs3.since hs).get hqn
          change _ = some (Value.int .i64 ((r.getD q 0 : Nat) : Int)) at hc
          obtain ⟨y, hy⟩ : ∃ y, y = r.getD q 0 := ⟨_, rfl⟩
          obtain ⟨hy1, hy2, hy3⟩ := HR.out q hqn
          rw [← hy] at hc hy1 hy2 hy3
          have hyz : (y : Int) < (n : Int) := by omega
          have g1 := hrow.cell hy1
          have g2 := hrow.frozen y
          obtain ⟨old, hold⟩ : ∃ old : Int, wr.cell? ⟨w1.heap.size, y, none⟩ = some (.int .i64 old) := ⟨_, g1⟩
          have R1 := (hrow.set y (.int .i64 (k : Int))).congr (g := fun j => .int .i64 (rfK lv k r (q + 1) j)) (fun j _ => by rw [rfK_step hy.symm hy3 hy2]; split <;> rfl)
          have S1 := hs.setCell (a := ⟨w1.heap.size, y, none⟩) (Nat.le_refl _) (.int .i64 (k : Int))
          clear hrow hs hy hy2 hy3
          go_wp2_with fail
          go_roundg (r.length - (q + 1))
          case rel => exact ⟨q + 1, by omega, rfl, by go_num, R1, S1⟩
          case measure => omega
        · obtain rfl : q = r.length := by omega
          have hrow' := hrow.congr (g := fun j => .int .i64 (rfK lv (k + 1) [] 0 j)) (fun j hj => by
            have := rfK_row (lv := lv) (n := n) (k := k) (by rw [← HRR.out]; exact hkn) hj
            rw [← HRR.out, ← HRD.out] at this
            rw [this])
          clear hrow
          go_wp2_with fail
          go_roundg (RR.length - (k + 1))
          case rel => exact ⟨k + 1, by omega, rfl, by go_num, hrow', hs⟩
          case measure => omega
    · obtain rfl : k = RR.length := by omega
      have hRF := hrow
      clear hrow
      have hpp := World.block_lt_of_cell? _ _ hk0
      have hsw : w.Since w.heap.size wr := since2 hsi1 hs
      go_wp2_with fail
      rename World => wo
      go_loopg [9, 10, 12, 13, 14, 15, 43] RR.length (fun g v _ _ _ _ _ i wr => ∃ (k : Nat) (Sf Tf : Nat → Nat), k ≤ RR.length ∧ g = RR.length - k ∧ i = .int .i64 k ∧ Sqs wr wo.heap.size p n base ct cl lv v ((heads pd k).map (chn RR nx RR.length)) Sf Tf ∧ wo.Since wo.heap.size wr)
      case atStart => exact ⟨0, fun _ => 0, fun _ => 0, by omega, rfl, rfl, ⟨Gr.empty wo wo.heap.size _ _ (Nat.le_refl _), fun j hj => absurd hj (Nat.not_lt_zero _), fun j k _ hj => absurd hj (Nat.not_lt_zero _), fun j hj => absurd hj (Nat.not_lt_zero _)⟩, (World.Since.refl _ _).alloc (Nat.le_refl _) _⟩
      case round =>
        rename World => wk
        obtain ⟨k, Sf, Tf, hk2, rfl, rfl, hS, hsk⟩ := hrel
        have hsk1 : w1.Since w1.heap.size wk := since2 hs hsk
        have hzk := hsk.size
        by_cases hkn : k < RR.length
        · have hkz : (k : Int) < (RR.length : Int) := by omega
          obtain ⟨rfl, hc⟩ := (q1.since hsk1).get hkn
          rw [Nat.zero_add] at hc
          obtain ⟨a3, b3, o3, c3, hv3, hs3⟩ := q2 k hkn
          rw [hv3] at hc
          have HV3 := Lib.hid hv3
          have hs3k := hs3.since hsk1
          have HOR : RowOk lv n (RR.getD k []) := by rw [HRR.out]; exact runs_at (by rw [← HRR.out]; exact hkn)
          have hpos : 0 < (RR.getD k []).length := List.length_pos_iff.2 HOR.ne
          obtain ⟨y, hy⟩ : ∃ y, y = hd (RR.getD k []) := ⟨_, rfl⟩
          have hym : y ∈ RR.getD k [] := by
            rw [hy]
            exact getD_mem0 hpos
          have hyn : y < n := HOR.lt y hym
          have hynew : newR lv y := by rw [hy, HRR.out]; exact hd_new n k (by rw [← HRR.out]; exact hkn)
          have HYR := Lib.hid (show remN (x y) = false from by
            have := hynew.1
            rw [HLVD.out] at this
            exact (lvR_ne HBB.out).1 this)
          obtain ⟨rfl, hdz⟩ := hs3k.get hpos
          change _ = some (Value.int .i64 ((hd (RR.getD k []) : Nat) : Int)) at hdz
          rw [← hy, Nat.add_zero] at hdz
          have hPk := hP1.since hsk1
          have hci := hPk.init y hyn
          have hcb := hPk.begins y hyn
          have hk0k := hPk.k0
          have hk7k := hPk.k7
          have hcp := cls_pdi (HOK.out y hyn)
          have hHB := headB_iff (x := x) (fs := fs) (base := base) (n := n) (q := k) (by rw [← HLVD.out, ← HRR.out]; exact hkn)
          rw [← HPDD.out, ← HLVD.out, ← HRR.out, ← hy] at hHB
          obtain ⟨d, hdd⟩ : ∃ d, d = cls (x y) := ⟨_, rfl⟩
          obtain ⟨bv, hbv⟩ : ∃ bv, bv = bg (iniN x) (pdiN x) n n y := ⟨_, rfl⟩
          have hbo : bv = -1 ∨ 0 ≤ bv := by rw [hbv]; exact bg_or n y
          rw [← hdd] at hci hcp
          rw [← hbv] at hcb hHB
          have HY := Lib.hid hy
          obtain ⟨hB, hhB⟩ : ∃ hB, hB = headB pd k := ⟨_, rfl⟩
          rw [← hhB] at hHB
          have HHB := Lib.hid hhB
          have hyz : (y : Int) < (n : Int) := by omega
          have h0z : (0 : Int) < ((RR.getD k []).length : Int) := by omega
          have HPK := Lib.hid hPk
          have hzpos := Lib.hid hpos
          obtain ⟨len, hlen⟩ : ∃ len, len = (RR.getD k []).length := ⟨_, rfl⟩
          rw [← hlen] at hc hs3k h0z
          have HLEN := Lib.hid hlen
          clear hs3 hv3 HOR hym hynew hy hbv hdd hhB hlen hpos hPk
          go_upto_region 18 with fail
          go_cut [67] (fun v wx => v = .bool hB ∧ wx = wk)
          case first =>
            as_aux_lemma =>
              by_cases h24 : d = 24
              · subst h24
                have h22 : x y = 22 := by
                  have : pdiB (x y) = true := by rw [← hcp]; rfl
                  unfold pdiB at this; rw [decide_eq_true_eq] at this; exact this
                by_cases hm1 : bv = -1
                · have HT := Lib.hid (hHB.2 (by rw [hm1]; omega))
                  subst hm1
                  clear hHB hcp hbo
                  go_wp2_with fail
                  go_meet
                  exact ⟨by rw [HT.out], rfl⟩
                · have HT := Lib.hid (show hB = false by
                    cases e : hB with
                    | false => rfl
                    | true => exact absurd ⟨h22, by omega⟩ (hHB.1 e))
                  have hb1 : (bv == -1) = false := by simpa using hm1
                  clear hHB hcp hbo
                  go_wp2_with fail
                  go_meet
                  exact ⟨by rw [HT.out], rfl⟩
              · have hd1 : (d != 24) = true := by simpa using h24
                have HT := Lib.hid (hHB.2 (by
                  rintro ⟨h22, _⟩
                  have : pdiB (x y) = true := by unfold pdiB; simp [h22]
                  rw [← hcp] at this
                  exact h24 (by simpa using this)))
                clear hHB hcp hbo
                go_wp2_with fail
                go_meet
                exact ⟨by rw [HT.out], rfl⟩
          obtain ⟨rfl, rfl⟩ := hcut
          obtain ⟨wk, rfl⟩ : ∃ w2, w2 = wc := ⟨_, rfl⟩
          clear hHB hcp hbo hcb hci
          cases hB with
          | false =>
            have HH := Lib.hid (show heads pd (k + 1) = heads pd k by rw [heads_succ, ← HHB.out]; rfl)
            go_wp2_with fail
            go_roundg (RR.length - (k + 1))
            case rel => exact ⟨k + 1, Sf, Tf, by omega, rfl, by go_num, by rw [HH.out]; exact hS, hsk⟩
            case measure => omega
          | true =>
            have HCL2 := Lib.hid (show (chn RR nx RR.length k).length ≤ n from by
              have h1 := HSU.out
              have h2 := hkn
              rw [HRR.out] at h1 h2
              have := chn_len h1 HPD.out h2 HHB.out.symm
              rw [← HRR.out] at this
              exact this)
            go_wp2_with fail
            go_loopg [10, 12, 14, 15] (RR.length - k) (fun g u rv _ _ wr => ∃ (r : Nat) (A : List Nat), r < RR.length ∧ g = RR.length - r ∧ rv = f r ∧ Gr wr wk.heap.size 3 u A.length (cellsOf A) ∧ Hid (A ++ chn RR nx RR.length r = chn RR nx RR.length k) ∧ wk.Since wk.heap.size wr)
            case atStart => exact ⟨k, [], hkn, rfl, (by rw [HLEN.out]; exact HV3.out.symm), Gr.nil _ _ _ _, rfl, World.Since.refl _ _⟩
            case round =>
              obtain ⟨r, A, hr, rfl, rfl, hA, HA, hsr⟩ := hrel
              obtain ⟨a4, b4, o4, c4, hv4, hs4⟩ := q2 r hr
              rw [hv4]
              have HOR := Lib.hid (show RowOk lv n (RR.getD r []) by rw [HRR.out]; exact runs_at (by rw [← HRR.out]; exact hr))
              have HLR := Lib.hid (show ∀ i, i ∈ RR.getD r [] → rix lv i = r from fun i hi => by
                rw [HRR.out] at hi
                exact (rix_of_mem n r i (by rw [← HRR.out]; exact hr) hi).1)
              have hs4r := (hs4.since hsk1).since hsr
              have HCU := Lib.hid (chn_unfold (R := RR) HSU.out hr)
              obtain ⟨rr, hrr⟩ : ∃ rr, rr = RR.getD r [] := ⟨_, rfl⟩
              rw [← hrr] at HCU HOR HLR hs4r ⊢
              have hlen : A.length + rr.length ≤ n := by
                have := HCL2.out
                rw [← HA.out, HCU.out, List.length_append, List.length_append] at this
                omega
              have HRW := Lib.hid hrr
              clear hs4 hv4 hrr
              go_wp2_with (at_builtin; go_must (refine wpList_cat wr rfl _ _ 22 rfl wk.heap.size 3 (.int .i64 0) 8 Tryd.underlying22 Tryd.infoInt rfl _ _ _ (by rfl) hA (by rfl) hs4r (fun _ _ => rfl) (by omega) (by omega) hsr.size ?_))
              intro u' w2 hg2 hgr2 hat
              have hA2 : Gr w2 wk.heap.size 3 u' (A ++ rr).length (cellsOf (A ++ rr)) := by rw [List.length_append]; exact hg2.congr (fun i _ => (cellsOf_app A rr i).symm)
              have hs2 : wk.Since wk.heap.size w2 := hsr.grown hgr2 hsr.size (fun k hk => (hA.ge k hk).1)
              clear hA hsr hg2 hgr2 hat hs4r
              obtain ⟨a5, c5, rfl⟩ := hA2.len
              obtain ⟨b5, hb5, hs5⟩ := hA2.see
              obtain ⟨L, hL5⟩ : ∃ L, L = (A ++ rr).length := ⟨_, rfl⟩
              have hLn : L ≤ n := by rw [hL5, List.length_append]; exact hlen
              have hLp : 0 < L := by
                have := List.length_pos_iff.2 HOR.out.ne
                rw [hL5, List.length_append]; omega
              obtain ⟨rfl, hlc⟩ := hs5.get (show (A ++ rr).length - 1 < (A ++ rr).length by omega)
              obtain ⟨z, hz5⟩ : ∃ z, z = lst rr := ⟨_, rfl⟩
              have HLST := Lib.hid (lst_app (A := A) HOR.out.ne)
              rw [show cellsOf (A ++ rr) ((A ++ rr).length - 1) = .int .i64 (((A ++ rr).getD ((A ++ rr).length - 1) 0 : Nat) : Int) from rfl, HLST.out, ← hz5, Nat.zero_add] at hlc
              rw [← hz5] at HLST
              have hzm : z ∈ rr := by rw [hz5]; exact lst_mem HOR.out.ne
              have hzn : z < n := HOR.out.lt z hzm
              have HZL := Lib.hid (show lv z ≠ -1 by rw [HOR.out.lvl z hzm]; exact HOR.out.nr)
              have HZR := Lib.hid (HLR.out z hzm)
              have HNXR := Lib.hid (show nx r = if iniN x z = true ∧ mat (iniN x) (pdiN x) n z < n then some (rix lv (mat (iniN x) (pdiN x) n z)) else none from by
                rw [HNX.out]
                unfold nxR
                rw [← HLVD.out, ← HRR.out, ← HRW.out, ← hz5]
                by_cases c : iniN x z = true ∧ mat (iniN x) (pdiN x) n z < n
                · rw [if_pos c, if_pos ⟨hr, c.1, c.2⟩]
                · rw [if_neg c, if_neg (fun h => c h.2)])
              have HZ := Lib.hid hz5
              rw [← hL5] at hlc ⊢
              have hP2 := HPK.out.since hs2
              have hci := hP2.init z hzn
              have hce := hP2.ends z hzn
              have hk0' := hP2.k0
              have hk6' := hP2.k6
              have hmle := mat_le (ini := iniN x) (pdi := pdiN x) hzn
              have hci3 := cls_ini (HOK.out z hzn)
              have HP2 := Lib.hid hP2
              have HA2 := Lib.hid hA2
              have HL5 := Lib.hid hL5
              have HS5 := Lib.hid hs5
              obtain ⟨d2, hd2⟩ : ∃ d2, d2 = cls (x z) := ⟨_, rfl⟩
              rw [← hd2] at hci hci3
              have h0z2 : (0 : Int) < (L : Int) := by omega
              have h1z2 : (1 : Int) ≤ (L : Int) := by omega
              have hznz : (z : Int) < (n : Int) := by omega
              obtain ⟨mm, hmm⟩ : ∃ mm, mm = mat (iniN x) (pdiN x) n z := ⟨_, rfl⟩
              rw [← hmm] at HNXR hmle
              have HMM := Lib.hid hmm
              clear hd2 hz5 hzm hL5 hA2 hs5 hP2 hmm
              obtain ⟨g3, hg3⟩ : ∃ g3 : Bool, g3 = decide (iniN x z = true ∧ mm < n) := ⟨_, rfl⟩
              go_upto_region 23 with fail
              go_cut [98] (fun v wx => v = .bool g3 ∧ w2.Since w2.heap.size wx)
              case first =>
                focus
                  obtain ⟨ee, hee⟩ : ∃ ee : Int, ee = mt (iniN x) (pdiN x) n z := ⟨_, rfl⟩
                  rw [← hee] at hce
                  have hka : ∀ X, (w2.drew.alloc X).cell? ⟨p, 0, none⟩ = some (.slice (some ⟨b0, 0, none⟩) n c0) ∧ (w2.drew.alloc X).cell? ⟨p, 6, none⟩ = some (.slice (some ⟨N6, 0, none⟩) n n) ∧ (w2.drew.alloc X).cell? ⟨N6, z, none⟩ = some (.int .i64 ee) := fun X =>
                    have hsx : w2.Since w2.heap.size (w2.drew.alloc X) := (World.Since.refl _ _).drew.alloc (Nat.le_refl _) _
                    ⟨(hsx.cell (World.block_lt_of_cell? _ _ hk0')).trans hk0', (hsx.cell (World.block_lt_of_cell? _ _ hk6')).trans hk6', (hsx.cell (World.block_lt_of_cell? _ _ hce)).trans hce⟩
                  cases hin : iniN x z with
                  | false =>
                    have hm3 : memB [21, 22, 23] d2 = false := hci3.trans hin
                    have hg4 := Lib.hid (show g3 = false by rw [hg3, hin]; simp)
                    clear hg3 hci3 hee
                    refine wp_region_noPanic ?_
                    refine wp_region_held_drew (S := fun wx => wx.cell? ⟨p, 0, none⟩ = some (.slice (some ⟨b0, 0, none⟩) n c0) ∧ wx.cell? ⟨p, 6, none⟩ = some (.slice (some ⟨N6, 0, none⟩) n n) ∧ wx.cell? ⟨N6, z, none⟩ = some (.int .i64 ee)) (by kernel_rfl) ⟨hk0', hk6', hce⟩ (fun hHeld => ?_)
                    refine wpAnyH_takeD (i := 0) (d := 84) (v := ?_) rfl rfl (by kernel_rfl) (by kernel_rfl) (by kernel_rfl) (fun _ _ _ h => h) (Or.inl ⟨by rfl, (by intro w hSw; (try dsimp only at hSw); go_simp; try with_reducible rfl)⟩) (by assumption) ?_
                    try simp only [Act.put, List.setIfInBounds_toArray, List.set_cons_zero, List.set_cons_succ]
                    refine wpAnyH_ready (rs := [1]) (by kernel_rfl) (by simp) ?_
                    refine AllReadyH.cons rfl (fun K hK => ?_) AllReadyH.nil
                    go_simp
                    refine hK.out _ _ (hka _) (fun hHeld => ?_)
                    clear hK K
                    try simp only [Act.put, List.setIfInBounds_toArray, List.set_cons_zero, List.set_cons_succ]
                    refine wpAnyH_ready (rs := [2]) (by kernel_rfl) (by simp) ?_
                    refine AllReadyH.cons rfl (fun K hK => ?_) AllReadyH.nil
                    go_simp
                    (go_at_call 55; refine (in_q [21, 22, 23] _ false _ (by decide) (heap_alloc_new w2.drew _) hm3).mono ?_; rintro e w3 ⟨rfl, rfl⟩)
                    go_wp2_with fail
                    refine hK.out _ _ (hka _) (fun hHeld => ?_)
                    clear hK K
                    try simp only [Act.put, List.setIfInBounds_toArray, List.set_cons_zero, List.set_cons_succ]
                    refine wpAnyH_takeD (i := 3) (d := 87) (v := ?_) rfl rfl (by kernel_rfl) (by kernel_rfl) (by kernel_rfl) (fun _ _ _ h => h) (Or.inl ⟨by rfl, (by intro w hSw; (try dsimp only at hSw); go_simp; try with_reducible rfl)⟩) (by assumption) ?_
                    try simp only [Act.put, List.setIfInBounds_toArray, List.set_cons_zero, List.set_cons_succ]
                    refine wpAnyH_skips (by kernel_rfl) (fun _ _ _ _ h => h) hHeld [(4, 88), (5, 89), (6, 90), (7, 91), (8, 92), (9, 93), (10, 94), (11, 95), (12, 96), (13, 97)] 1 _ _ (by kernel_rfl) ?_
                    simp only [skipL, skipA, Act.put, List.setIfInBounds_toArray, List.set_cons_zero, List.set_cons_succ]
                    refine wpAnyH_takeD (i := 14) (d := 98) (v := ?_) rfl rfl (by kernel_rfl) (by kernel_rfl) (by kernel_rfl) (fun _ _ _ h => h) (Or.inl ⟨by rfl, (by intro w hSw; (try dsimp only at hSw); go_simp; try with_reducible rfl)⟩) (by assumption) ?_
                    try simp only [Act.put, List.setIfInBounds_toArray, List.set_cons_zero, List.set_cons_succ]
                    refine wpAnyH_done (by kernel_rfl) ?_ _
                    refine NoPanic.normal ?_
                    go_wp2_with fail
                    go_meet
                    exact ⟨by rw [hg4.out], (World.Since.refl _ _).drew.alloc (Nat.le_refl _) _⟩
                  | true =>
                    have hm3 : memB [21, 22, 23] d2 = true := hci3.trans hin
                    rw [mt_ini hin, ← HMM.out] at hee
                    by_cases hmn : mm = n
                    · have hg4 := Lib.hid (show g3 = false by rw [hg3, hin, hmn]; simp)
                      have he1 : (ee != (n : Int)) = false := by rw [hee, hmn]; simp
                      clear hg3 hci3 hee
                      go_region_held3 (fun wx => wx.cell? ⟨p, 0, none⟩ = some (.slice (some ⟨b0, 0, none⟩) n c0) ∧ wx.cell? ⟨p, 6, none⟩ = some (.slice (some ⟨N6, 0, none⟩) n n) ∧ wx.cell? ⟨N6, z, none⟩ = some (.int .i64 ee)) (first | exact ⟨hk0', hk6', hce⟩ | exact hka _)
                      (first | (go_at_call 55; refine (in_q [21, 22, 23] _ true _ (by decide) (heap_alloc_new w2.drew _) hm3).mono ?_; rintro e w3 ⟨rfl, rfl⟩) | (go_at_call 48; refine (len_any _ (by first | exact hk0' | exact (hka _).1)).mono ?_; rintro e w3 ⟨rfl, rfl⟩))
                      go_wp2_with fail
                      go_meet
                      exact ⟨by rw [hg4.out], (World.Since.refl _ _).drew.alloc (Nat.le_refl _) _⟩
                    · have hg4 := Lib.hid (show g3 = true by rw [hg3, hin]; simp; omega)
                      have he1 : (ee != (n : Int)) = true := by
                        have : ee ≠ (n : Int) := by omega
                        simpa using this
                      clear hg3 hci3 hee
                      go_region_held3 (fun wx => wx.cell? ⟨p, 0, none⟩ = some (.slice (some ⟨b0, 0, none⟩) n c0) ∧ wx.cell? ⟨p, 6, none⟩ = some (.slice (some ⟨N6, 0, none⟩) n n) ∧ wx.cell? ⟨N6, z, none⟩ = some (.int .i64 ee)) (first | exact ⟨hk0', hk6', hce⟩ | exact hka _)
                      (first | (go_at_call 55; refine (in_q [21, 22, 23] _ true _ (by decide) (heap_alloc_new w2.drew _) hm3).mono ?_; rintro e w3 ⟨rfl, rfl⟩) | (go_at_call 48; refine (len_any _ (by first | exact hk0' | exact (hka _).1)).mono ?_; rintro e w3 ⟨rfl, rfl⟩))
                      go_wp2_with fail
                      go_meet
                      exact ⟨by rw [hg4.out], (World.Since.refl _ _).drew.alloc (Nat.le_refl _) _⟩
              obtain ⟨rfl, hsc⟩ := hcut
              have hsw2 : wk.Since wk.heap.size wc := since2 hs2 hsc
              have hAc := HA2.out.since hsc
              have hsk2 : wo.Since wo.heap.size wc := since2 hsk hsw2
              cases g3 with
              | false =>
                have HN := Lib.hid (show nx r = none from by
                  rw [HNXR.out, if_neg]
                  exact of_decide_eq_false hg3.symm)
                have HCH := Lib.hid (show A ++ rr = chn RR nx RR.length k from by
                  have h1 := HCU.out
                  rw [HN.out] at h1
                  rw [← HA.out, h1, List.append_nil])
                have HPc := HP2.out.since hsc
                have HS5c := HS5.out.since hsc
                have hz2 := hs2.size
                have hzc := hsc.size
                have hb5l : b5 < w2.heap.size := HS5.out.lt (by rw [← HL5.out]; exact hLp)
                have hlen3 := HL5.out
                have HIR := Lib.hid (show ∀ w9, wc.Since wc.heap.size w9 → Calls Tryd.prog 77 #[.pointer (some ⟨p, 0, none⟩), .slice (some ⟨b5, 0, none⟩) L c5] w9 fun e w' => ∃ S q, e = .returned (.pointer (some ⟨S, 0, none⟩)) ∧ w9.heap.size ≤ q ∧
                    SqRow w' p S q (some ⟨b5, 0, none⟩) L c5 (A ++ rr) ct (cl (hd0 (A ++ rr))) (dirN (max (befL lv base (hd0 (A ++ rr))) (cl (hd0 (A ++ rr))))) (dirN (max (eosL lv ct base n (lst0 (A ++ rr))) (cl (hd0 (A ++ rr))))) ∧ w9.Since w9.heap.size w' from fun w9 h9 => by
                  rw [HL5.out]
                  refine irs_any w9 hn (HPc.since h9) (HS5c.since h9) (by rw [← HL5.out]; exact hLp) (by rw [← HL5.out]; exact hLn) (fun i hi => ?_) HOK.out (by have := HBB.out; omega) HLV.out HRG.out ?_
                  · rw [HCH.out] at hi
                    obtain ⟨q, hq, hiq⟩ := chT_mem HSU.out _ _ hkn hi
                    rw [HRR.out] at hiq
                    exact (rix_of_mem n q i (by rw [← HRR.out]; exact hq) hiq).2.1
                  · rw [HCH.out]
                    have e1 : hd0 (chn RR nx RR.length k) = y := by
                      rw [chn_unfold HSU.out hkn, HY.out]
                      have hp := hzpos.out
                      unfold hd0 hd
                      rw [List.getD_eq_getElem?_getD (l := RR.getD k [] ++ _), List.getElem?_append_left hp, ← List.getD_eq_getElem?_getD]
                    rw [e1]; exact HYR.out)
                have HB5 := Lib.hid hb5
                have HSC := Lib.hid hsc
                have HSI := Lib.hid hsk2
                have HSW := Lib.hid hsw2
                have hbl5 : wo.heap.size ≤ wk.heap.size := hsk.size
                have hll : ((heads pd k).map (chn RR nx RR.length)).length ≤ 8589934592 := by
                  rw [List.length_map]
                  unfold heads
                  have h1 := List.length_filter_le (headB pd) (List.range k)
                  rw [List.length_range] at h1
                  omega
                clear hci hce hk0' hk6' hmle hci3 hlc HPc HS5c hAc hsc hb5 hsw2 hsk2 hlen3 hg3
                go_wp2_with fail
                refine (HIR.out _ (World.Since.refl _ _)).mono ?_
                rintro e w5 ⟨Sn, qn, rfl, hqn, hSq, hs5w⟩
                have hS5k : SqOk w5 u9 p n base ct cl lv Sn qn (A ++ rr) := ⟨⟨_, b5, c5, ((HS5.out.since HSC.out).since hs5w), by omega, by rw [HL5.out] at hSq; exact hSq, fun k hk => by
                  have h1 := (hS.outer.ge k hk).2
                  have h2 := HB5.out
                  have h3 := hSq.ne
                  exact ⟨by omega, by omega, by omega⟩⟩⟩
                have hs9 : wk.Since wk.heap.size w5 := since2 HSW.out hs5w
                have hs8 : wo.Since wo.heap.size w5 := since2 HSI.out hs5w
                have hz8 := hs8.size
                have hgo := hS.outer.since hs9
                clear hSq
                go_wp2_with (at_builtin; go_must (refine wpList_push w5 rfl _ _ 87 rfl wo.heap.size 89 (.pointer none) 8 Tryd.underlying87 Tryd.infoSq rfl _ _ _ _ (by rfl) hgo (by rfl) rfl hll (by omega) hz8 ?_))
                intro v' w6 hg6 hgr6 hat6
                have hS6 := hS.push hs9 hS5k (by omega) hbl5 (by rw [List.length_map]; exact hg6) hgr6 hat6
                have hs6 : wo.Since wo.heap.size w6 := (hs8.alloc hz8 _).grown hgr6 (by rw [World.size_alloc]; omega) (fun k hk => (hS.outer.ge k hk).1)
                rw [HCH.out] at hS6
                have HHS := Lib.hid (show (heads pd (k + 1)).map (chn RR nx RR.length) = (heads pd k).map (chn RR nx RR.length) ++ [chn RR nx RR.length k] from by rw [heads_succ, if_pos HHB.out.symm, List.map_append]; rfl)
                clear hS hgo hg6 hgr6 hat6 hS5k hs8 hs9 hs5w
                go_wp2_with fail
                go_roundg (RR.length - (k + 1))
                case rel => exact ⟨k + 1, _, _, by omega, rfl, by go_num, by rw [HHS.out]; exact hS6, hs6⟩
                case measure => omega
              | true =>
                have hin : iniN x z = true ∧ mm < n := of_decide_eq_true hg3.symm
                have HN := Lib.hid (show nx r = some (rix lv mm) from by rw [HNXR.out, if_pos hin])
                have hrl2 := HSU.out.lt r _ HN.out
                have hnm : lv mm ≠ -1 := by
                  obtain ⟨i, _, hi, _, _, _, _, _, _, hnew, _, _, _⟩ := nxR_some HBB.out HB.out (show nxR x fs base n r = some (rix lv mm) from by rw [← HNX.out]; exact HN.out)
                  have hiz : i = z := by rw [hi, HZ.out, HRW.out, HRR.out, HLVD.out]
                  rw [hiz, ← HMM.out, ← HLVD.out] at hnew
                  exact hnew.1
                have hce' : wc.cell? ⟨N6, z, none⟩ = some (.int .i64 ((mm : Nat) : Int)) := by rw [hsc.cell (World.block_lt_of_cell? _ _ hce), hce, mt_ini hin.1, ← HMM.out]
                have hk6c := (hsc.cell (World.block_lt_of_cell? _ _ hk6')).trans hk6'
                have hswc : w1.Since w1.heap.size wc := since2 hsk1 hsw2
                have hrf : wc.cell? ⟨w1.heap.size, mm, none⟩ = some (.int .i64 ((rix lv mm : Nat) : Int)) := by
                  have h1 := hRF.cell hin.2
                  rw [hsk2.cell (World.block_lt_of_cell? _ _ h1), h1]
                  unfold rfK
                  rw [if_pos ⟨hnm, .inl hrl2.2⟩]
                have hfr := ((q1.since hswc).get hrl2.2).2
                rw [Nat.zero_add] at hfr
                have hch : (A ++ rr) ++ chn RR nx RR.length (rix lv mm) = chn RR nx RR.length k := by
                  have h1 := HCU.out
                  rw [HN.out] at h1
                  rw [List.append_assoc, ← HA.out, h1]
                have HCH := Lib.hid hch
                have HSW := Lib.hid hsw2
                have HAC := Lib.hid hAc
                obtain ⟨r2, hr2⟩ : ∃ r2, r2 = rix lv mm := ⟨_, rfl⟩
                rw [← hr2] at hrf hfr hrl2 HCH
                obtain ⟨hr2a, hr2b⟩ := hrl2
                have hr2z : (r2 : Int) < (RR.length : Int) := by omega
                have hmz : (mm : Int) < (n : Int) := by omega
                clear hci hce hk0' hk6' hmle hci3 hlc hAc hsc hsw2 hsk2 hch hswc hr2 hnm hin hg3
                go_wp2_with fail
                go_roundg (RR.length - r2)
                case rel => exact ⟨r2, A ++ rr, hr2b, rfl, rfl, by rw [HL5.out]; exact HAC.out, HCH.out, HSW.out⟩
                case measure => omega
        · obtain rfl : k = RR.length := by omega
          have hS' := hS
          clear hS
          go_wp2_with fail
          go_ret
          exact ⟨_, Sf, Tf, wo.heap.size, rfl, hsw.size, hS', since2 hsw hsk⟩

end Go.Proofs.YtkocpijloiamcaaDoor
