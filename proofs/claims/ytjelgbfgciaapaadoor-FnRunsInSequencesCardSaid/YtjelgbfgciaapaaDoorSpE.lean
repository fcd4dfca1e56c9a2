/- spec.Explicit: the walk. -/
import Derived.Test.YtjelgbfgciaapaaDoorSpS
import Derived.Test.YtjelgbfgciaapaaDoorFirst
import Derived.Test.YtjelgbfgciaapaaDoorMtch
import Derived.Test.YtjelgbfgciaapaaDoorExpI0
import Derived.Test.YtjelgbfgciaapaaDoorRemB
import Derived.Deep.CutBlock
namespace Go.Proofs.YtjelgbfgciaapaaDoor
open Go.RowKit
set_option linter.unusedVariables false

/-- The state by which a character's level is told. -/
def at_ (x fs : Nat → Int) (base : Int) (i : Nat) : Mst := if x i = 22 then (mst x fs base i).close else mst x fs base i

/-- The levels of the reference. -/
def lvS (x fs : Nat → Int) (base : Int) (i : Nat) : Int := if remN (x i) = true then -1 else lvl x fs base i
/-- The types of the reference. -/
def tS (x fs : Nat → Int) (base : Int) (i : Nat) : Int := if 0 ≤ (at_ x fs base i).tov ∧ remN (x i) = false ∧ x i ≠ 7 then (at_ x fs base i).tov else x i

/-- The reference's lists while it goes. -/
structure SE (w0 : World) (P q cap L T capT n bm om cm : Nat) (mf : Nat → Int) (M : Mst) (lv ty : Nat → Int) (wx : World) : Prop where
  lev : wx.rowIs L 3 n (fun i => .int .i64 (lv i))
  typ : Gr wx w0.heap.size 3 (.slice (some ⟨T, 0, none⟩) n capT) n (fun i => .int .i64 (ty i))
  sp : SpRow wx w0.heap.size P q cap M
  since : w0.Since w0.heap.size wx
  qL : q ≠ L
  qT : q ≠ T
  PL : P ≠ L
  PT : P ≠ T
  LT : L ≠ T
  L0 : w0.heap.size ≤ L
  mat : Sees wx (some ⟨bm, om, none⟩) bm om n cm (fun i => .int .i64 (mf i))
  n0 : 0 < n
  qb : q ≠ bm
  Pb : P ≠ bm
  Lb : L ≠ bm
  Tb : T ≠ bm

section
variable {w0 wx wy : World} {P q cap L T capT n bm om cm : Nat} {mf : Nat → Int} {M M' : Mst} {lv ty lv' ty' : Nat → Int}

theorem SE.call (h : SE w0 P q cap L T capT n bm om cm mf M lv ty wx) (s : wx.Since wx.heap.size wy) : SE w0 P q cap L T capT n bm om cm mf M lv ty wy :=
  ⟨h.lev.of_block (s.block _ h.lev.lt), h.typ.since s, h.sp.since s, since2 h.since s, h.qL, h.qT, h.PL, h.PT, h.LT, h.L0, h.mat.since s, h.n0, h.qb, h.Pb, h.Lb, h.Tb⟩

theorem SE.done (h : SE w0 P q cap L T capT n bm om cm mf M lv ty wx) {e : Ending} (d : SpDone wx w0.heap.size P q M' e wy) : e = .returned (.tuple #[]) ∧ ∃ q' cap', SE w0 P q' cap' L T capT n bm om cm mf M' lv ty wy := by
  obtain ⟨he, q', cap', hs, hk, hq⟩ := d
  have hL := h.lev.lt
  have hT := (h.typ.ge T rfl).2
  refine ⟨he, q', cap', h.lev.of_block (hk.block _ hL (by rintro (e | e); exact h.PL e.symm; exact h.qL e.symm)), h.typ.kept' (fun k hk2 => ?_), hs, ?_, ?_, ?_, h.PL, h.PT, h.LT, h.L0, h.mat.kept (fun _ => hk.block _ (h.mat.lt h.n0) (by rintro (e | e); exact h.Pb e.symm; exact h.qb e.symm)), h.n0, ?_, h.Pb, h.Lb, h.Tb⟩
  · simp only [Value.ownBlock, Option.some.injEq] at hk2
    subst hk2
    exact hk.block _ hT (by rintro (e | e); exact h.PT e.symm; exact h.qT e.symm)
  · exact ⟨hk.os.trans h.since.os, hk.tape.trans h.since.tape, hk.output.trans h.since.output, Nat.le_trans h.since.size hk.size, fun k hk3 => (hk.block k (Nat.lt_of_lt_of_le hk3 h.since.size) (by
      have := h.sp.P1
      have := h.sp.q1
      omega)).trans (h.since.block k hk3)⟩
  · rcases hq with e | e
    · rw [e]; exact h.qL
    · omega
  · rcases hq with e | e
    · rw [e]; exact h.qT
    · omega
  · have := h.mat.lt h.n0
    rcases hq with e | e
    · rw [e]; exact h.qb
    · omega

theorem SE.setL (h : SE w0 P q cap L T capT n bm om cm mf M lv ty wx) (k : Nat) (v : Int) : SE w0 P q cap L T capT n bm om cm mf M (fun i => if i = k then v else lv i) ty (wx.setCell ⟨L, k, none⟩ (.int .i64 v)) :=
  ⟨(h.lev.set k (.int .i64 v)).congr (fun i _ => by split <;> rfl), h.typ.kept' (fun k' hk => by
    simp only [Value.ownBlock, Option.some.injEq] at hk
    subst hk
    exact Go.Deep.blk_setCell_other _ _ _ _ h.LT.symm), h.sp.kept (Go.Deep.blk_setCell_other _ _ _ _ h.PL) (Go.Deep.blk_setCell_other _ _ _ _ h.qL), h.since.setCell (a := ⟨L, k, none⟩) h.L0 _, h.qL, h.qT, h.PL, h.PT, h.LT, h.L0, h.mat.kept (fun _ => Go.Deep.blk_setCell_other _ _ _ _ h.Lb.symm), h.n0, h.qb, h.Pb, h.Lb, h.Tb⟩

theorem SE.setT (h : SE w0 P q cap L T capT n bm om cm mf M lv ty wx) (k : Nat) (v : Int) : SE w0 P q cap L T capT n bm om cm mf M lv (fun i => if i = k then v else ty i) (wx.setCell ⟨T, k, none⟩ (.int .i64 v)) :=
  ⟨h.lev.setOther h.LT _, (h.typ.set k (.int .i64 v)).congr (fun i _ => by split <;> rfl), h.sp.kept (Go.Deep.blk_setCell_other _ _ _ _ h.PT) (Go.Deep.blk_setCell_other _ _ _ _ h.qT), h.since.setCell (a := ⟨T, k, none⟩) (h.typ.ge T rfl).1 _, h.qL, h.qT, h.PL, h.PT, h.LT, h.L0, h.mat.kept (fun _ => Go.Deep.blk_setCell_other _ _ _ _ h.Tb.symm), h.n0, h.qb, h.Pb, h.Lb, h.Tb⟩

theorem SE.congr (h : SE w0 P q cap L T capT n bm om cm mf M lv ty wx) (e1 : ∀ i, i < n → lv i = lv' i) (e2 : ∀ i, i < n → ty i = ty' i) : SE w0 P q cap L T capT n bm om cm mf M lv' ty' wx :=
  ⟨h.lev.congr (fun i hi => by rw [e1 i hi]), h.typ.congr (fun i hi => by rw [e2 i hi]), h.sp, h.since, h.qL, h.qT, h.PL, h.PT, h.LT, h.L0, h.mat, h.n0, h.qb, h.Pb, h.Lb, h.Tb⟩
end

def lvK (x fs : Nat → Int) (base : Int) (k : Nat) : Nat → Int := fun i => if i < k then lvS x fs base i else 0
def tyK (x fs : Nat → Int) (base : Int) (k : Nat) : Nat → Int := fun i => if i < k then tS x fs base i else x i
theorem lvK_lt {x fs : Nat → Int} {base : Int} {k i : Nat} (h : i < k) : lvK x fs base k i = lvS x fs base i := if_pos h
theorem tyK_lt {x fs : Nat → Int} {base : Int} {k i : Nat} (h : i < k) : tyK x fs base k i = tS x fs base i := if_pos h
theorem tyK_at {x fs : Nat → Int} {base : Int} {k : Nat} : tyK x fs base k k = x k := if_neg (Nat.lt_irrefl _)

/-- What the loop holds when k characters are done. -/
def NxS (w : World) (P L T capT n : Nat) (base : Int) (x : Nat → Int) (bm om cm k : Nat) (wr : World) : Prop :=
  ∃ q cap, SE w P q cap L T capT n bm om cm (fun i => mt (iniN x) (pdiN x) n i) (mst x (fsI n x) base k) (lvK x (fsI n x) base k) (tyK x (fsI n x) base k) wr

theorem NxS.of {w wx : World} {P q cap L T capT n bm om cm k : Nat} {base : Int} {x lv ty : Nat → Int} {M : Mst}
    (h : SE w P q cap L T capT n bm om cm (fun i => mt (iniN x) (pdiN x) n i) M lv ty wx) (hM : mst x (fsI n x) base (k + 1) = M) (h1 : ∀ i, i ≠ k → lv i = lvK x (fsI n x) base k i) (h2 : lv k = lvS x (fsI n x) base k)
    (h3 : ∀ i, i ≠ k → ty i = tyK x (fsI n x) base k i) (h4 : ty k = tS x (fsI n x) base k) : NxS w P L T capT n base x bm om cm (k + 1) wx := by
  refine ⟨q, cap, hM ▸ h.congr (fun i _ => ?_) (fun i _ => ?_)⟩
  · by_cases e : i = k
    · subst e; rw [h2, lvK_lt (by omega)]
    · rw [h1 i e]; unfold lvK
      by_cases hl : i < k
      · rw [if_pos hl, if_pos (by omega)]
      · rw [if_neg hl, if_neg (by omega)]
  · by_cases e : i = k
    · subst e; rw [h4, tyK_lt (by omega)]
    · rw [h3 i e]; unfold tyK
      by_cases hl : i < k
      · rw [if_pos hl, if_pos (by omega)]
      · rw [if_neg hl, if_neg (by omega)]

/-- What spec.Explicit hands back. -/
def SpecX (w : World) (n : Nat) (lv ty : Nat → Int) (e : Ending) (w' : World) : Prop :=
  ∃ L T capT, e = .returned (.tuple #[.slice (some ⟨L, 0, none⟩) n n, .slice (some ⟨T, 0, none⟩) n capT]) ∧ w'.rowIs L 3 n (fun i => .int .i64 (lv i)) ∧
    Gr w' w.heap.size 3 (.slice (some ⟨T, 0, none⟩) n capT) n (fun i => .int .i64 (ty i)) ∧ L ≠ T ∧ w.heap.size ≤ L ∧ w.Since w.heap.size w'

set_option maxHeartbeats 40000000 in
set_option maxRecDepth 100000 in
theorem specExplicit_any {ao : Option Addr} {b o n cc : Nat} {x : Nat → Int} {base : Int} (w : World) (hn : n ≤ 2147483647) (h0 : 0 < n) (hb : base = 0 ∨ base = 1) (hB : ∀ i, i < n → x i = 7 → n ≤ i + 1) (hx : Sees w ao b o n cc (fun i => .int .i64 (x i))) :
    Calls Tryd.prog 12 #[.slice ao n cc, .int .i64 base] w (SpecX w n (lvS x (fsI n x) base) (tS x (fsI n x) base)) := by
  have HB := Lib.hid hB
  have HBB := Lib.hid hb
  clear hB hb
  obtain ⟨rfl, _⟩ := hx.get h0
  have hx0 := hx
  have hmk := run_make_row' (P := Tryd.prog) 22 3 (.int .i64 0) 8 Tryd.underlying22 Tryd.infoInt rfl .i64 .i64 n (by omega) (by omega)
  obtain ⟨w1, hw1⟩ : ∃ w1, w1 = w.alloc (.cells (madeCells #[.int .i64 0] n) 3) := ⟨_, rfl⟩
  have hr1 : w1.rowIs w.heap.size 3 n (fun _ => .int .i64 0) := by rw [hw1]; exact World.rowIs_made w _ n 3
  have hs1 : w.Since w.heap.size w1 := by rw [hw1]; exact (World.Since.refl _ _).alloc (Nat.le_refl _) _
  have hz1 : w1.heap.size = w.heap.size + 1 := by rw [hw1]; simp
  have HW1 := Lib.hid hw1
  have HZ1 := Lib.hid hz1
  have hle1 : w.heap.size + 1 ≤ w1.heap.size := by omega
  clear hw1 hz1
  go_enter Tryd.func12, Tryd.ntmps12
  go_upto_region 2 with fail
  rw [← HW1.out]
  clear hmk
  obtain ⟨L, hL⟩ : ∃ L, L = w.heap.size := ⟨_, rfl⟩
  rw [← hL] at hr1 ⊢
  have HLL := Lib.hid hL
  have hLle : L < w1.heap.size := hr1.lt
  clear hL
  have g1 := Gr.empty w1 w.heap.size 3 (fun _ => .int .i64 0) (by omega)
  have hx1 := hx.since hs1
  have hsA : w1.Since w1.heap.size (w1.alloc (.cells #[] 3)) := (World.Since.refl _ _).alloc (Nat.le_refl _) _
  have hx2 := hx1.since hsA
  go_wp2_with (at_builtin; refine wpList_cat _ rfl (.tmp 16) (.tmp 17) 22 rfl w.heap.size 3 (.int .i64 0) 8 Tryd.underlying22 Tryd.infoInt rfl _ _ _ (by rfl) g1 (by rfl) hx2 (fun _ _ => rfl) (by omega) (by omega) (by simp; omega) ?_)
  intro v2 w2 hg2 hgr2 hat
  have hg2' : Gr w2 w.heap.size 3 v2 n (fun i => .int .i64 (x i)) := by first | exact hg2 | (rw [Nat.zero_add] at hg2; exact hg2.congr fun i _ => by simp)
  have hs12 : w1.Since w1.heap.size w2 := hsA.grown hgr2 (by simp) (by simp [Value.ownBlock])
  obtain ⟨T, capT, rfl, hT⟩ := hg2'.form h0
  have hT2 : T = w1.heap.size ∨ T = w1.heap.size + 1 := by
    rcases hat with e | e
    · simp only [Value.ownBlock, Option.some.injEq] at e; exact .inl e
    · simp only [Value.ownBlock, Option.some.injEq] at e; exact .inr e
  have hs2 := since2 hs1 hs12
  have hx3 := hx.since hs2
  have hr2 := hr1.of_block (hs12.block _ hLle)
  have hLT : L ≠ T := by omega
  clear g1 hx1 hsA hx2 hg2 hgr2 hat hs12 hr1 hs1 hle1 HZ1 HW1
  have hT3 := (hg2'.ge T rfl).2
  have hL3 := hr2.lt
  clear hT2 hLle
  go_wp2_with fail
  refine (matching_any _ (by omega) hx3).mono ?_
  rintro e w3 ⟨am, bm, om, cm, rfl, hm3, hbm, hs23⟩
  have hx4 := hx3.since hs23
  have hr3 := hr2.of_block (hs23.block _ hL3)
  have hg3 := hg2'.since hs23
  have hs3 := since2 hs2 hs23
  have hz3 := hs23.size
  clear hx3 hr2 hg2' hs23 hs2 hx
  obtain ⟨rfl, _⟩ := hm3.get h0
  have hs2z : T < bm ∧ L < bm := ⟨by omega, by omega⟩
  obtain ⟨hs2z, hs2y⟩ := hs2z
  have hm4 : Sees w3 (some ⟨bm, om, none⟩) bm om n cm (fun i => .int .i64 (mt (iniN x) (pdiN x) n i)) := hm3
  clear hm3
  go_wp2_with fail
  obtain ⟨P, hP⟩ : ∃ P, P = w3.heap.size + 1 := ⟨_, rfl⟩
  have hSE : SE w P w3.heap.size 1 L T capT n bm om cm (fun i => mt (iniN x) (pdiN x) n i) (Mst.start base) (fun _ => 0) x ((w3.alloc (.cells #[.int .i64 base, .int .i64 (-1), .bool false] 45)).alloc (.cells #[.slice (some ⟨w3.heap.size, 0, none⟩) 1 1, .int .i64 0, .int .i64 0, .int .i64 0] 48)) := by
    have hrow : ((w3.alloc (.cells #[.int .i64 base, .int .i64 (-1), .bool false] 45)).alloc (.cells #[.slice (some ⟨w3.heap.size, 0, none⟩) 1 1, .int .i64 0, .int .i64 0, .int .i64 0] 48)).rowIs (w3.heap.size + 1) 48 4 (pf4 (.slice (some ⟨w3.heap.size, 0, none⟩) 1 1) (.int .i64 0) (.int .i64 0) (.int .i64 0)) := by
      have := World.rowIs_alloc (w3.alloc (.cells #[.int .i64 base, .int .i64 (-1), .bool false] 45)) #[.slice (some ⟨w3.heap.size, 0, none⟩) 1 1, .int .i64 0, .int .i64 0, .int .i64 0] 48 (pf4 (.slice (some ⟨w3.heap.size, 0, none⟩) 1 1) (.int .i64 0) (.int .i64 0) (.int .i64 0)) (fun i hi => match i, hi with | 0, _ => rfl | 1, _ => rfl | 2, _ => rfl | 3, _ => rfl)
      rw [World.size_alloc] at this
      exact this
    have hst : Gw (w3.alloc (.cells #[.int .i64 base, .int .i64 (-1), .bool false] 45)) w.heap.size 45 3 (.slice (some ⟨w3.heap.size, 0, none⟩) 1 1) 1 (ent (Mst.start base)) :=
      ⟨by simp [ent], .inr ⟨w3.heap.size, 1, _, rfl, hs3.size, heap_alloc_new w3 _, Nat.le_refl _, by unfold maxLen; omega, by simp, by simp [ent, Mst.start]⟩⟩
    exact ⟨(hr3.alloc _).alloc _, (hg3.alloc _).alloc _, ⟨by rw [hP]; exact hrow, hst.alloc _, by omega, by have := hs3.size; omega⟩, (hs3.alloc hs3.size _).alloc (by have := hs3.size; simp; omega) _,
      by have := hr3.lt; omega, by have := (hg3.ge T rfl).2; omega, by have := hr3.lt; omega, by have := (hg3.ge T rfl).2; omega, hLT, by rw [HLL.out]; exact Nat.le_refl _, (hm4.since ((World.Since.refl _ _).alloc (Nat.le_refl _) _)).since ((World.Since.refl _ _).alloc (Nat.le_refl _) _), h0, by have := hm4.lt h0; omega, by have := hm4.lt h0; omega, by omega, by omega⟩
  have hbw : b < w.heap.size := hx0.lt h0
  have HXW := Lib.hid hx0
  rw [← hP]
  clear hx4 hm4 hr3 hg3 hs3 hbm hs2z hL3 hT3 hLT hT hx0
  obtain ⟨N3, hN3⟩ : ∃ N3, N3 = w3.heap.size := ⟨_, rfl⟩
  rw [← hN3] at hSE ⊢
  obtain ⟨w5, hw5⟩ : ∃ w5, w5 = (w3.alloc (.cells #[.int .i64 base, .int .i64 (-1), .bool false] 45)).alloc (.cells #[.slice (some ⟨N3, 0, none⟩) 1 1, .int .i64 0, .int .i64 0, .int .i64 0] 48) := ⟨_, rfl⟩
  rw [← hw5] at hSE ⊢
  clear hw5 hN3 hP hz3
  go_loopg [10, 11, 12, 27] n (fun g _ _ _ i wr => ∃ k : Nat, k ≤ n ∧ g = n - k ∧ i = .int .i64 k ∧ NxS w P L T capT n base x bm om cm k wr)
  case atStart => exact ⟨0, by omega, rfl, rfl, N3, 1, hSE.congr (fun i _ => (if_neg (Nat.not_lt_zero _)).symm) (fun i _ => (if_neg (Nat.not_lt_zero _)).symm)⟩
  case round =>
    clear hSE
    obtain ⟨k, hk, rfl, rfl, q, cap, hE⟩ := hrel
    by_cases hkn : k < n
    · have hkz : (k : Int) < (n : Int) := by omega
      have hok : Mst.Ok base k (mst x (fsI n x) base k) := mst_ok (by have := HBB.out; omega) k
      have hms : mst x (fsI n x) base (k + 1) = (mst x (fsI n x) base k).step (x k) (fsI n x k) := rfl
      have hlv : lvl x (fsI n x) base k = if x k = 22 then (mst x (fsI n x) base k).close.top else if x k = 7 then base else (mst x (fsI n x) base k).top := rfl
      have hat : at_ x (fsI n x) base k = if x k = 22 then (mst x (fsI n x) base k).close else mst x (fsI n x) base k := rfl
      obtain ⟨M, hM⟩ : ∃ M, M = mst x (fsI n x) base k := ⟨_, rfl⟩
      rw [← hM] at hok hE hms hlv hat
      have HMS := Lib.hid hms
      have HLV := Lib.hid hlv
      have HAT := Lib.hid hat
      have HOKM := Lib.hid hok
      have hd1 := hok.d1
      have hd2 := hok.d_le (by have := HBB.out; omega)
      have hoi1 : M.oi ≤ 4294967295 := by have := hok.oi; omega
      have hoe1 : M.oe ≤ 4294967295 := by have := hok.oe; omega
      have hc0 := (HXW.out.get hkn).2
      have hc : wr.cell? ⟨b, o + k, none⟩ = some (.int .i64 (x k)) := by rw [hE.since.cell (a := ⟨b, o + k, none⟩) hbw]; exact hc0
      obtain ⟨t, ht⟩ : ∃ t, t = x k := ⟨_, rfl⟩
      rw [← ht] at hc
      have HT := Lib.hid ht
      obtain ⟨M1, hM1⟩ : ∃ M1, M1 = at_ x (fsI n x) base k := ⟨_, rfl⟩
      have HM1 := Lib.hid hM1
      clear hM hms hlv hat hok ht hM1 hc0
      go_upto_block 1 with fail
      go_cut [] (fun wx => NxS w P L T capT n base x bm om cm (k + 1) wx)
      case first =>
        go_upto_if 33 with fail
        go_cut [] (fun wx => ∃ q cap, SE w P q cap L T capT n bm om cm (fun i => mt (iniN x) (pdiN x) n i) M1 (lvK x (fsI n x) base k) (tyK x (fsI n x) base k) wx)
        case first =>
          as_aux_lemma =>
            by_cases h22 : t = 22
            · have hb : (t == 22) = true := by rw [h22]; rfl
              have HE := Lib.hid (show M1 = M.close by rw [HM1.out, HAT.out, if_pos (by rw [← HT.out]; exact h22)])
              have HVI := Lib.hid HOKM.out.vi
              have HI0 := Lib.hid HOKM.out.i0
              clear h22
              go_wp2_with fail
              refine (end_any _ hE.sp hd1 (by omega) HVI.out HI0.out hoi1).mono ?_
              intro e w2 hd
              obtain ⟨rfl, q2, cap2, hE2⟩ := hE.done hd
              go_wp2_with fail
              go_meet
              exact ⟨q2, cap2, HE.out ▸ hE2⟩
            · have hb : (t == 22) = false := by rw [beq_eq_false_iff_ne]; exact h22
              have HE := Lib.hid (show M1 = M by rw [HM1.out, HAT.out, if_neg (by rw [← HT.out]; exact h22)])
              clear h22
              go_wp2_with fail
              go_meet
              exact ⟨q, cap, HE.out ▸ hE⟩
        clear hE
        obtain ⟨q, cap, hE⟩ := hcut
        obtain ⟨WW, rfl⟩ : ∃ WW, WW = wc := ⟨_, rfl⟩
        have hok1 : ∃ i, Mst.Ok base i M1 ∧ i ≤ n := by
          rw [HM1.out, HAT.out]
          split
          · exact ⟨k + 1, HOKM.out.close, by omega⟩
          · exact ⟨k, HOKM.out, by omega⟩
        obtain ⟨i1, hok1, hi1⟩ := hok1
        have he1 := hok1.d1
        have he2 := hok1.d_le (by have := HBB.out; omega)
        have ht1 : 0 ≤ M1.top ∧ M1.top ≤ 125 := ⟨by have := hok1.top_ge (by have := HBB.out; omega); have := HBB.out; omega, hok1.top_le⟩
        have hoc1 : M1.oi ≤ 4294967295 ∧ M1.oe ≤ 4294967295 ∧ M1.vi ≤ 4294967295 := by
          have h1 := hok1.vi
          have h2 := Mst.cnt_le M1.iso M1.d
          refine ⟨?_, ?_, by omega⟩
          · have := hok1.oi; omega
          · have := hok1.oe; omega
        have HOC1 := Lib.hid hoc1
        clear hok1 hoc1 hi1
        obtain ⟨ht1, ht2⟩ := ht1
        go_upto_region 10 with fail
        go_cut [12] (fun c wx => ∃ A, c = .pointer (some ⟨A, 0, none⟩) ∧ WW.heap.size ≤ A ∧ wx.cell? ⟨A, 0, none⟩ = some (.int .i64 M1.top) ∧ wx.cell? ⟨A, 1, none⟩ = some (.int .i64 M1.tov) ∧ SE w P q cap L T capT n bm om cm (fun i => mt (iniN x) (pdiN x) n i) M1 (lvK x (fsI n x) base k) (tyK x (fsI n x) base k) wx)
        case first =>
          as_aux_lemma =>
            go_wp2_with fail
            refine (top_any _ hE.sp he1 (by omega)).mono ?_
            rintro e w2 ⟨rfl, hs⟩
            have hE2 := hE.call hs
            have hz2 := hs.size
            have hrr := World.rowIs_alloc w2 #[.int .i64 M1.top, .int .i64 M1.tov, .bool M1.tiso] 45 (fun i => (#[Value.int .i64 M1.top, .int .i64 M1.tov, .bool M1.tiso][i]?).getD undef) (fun i hi => by rw [Array.getElem?_eq_getElem hi]; rfl)
            have k0 := hrr.cell (i := 0) (by simp)
            have k1 := hrr.cell (i := 1) (by simp)
            have HK0 := Lib.hid k0
            have HK1 := Lib.hid k1
            clear hrr k0 k1
            go_wp2_with fail
            go_meet
            exact ⟨_, rfl, hz2, HK0.out, HK1.out, hE2.call ((World.Since.refl _ _).alloc (Nat.le_refl _) _)⟩
        have hEL := hE.lev.lt
        have hET := (hE.typ.ge T rfl).2
        clear hE
        obtain ⟨A, rfl, hA, ca0, ca1, hE⟩ := hcut
        have hAL : A ≠ L := by omega
        have hAT : A ≠ T := by omega
        clear hA hEL hET
        obtain ⟨WW, rfl⟩ : ∃ WW, WW = wc := ⟨_, rfl⟩
        go_upto_region 11 with fail
        go_cut [] (fun wx => wx.cell? ⟨A, 1, none⟩ = some (.int .i64 M1.tov) ∧ SE w P q cap L T capT n bm om cm (fun i => mt (iniN x) (pdiN x) n i) M1 (fun i => if i = k then M1.top else lvK x (fsI n x) base k i) (tyK x (fsI n x) base k) wx)
        case first =>
          as_aux_lemma =>
            have g1 := hE.lev.cell hkn
            have g2 := hE.lev.frozen k
            go_wp2_with fail
            go_meet
            exact ⟨by rw [World.cell?_of_block (w := WW) (a := ⟨A, 1, none⟩) (Go.Deep.blk_setCell_other _ _ _ _ hAL)]; exact ca1, hE.setL k M1.top⟩
        clear hE ca0 ca1
        obtain ⟨ca1, hE⟩ := hcut
        obtain ⟨WW, rfl⟩ : ∃ WW, WW = wc := ⟨_, rfl⟩
        obtain ⟨tov, htov⟩ : ∃ tov, tov = M1.tov := ⟨_, rfl⟩
        rw [← htov] at ca1
        have HTOV := Lib.hid htov
        clear htov
        go_upto_region 12 with fail
        go_cut [52] (fun c wx => c = .bool (decide (0 ≤ tov ∧ remN t = false ∧ t ≠ 7)) ∧ wx = WW)
        case first =>
          as_aux_lemma =>
            by_cases h1 : 0 ≤ tov
            · cases hr : remN t with
              | true =>
                have HV := Lib.hid (show decide (0 ≤ tov ∧ remN t = false ∧ t ≠ 7) = false by rw [decide_eq_false_iff_not, hr]; rintro ⟨_, h, _⟩; exact absurd h (by decide))
                have HR := Lib.hid hr
                clear hr
                go_wp2_with fail
                refine (isRemoved_any _ _).mono ?_
                rintro e w2 ⟨rfl, rfl⟩
                rw [HR.out]
                go_wp2_with fail
                go_meet
                exact ⟨by rw [HV.out], rfl⟩
              | false =>
                have HR := Lib.hid hr
                clear hr
                by_cases h7 : t = 7
                · have HV := Lib.hid (show decide (0 ≤ tov ∧ remN t = false ∧ t ≠ 7) = false by rw [decide_eq_false_iff_not]; rintro ⟨_, _, h⟩; exact h h7)
                  have hb : (t != 7) = false := by rw [h7]; rfl
                  clear h7
                  go_wp2_with fail
                  refine (isRemoved_any _ _).mono ?_
                  rintro e w2 ⟨rfl, rfl⟩
                  rw [HR.out]
                  go_wp2_with fail
                  go_meet
                  exact ⟨by rw [HV.out], rfl⟩
                · have HV := Lib.hid (show decide (0 ≤ tov ∧ remN t = false ∧ t ≠ 7) = true by rw [decide_eq_true_eq]; exact ⟨h1, HR.out, h7⟩)
                  have hb : (t != 7) = true := by simpa using h7
                  clear h7
                  go_wp2_with fail
                  refine (isRemoved_any _ _).mono ?_
                  rintro e w2 ⟨rfl, rfl⟩
                  rw [HR.out]
                  go_wp2_with fail
                  go_meet
                  exact ⟨by rw [HV.out], rfl⟩
            · have HV := Lib.hid (show decide (0 ≤ tov ∧ remN t = false ∧ t ≠ 7) = false by rw [decide_eq_false_iff_not]; rintro ⟨h, _, _⟩; exact h1 h)
              go_wp2_with fail
              go_meet
              exact ⟨by rw [HV.out], rfl⟩
        obtain ⟨rfl, rfl⟩ := hcut
        obtain ⟨WW, rfl⟩ : ∃ WW, WW = wc := ⟨_, rfl⟩
        go_upto_if 52 with fail
        have HTS := Lib.hid (show tS x (fsI n x) base k = if 0 ≤ tov ∧ remN t = false ∧ t ≠ 7 then tov else t by rw [HTOV.out, HT.out, HM1.out]; rfl)
        go_cut [] (fun wx => SE w P q cap L T capT n bm om cm (fun i => mt (iniN x) (pdiN x) n i) M1 (fun i => if i = k then M1.top else lvK x (fsI n x) base k i) (fun i => if i = k then tS x (fsI n x) base k else tyK x (fsI n x) base k i) wx)
        case first =>
          as_aux_lemma =>
            by_cases hc : 0 ≤ tov ∧ remN t = false ∧ t ≠ 7
            · have HD := Lib.hid (show decide (0 ≤ tov ∧ remN t = false ∧ t ≠ 7) = true by rw [decide_eq_true_eq]; exact hc)
              have HT2 := Lib.hid (HTS.out.trans (if_pos hc))
              clear hc
              rw [HD.out]
              have g1 := hE.typ.cell hkn
              have g2 := hE.typ.frozen k
              go_wp2_with fail
              go_meet
              rw [HT2.out]
              exact hE.setT k tov
            · have HD := Lib.hid (show decide (0 ≤ tov ∧ remN t = false ∧ t ≠ 7) = false by rw [decide_eq_false_iff_not]; exact hc)
              have HT2 := Lib.hid (HTS.out.trans (if_neg hc))
              clear hc
              rw [HD.out]
              go_wp2_with fail
              go_meet
              refine hE.congr (fun _ _ => rfl) (fun i _ => ?_)
              split
              · next e => rw [e, HT2.out, tyK_at, HT.out]
              · rfl
        clear hE ca1 HTOV
        have hE := hcut
        clear hcut
        obtain ⟨WW, rfl⟩ : ∃ WW, WW = wc := ⟨_, rfl⟩
        have HMN : Hid (mst x (fsI n x) base (k + 1) = M1.step (if t = 22 then 0 else t) (fsI n x k)) := Lib.hid (by
          rw [HMS.out, HM1.out, HAT.out, HT.out]
          by_cases e : x k = 22
          · rw [if_pos e, if_pos e, e]; rfl
          · rw [if_neg e, if_neg e])
        have HLF : Hid (lvl x (fsI n x) base k = if t = 7 then base else M1.top) := Lib.hid (by
          rw [HLV.out, HM1.out, HAT.out, HT.out]
          by_cases e : x k = 22
          · rw [if_pos e, if_neg (by omega), if_pos e]
          · rw [if_neg e, if_neg e])
        obtain ⟨MN, hMN⟩ : ∃ MN, MN = mst x (fsI n x) base (k + 1) := ⟨_, rfl⟩
        rw [← hMN] at HMN
        have HMNE := Lib.hid hMN.symm
        clear hMN
        go_upto_block 2 with fail
        go_cut [] (fun wx => ∃ q cap, SE w P q cap L T capT n bm om cm (fun i => mt (iniN x) (pdiN x) n i) MN (fun i => if i = k then (if t = 7 then base else M1.top) else lvK x (fsI n x) base k i) (fun i => if i = k then tS x (fsI n x) base k else tyK x (fsI n x) base k i) wx)
        case first =>
          as_aux_lemma =>
            by_cases c17 : t = 17
            ·
              as_aux_lemma =>
                have HE := Lib.hid (show MN = M1.embed 1 (-1) by rw [HMN.out, c17]; rfl)
                have HN7 := Lib.hid (show (if t = 7 then base else M1.top) = M1.top from if_neg (by omega))
                have hb : (t == 17) = true := by rw [c17]; rfl
                clear c17
                go_wp2_with fail
                refine (embed_any (odd := 1) (av := -1) _ hE.sp he1 (by omega) ht1 ht2 (.inr rfl) HOC1.out.2.1).mono ?_
                intro e w2 hd
                obtain ⟨rfl, q2, cap2, hE2⟩ := hE.done hd
                go_wp2_with fail
                go_meet
                rw [HE.out, HN7.out]
                exact ⟨q2, cap2, hE2⟩
            by_cases c16 : t = 16
            ·
              as_aux_lemma =>
                have HE := Lib.hid (show MN = M1.embed 0 (-1) by rw [HMN.out, c16]; rfl)
                have HN7 := Lib.hid (show (if t = 7 then base else M1.top) = M1.top from if_neg (by omega))
                have hb : (t == 16) = true := by rw [c16]; rfl
                have d17 : (t == 17) = false := by rw [beq_eq_false_iff_ne]; exact c17
                clear c17 c16
                go_wp2_with fail
                refine (embed_any (odd := 0) (av := -1) _ hE.sp he1 (by omega) ht1 ht2 (.inl rfl) HOC1.out.2.1).mono ?_
                intro e w2 hd
                obtain ⟨rfl, q2, cap2, hE2⟩ := hE.done hd
                go_wp2_with fail
                go_meet
                rw [HE.out, HN7.out]
                exact ⟨q2, cap2, hE2⟩
            by_cases c15 : t = 15
            ·
              as_aux_lemma =>
                have HE := Lib.hid (show MN = M1.embed 1 1 by rw [HMN.out, c15]; rfl)
                have HN7 := Lib.hid (show (if t = 7 then base else M1.top) = M1.top from if_neg (by omega))
                have hb : (t == 15) = true := by rw [c15]; rfl
                have d17 : (t == 17) = false := by rw [beq_eq_false_iff_ne]; exact c17
                have d16 : (t == 16) = false := by rw [beq_eq_false_iff_ne]; exact c16
                clear c17 c16 c15
                go_wp2_with fail
                refine (embed_any (odd := 1) (av := 1) _ hE.sp he1 (by omega) ht1 ht2 (.inr rfl) HOC1.out.2.1).mono ?_
                intro e w2 hd
                obtain ⟨rfl, q2, cap2, hE2⟩ := hE.done hd
                go_wp2_with fail
                go_meet
                rw [HE.out, HN7.out]
                exact ⟨q2, cap2, hE2⟩
            by_cases c14 : t = 14
            ·
              as_aux_lemma =>
                have HE := Lib.hid (show MN = M1.embed 0 0 by rw [HMN.out, c14]; rfl)
                have HN7 := Lib.hid (show (if t = 7 then base else M1.top) = M1.top from if_neg (by omega))
                have hb : (t == 14) = true := by rw [c14]; rfl
                have d17 : (t == 17) = false := by rw [beq_eq_false_iff_ne]; exact c17
                have d16 : (t == 16) = false := by rw [beq_eq_false_iff_ne]; exact c16
                have d15 : (t == 15) = false := by rw [beq_eq_false_iff_ne]; exact c15
                clear c17 c16 c15 c14
                go_wp2_with fail
                refine (embed_any (odd := 0) (av := 0) _ hE.sp he1 (by omega) ht1 ht2 (.inl rfl) HOC1.out.2.1).mono ?_
                intro e w2 hd
                obtain ⟨rfl, q2, cap2, hE2⟩ := hE.done hd
                go_wp2_with fail
                go_meet
                rw [HE.out, HN7.out]
                exact ⟨q2, cap2, hE2⟩
            by_cases c18 : t = 18
            ·
              as_aux_lemma =>
                have HE := Lib.hid (show MN = M1.pop by rw [HMN.out, c18]; rfl)
                have HN7 := Lib.hid (show (if t = 7 then base else M1.top) = M1.top from if_neg (by omega))
                have hb : (t == 18) = true := by rw [c18]; rfl
                have d17 : (t == 17) = false := by rw [beq_eq_false_iff_ne]; exact c17
                have d16 : (t == 16) = false := by rw [beq_eq_false_iff_ne]; exact c16
                have d15 : (t == 15) = false := by rw [beq_eq_false_iff_ne]; exact c15
                have d14 : (t == 14) = false := by rw [beq_eq_false_iff_ne]; exact c14
                clear c17 c16 c15 c14 c18
                go_wp2_with fail
                refine (pop_any' _ hE.sp he1 (by omega) HOC1.out.2.1).mono ?_
                intro e w2 hd
                obtain ⟨rfl, q2, cap2, hE2⟩ := hE.done hd
                go_wp2_with fail
                go_meet
                rw [HE.out, HN7.out]
                exact ⟨q2, cap2, hE2⟩
            by_cases c20 : t = 20
            ·
              as_aux_lemma =>
                have HE := Lib.hid (show MN = M1.begin_ 1 by rw [HMN.out, c20]; rfl)
                have HN7 := Lib.hid (show (if t = 7 then base else M1.top) = M1.top from if_neg (by omega))
                have hb : (t == 20) = true := by rw [c20]; rfl
                have d17 : (t == 17) = false := by rw [beq_eq_false_iff_ne]; exact c17
                have d16 : (t == 16) = false := by rw [beq_eq_false_iff_ne]; exact c16
                have d15 : (t == 15) = false := by rw [beq_eq_false_iff_ne]; exact c15
                have d14 : (t == 14) = false := by rw [beq_eq_false_iff_ne]; exact c14
                have d18 : (t == 18) = false := by rw [beq_eq_false_iff_ne]; exact c18
                clear c17 c16 c15 c14 c18 c20
                go_wp2_with fail
                refine (begin_any (odd := 1) _ hE.sp he1 (by omega) ht1 ht2 (.inr rfl) HOC1.out.1 HOC1.out.2.2).mono ?_
                intro e w2 hd
                obtain ⟨rfl, q2, cap2, hE2⟩ := hE.done hd
                go_wp2_with fail
                go_meet
                rw [HE.out, HN7.out]
                exact ⟨q2, cap2, hE2⟩
            by_cases c19 : t = 19
            ·
              as_aux_lemma =>
                have HE := Lib.hid (show MN = M1.begin_ 0 by rw [HMN.out, c19]; rfl)
                have HN7 := Lib.hid (show (if t = 7 then base else M1.top) = M1.top from if_neg (by omega))
                have hb : (t == 19) = true := by rw [c19]; rfl
                have d17 : (t == 17) = false := by rw [beq_eq_false_iff_ne]; exact c17
                have d16 : (t == 16) = false := by rw [beq_eq_false_iff_ne]; exact c16
                have d15 : (t == 15) = false := by rw [beq_eq_false_iff_ne]; exact c15
                have d14 : (t == 14) = false := by rw [beq_eq_false_iff_ne]; exact c14
                have d18 : (t == 18) = false := by rw [beq_eq_false_iff_ne]; exact c18
                have d20 : (t == 20) = false := by rw [beq_eq_false_iff_ne]; exact c20
                clear c17 c16 c15 c14 c18 c20 c19
                go_wp2_with fail
                refine (begin_any (odd := 0) _ hE.sp he1 (by omega) ht1 ht2 (.inl rfl) HOC1.out.1 HOC1.out.2.2).mono ?_
                intro e w2 hd
                obtain ⟨rfl, q2, cap2, hE2⟩ := hE.done hd
                go_wp2_with fail
                go_meet
                rw [HE.out, HN7.out]
                exact ⟨q2, cap2, hE2⟩
            by_cases c21 : t = 21
            ·
              as_aux_lemma =>
                have HXK := Lib.hid (show x k = 21 by rw [← HT.out]; exact c21)
                have HN7 := Lib.hid (show (if t = 7 then base else M1.top) = M1.top from if_neg (by omega))
                have HE := Lib.hid (show MN = M1.begin_ (fsI n x k) by rw [HMN.out, c21]; rfl)
                have hb : (t == 21) = true := by rw [c21]; rfl
                have d17 : (t == 17) = false := by rw [beq_eq_false_iff_ne]; exact c17
                have d16 : (t == 16) = false := by rw [beq_eq_false_iff_ne]; exact c16
                have d15 : (t == 15) = false := by rw [beq_eq_false_iff_ne]; exact c15
                have d14 : (t == 14) = false := by rw [beq_eq_false_iff_ne]; exact c14
                have d18 : (t == 18) = false := by rw [beq_eq_false_iff_ne]; exact c18
                have d20 : (t == 20) = false := by rw [beq_eq_false_iff_ne]; exact c20
                have d19 : (t == 19) = false := by rw [beq_eq_false_iff_ne]; exact c19
                clear c17 c16 c15 c14 c18 c20 c19 c21
                have hini : iniN x k = true := by show iniB (x k) = true; rw [HXK.out]; decide
                have hmle := mat_le (ini := iniN x) (pdi := pdiN x) hkn
                have cm : WW.cell? ⟨bm, om + k, none⟩ = some (.int .i64 (mat (iniN x) (pdiN x) n k : Int)) := by rw [(hE.mat.get hkn).2, mt_ini hini]
                have HZ := Lib.hid (show fsI n x k = fsN x 0 n (k + 1) (mat (iniN x) (pdiN x) n k) from rfl)
                obtain ⟨z, hz⟩ : ∃ z, z = mat (iniN x) (pdiN x) n k := ⟨_, rfl⟩
                rw [← hz] at hmle cm HZ
                have hcx := hE.mat.2.1
                clear hz hini
                have hsx : Sees WW (some ⟨b, o, none⟩) b o n cc (fun i => .int .i64 (x i)) := HXW.out.kept (fun _ => hE.since.block _ hbw)
                have HSX := Lib.hid hsx
                have HSM := Lib.hid (fsI_small (N := 0) (by omega) n x k)
                clear hsx
                go_wp2_with fail
                refine (firstStrong_any (i0 := k + 1) _ (by omega) HSX.out hmle (by omega)).mono ?_
                rintro e w2 ⟨rfl, hs⟩
                rw [← HZ.out]
                have hE2 := hE.call hs
                go_wp2_with fail
                refine (begin_any (odd := fsI n x k) _ hE2.sp he1 (by omega) ht1 ht2 HSM.out HOC1.out.1 HOC1.out.2.2).mono ?_
                intro e w4 hd
                obtain ⟨rfl, q2, cap2, hE4⟩ := hE2.done hd
                go_wp2_with fail
                go_meet
                rw [HE.out, HN7.out]
                exact ⟨q2, cap2, hE4⟩
            by_cases c7 : t = 7
            ·
              as_aux_lemma =>
                have HE := Lib.hid (show MN = M1 by rw [HMN.out, c7]; rfl)
                have HN7 := Lib.hid (show (if t = 7 then base else M1.top) = base from if_pos c7)
                have hb : (t == 7) = true := by rw [c7]; rfl
                have d17 : (t == 17) = false := by rw [beq_eq_false_iff_ne]; exact c17
                have d16 : (t == 16) = false := by rw [beq_eq_false_iff_ne]; exact c16
                have d15 : (t == 15) = false := by rw [beq_eq_false_iff_ne]; exact c15
                have d14 : (t == 14) = false := by rw [beq_eq_false_iff_ne]; exact c14
                have d18 : (t == 18) = false := by rw [beq_eq_false_iff_ne]; exact c18
                have d20 : (t == 20) = false := by rw [beq_eq_false_iff_ne]; exact c20
                have d19 : (t == 19) = false := by rw [beq_eq_false_iff_ne]; exact c19
                have d21 : (t == 21) = false := by rw [beq_eq_false_iff_ne]; exact c21
                clear c17 c16 c15 c14 c18 c20 c19 c21 c7
                have g1 := hE.lev.cell hkn
                have g2 := hE.lev.frozen k
                go_wp2_with fail
                go_meet
                rw [HE.out, HN7.out]
                exact ⟨q, cap, (hE.setL k base).congr (fun i _ => by split <;> rfl) (fun _ _ => rfl)⟩
            have HE := Lib.hid (show MN = M1 by
              rw [HMN.out]
              by_cases e : t = 22
              · rw [if_pos e]; rfl
              · rw [if_neg e]
                unfold Mst.step
                rw [if_neg c17, if_neg c16, if_neg c15, if_neg c14, if_neg c18, if_neg c20, if_neg c19, if_neg c21, if_neg e])
            have HN7 := Lib.hid (show (if t = 7 then base else M1.top) = M1.top from if_neg c7)
            have d17 : (t == 17) = false := by rw [beq_eq_false_iff_ne]; exact c17
            have d16 : (t == 16) = false := by rw [beq_eq_false_iff_ne]; exact c16
            have d15 : (t == 15) = false := by rw [beq_eq_false_iff_ne]; exact c15
            have d14 : (t == 14) = false := by rw [beq_eq_false_iff_ne]; exact c14
            have d18 : (t == 18) = false := by rw [beq_eq_false_iff_ne]; exact c18
            have d20 : (t == 20) = false := by rw [beq_eq_false_iff_ne]; exact c20
            have d19 : (t == 19) = false := by rw [beq_eq_false_iff_ne]; exact c19
            have d21 : (t == 21) = false := by rw [beq_eq_false_iff_ne]; exact c21
            have d7 : (t == 7) = false := by rw [beq_eq_false_iff_ne]; exact c7
            clear c17 c16 c15 c14 c18 c20 c19 c21 c7
            go_wp2_with fail
            go_meet
            rw [HE.out, HN7.out]
            exact ⟨q, cap, hE⟩
        clear hE
        obtain ⟨q, cap, hE⟩ := hcut
        obtain ⟨WW, rfl⟩ : ∃ WW, WW = wc := ⟨_, rfl⟩
        have FIN : ∀ (wy : World) (lv : Nat → Int), SE w P q cap L T capT n bm om cm (fun i => mt (iniN x) (pdiN x) n i) MN lv (fun i => if i = k then tS x (fsI n x) base k else tyK x (fsI n x) base k i) wy → (∀ i, i ≠ k → lv i = lvK x (fsI n x) base k i) → lv k = lvS x (fsI n x) base k → NxS w P L T capT n base x bm om cm (k + 1) wy := fun _ _ h e1 e2 =>
          NxS.of h HMNE.out e1 e2 (fun i hi => if_neg hi) (if_pos rfl)
        have HFIN := Lib.hid FIN
        clear FIN
        go_upto_region 33 with fail
        cases hr : remN t with
        | true =>
          have HR := Lib.hid hr
          have HLS := Lib.hid (show lvS x (fsI n x) base k = -1 by unfold lvS; rw [if_pos (by rw [← HT.out]; exact hr)])
          clear hr
          have g1 := hE.lev.cell hkn
          have g2 := hE.lev.frozen k
          go_wp2_with fail
          refine (isRemoved_any _ _).mono ?_
          rintro e w2 ⟨rfl, rfl⟩
          rw [HR.out]
          go_wp2_with fail
          go_meet
          exact HFIN.out _ _ (hE.setL k (-1)) (fun i hi => by rw [if_neg hi, if_neg hi]) (by rw [if_pos rfl, HLS.out])
        | false =>
          have HR := Lib.hid hr
          have HLS := Lib.hid (show lvS x (fsI n x) base k = lvl x (fsI n x) base k by unfold lvS; rw [if_neg (by rw [← HT.out, hr]; decide)])
          clear hr
          go_wp2_with fail
          refine (isRemoved_any _ _).mono ?_
          rintro e w2 ⟨rfl, rfl⟩
          rw [HR.out]
          go_wp2_with fail
          go_meet
          exact HFIN.out _ _ hE (fun i hi => if_neg hi) (by rw [if_pos rfl, HLS.out, HLF.out])
      case rest =>
        have HCUT : Hid _ := Lib.hid hcut
        clear hcut hE hc
        go_wp2_with fail
        go_roundg (n - (k + 1))
        case rel => exact ⟨k + 1, by omega, rfl, by go_num, HCUT.out⟩
        case measure => omega
    · obtain rfl : k = n := by omega
      go_wp2_with fail
      go_ret2
      exact ⟨L, T, capT, rfl, hE.lev.congr (fun i hi => by rw [lvK_lt hi]), hE.typ.congr (fun i hi => by rw [tyK_lt hi]), hE.LT, hE.L0, hE.since⟩

end Go.Proofs.YtjelgbfgciaapaaDoor
