/- (*bracketPairer).assignBracketType, .resolveBrackets. -/
import Derived.Test.YtkocpijloiamcaaDoorGM
import Derived.Deep.RegionHeld3
namespace Go.Proofs.YtkocpijloiamcaaDoor
open Go.RowKit Go.Lib Go.Sort
set_option linter.unusedVariables false
set_option linter.unusedSimpArgs false

theorem CS.base {w w1 wx : World} {B q cap n : Nat} {F : Nat → Int} (s : w.Since w.heap.size w1) (h : CS w1 B q cap n F wx) : CS w B q cap n F wx := ⟨(Kp.since s _).trans h.kept, h.types⟩

set_option maxHeartbeats 4000000 in
set_option maxRecDepth 100000 in
theorem assign_any {p q B cap n N bi oi ci b0 o0 c0 o cl : Nat} {ai a0 : Option Addr} {f : Nat → Value} {xi : Nat → Nat} {z F : Nat → Int} {s e : Int} (w : World)
    (hr : w.rowIs p 117 5 f) (hf0 : f 0 = .int .u64 s) (hf3 : f 3 = .slice (some ⟨q, 0, none⟩) n cap) (hf4 : f 4 = .slice ai n ci)
    (hG : Gr w B 67 (.slice (some ⟨q, 0, none⟩) n cap) n (fun i => .int .u64 (F i)))
    (hx : Sees w ai bi oi n ci (fun i => .int .i64 ((xi i : Nat) : Int))) (hxq : bi ≠ q) (hz : Sees w a0 b0 o0 N c0 (fun j => .int .u64 (z j))) (hzq : b0 ≠ q) (hpq : p ≠ q)
    (hxi : ∀ i, i < n → xi i < N) (hn : n ≤ 8589934592) (hN : N ≤ 8589934592) (ho : o < cl) (hcl : cl < n) (hs : s = 0 ∨ s = 1) (he : e = 0 ∨ e = 1) :
    Calls Tryd.prog 95 #[ptr p, .agg #[.int .i64 o, .int .i64 cl], .int .u64 e, .slice a0 N c0] w fun en w' => en = .returned (.tuple #[]) ∧ CS w B q cap n (n0 gs (fun i => decide (z (xi i) = 12)) s e F (o, cl)) w' := by
  have hs0 : w.Since w.heap.size (w.alloc (.cells #[.int .i64 o, .int .i64 cl] 132)) := (World.Since.refl _ _).alloc (Nat.le_refl _) _
  have hrow := World.rowIs_alloc w #[Value.int .i64 (o : Nat), .int .i64 (cl : Nat)] 132 (fun i => (#[Value.int .i64 (o : Nat), .int .i64 (cl : Nat)][i]?).getD undef) (fun i hi => by rw [Array.getElem?_eq_getElem hi]; rfl)
  obtain ⟨S0, hS0⟩ : ∃ S0, S0 = w.heap.size := ⟨_, rfl⟩
  have HS0 := hid hS0
  obtain ⟨wA, hwA⟩ : ∃ wA, wA = w.alloc (.cells #[.int .i64 (o : Nat), .int .i64 (cl : Nat)] 132) := ⟨_, rfl⟩
  have HWA := hid hwA
  rw [← hwA] at hs0 hrow
  rw [← hS0] at hrow
  have HSI0 := hid hs0
  have hrA : wA.rowIs p 117 5 f := hr.of_block (hs0.block _ hr.lt)
  have hGA := hG.since hs0
  have hxA := hx.since hs0
  have hzA := hz.since hs0
  have hbox : ∀ wx, wA.Since wA.heap.size wx → wx.cell? ⟨S0, 0, none⟩ = some (.int .i64 (o : Nat)) ∧ wx.cell? ⟨S0, 1, none⟩ = some (.int .i64 (cl : Nat)) := fun wx h => by
    have h2 := hrow.of_block (h.block _ hrow.lt)
    exact ⟨h2.cell (show 0 < 2 by omega), h2.cell (show 1 < 2 by omega)⟩
  have HBX := hid hbox
  have HRA := hid hrA
  have HGA := hid hGA
  have HXA := hid hxA
  have HZA := hid hzA
  have HXI := hid hxi
  have hon : o < n := by omega
  clear hr hG hx hz hs0 hrow hrA hGA hxA hzA hS0 hwA hxi hbox
  go_enter Tryd.func95, Tryd.ntmps95
  go_upto_region 1 with fail
  rw [← HS0.out, ← HWA.out]
  obtain ⟨s0, s1⟩ := HBX.out wA (World.Since.refl _ _)
  go_wp2_with fail
  have HN0 := hid (show n0 gs (fun i => decide (z (xi i) = 12)) s e F (o, cl) = if hasS (fun i => gs (F i)) o cl e = true then setB (fun i => decide (z (xi i) = 12)) o cl e F else if hasS (fun i => gs (F i)) o cl (1 - e) = true then setB (fun i => decide (z (xi i) = 12)) o cl (bfr (fun i => gs (F i)) s o) F else F from rfl)
  have HSB := hid (fun wx (h : wA.Since wA.heap.size wx) (v : Int) => setB_any (v := v) wx (HRA.out.of_block (h.block _ HRA.out.lt)) hf3 hf4 (HGA.out.since h) (HXA.out.since h) hxq (HZA.out.since h) hzq hpq HXI.out hn hN ho hcl)
  have HGW := hid (fun wx (h : wA.Since wA.heap.size wx) => (show CS wx B q cap n F wx from ⟨Kp.refl _ _, HGA.out.since h⟩))
  have hbs := bfr_side (g := fun i => gs (F i)) hs (fun i => gs_cases _) o
  have HBF := hid (fun wx (h : wA.Since wA.heap.size wx) => before_any (cl := cl) wx (HRA.out.of_block (h.block _ HRA.out.lt)) hf3 hf0 (((HGA.out.since h).sees0 (by omega))) hon hn)
  obtain ⟨b, hb⟩ : ∃ b, b = bfr (fun i => gs (F i)) s o := ⟨_, rfl⟩
  rw [← hb] at HN0 hbs HBF
  refine (classify_any wA HRA.out hf3 (HGA.out.sees0 (by omega)) ho hcl hn he).mono ?_
  rintro en w1 ⟨rfl, hs1⟩
  have HS1 := hid hs1
  have HCP := hid (show cpOf (fun i => gs (F i)) o cl e = if hasS (fun i => gs (F i)) o cl e = true then e else if hasS (fun i => gs (F i)) o cl (1 - e) = true then 1 - e else 10 from rfl)
  obtain ⟨C, hC⟩ : ∃ C, C = cpOf (fun i => gs (F i)) o cl e := ⟨_, rfl⟩
  rw [← hC] at HCP ⊢
  obtain ⟨t0, t1⟩ := HBX.out w1 hs1
  have HFIN := hid (show ∀ (wx wy : World) (G : Nat → Int), wA.Since wA.heap.size wx → CS wx B q cap n G wy → CS w B q cap n G wy from fun wx wy G h k => CS.base (since2 HSI0.out h) k)
  clear hC hb hs1 s0 s1 hf0 hf3 hf4 HRA HGA HXA HZA HXI
  by_cases q1 : hasS (fun i => gs (F i)) o cl e = true
  · obtain rfl : C = e := by have := HCP.out; rw [if_pos q1] at this; exact this
    have HN1 := hid (show n0 gs (fun i => decide (z (xi i) = 12)) s C F (o, cl) = setB (fun i => decide (z (xi i) = 12)) o cl C F by rw [HN0.out, if_pos q1])
    have b10 : (C == 10) = false := beq_eq_false_iff_ne.2 (by omega)
    have bne : (C != C) = false := by simp
    clear q1 HCP HN0 he
    go_wp2_with fail
    refine (HSB.out w1 HS1.out C).mono ?_
    rintro en w2 ⟨rfl, hc2⟩
    have HC2 := hid hc2
    clear hc2
    go_wp2_with fail
    go_end0
    exact ⟨rfl, by rw [HN1.out]; exact HFIN.out _ _ _ HS1.out HC2.out⟩
  · by_cases q2 : hasS (fun i => gs (F i)) o cl (1 - e) = true
    · obtain rfl : C = 1 - e := by have := HCP.out; rw [if_neg q1, if_pos q2] at this; exact this
      have HN1 := hid (show n0 gs (fun i => decide (z (xi i) = 12)) s e F (o, cl) = setB (fun i => decide (z (xi i) = 12)) o cl b F by rw [HN0.out, if_neg q1, if_pos q2])
      obtain ⟨C, hC⟩ : ∃ C, C = 1 - e := ⟨_, rfl⟩
      rw [← hC]
      have b10 : (C == 10) = false := beq_eq_false_iff_ne.2 (by omega)
      have bne : (C != e) = true := bne_iff_ne.2 (by omega)
      clear q1 q2 HCP HN0 hC
      go_wp2_with fail
      refine (HBF.out w1 HS1.out).mono ?_
      rintro en w2 ⟨rfl, hs2⟩
      have HS2 := hid (since2 HS1.out hs2)
      obtain ⟨t2, t3⟩ := HBX.out w2 HS2.out
      clear hs2 t0 t1 b10 bne
      have b10 : (b == 10) = false := beq_eq_false_iff_ne.2 (by omega)
      by_cases q3 : b = e
      · subst q3
        have beb : (b == b) = true := by simp
        clear he hbs
        go_wp2_with fail
        refine (HSB.out w2 HS2.out b).mono ?_
        rintro en w3 ⟨rfl, hc3⟩
        have HC3 := hid hc3
        clear hc3
        go_wp2_with fail
        go_end0
        exact ⟨rfl, by rw [HN1.out]; exact HFIN.out _ _ _ HS2.out HC3.out⟩
      · have beb : (b == e) = false := beq_eq_false_iff_ne.2 q3
        clear he hbs q3
        go_wp2_with fail
        refine (HSB.out w2 HS2.out b).mono ?_
        rintro en w3 ⟨rfl, hc3⟩
        have HC3 := hid hc3
        clear hc3
        go_wp2_with fail
        go_end0
        exact ⟨rfl, by rw [HN1.out]; exact HFIN.out _ _ _ HS2.out HC3.out⟩
    · obtain rfl : C = 10 := by have := HCP.out; rw [if_neg q1, if_neg q2] at this; exact this
      have HN1 := hid (show n0 gs (fun i => decide (z (xi i) = 12)) s e F (o, cl) = F by rw [HN0.out, if_neg q1, if_neg q2])
      have HG1 := hid (HGW.out w1 HS1.out)
      clear q1 q2 HCP HN0
      go_wp2_with fail
      (try simp only [Exit.inBlock, Exit.then])
      refine bodyPost_ret (results_none rfl _ _ _) rfl ?_
      exact ⟨rfl, by rw [HN1.out]; exact HFIN.out _ _ _ HS1.out HG1.out⟩

set_option maxHeartbeats 4000000 in
set_option maxRecDepth 100000 in
theorem resolveBr_any {p q B cap n N bi oi ci b0 o0 c0 Bp : Nat} {ai a0 : Option Addr} {f : Nat → Value} {xi : Nat → Nat} {z F : Nat → Int} {s e : Int} {v : Value} {L : List (Nat × Nat)} (w : World)
    (hr : w.rowIs p 117 5 f) (hf0 : f 0 = .int .u64 s) (hf2 : f 2 = v) (hf3 : f 3 = .slice (some ⟨q, 0, none⟩) n cap) (hf4 : f 4 = .slice ai n ci)
    (hP : Gw w Bp 132 2 v L.length (fun i => prc (L.getD i (0, 0)))) (hPq : v.ownBlock ≠ some q)
    (hG : Gr w B 67 (.slice (some ⟨q, 0, none⟩) n cap) n (fun i => .int .u64 (F i)))
    (hx : Sees w ai bi oi n ci (fun i => .int .i64 ((xi i : Nat) : Int))) (hxq : bi ≠ q) (hz : Sees w a0 b0 o0 N c0 (fun j => .int .u64 (z j))) (hzq : b0 ≠ q) (hpq : p ≠ q)
    (hxi : ∀ i, i < n → xi i < N) (hn : n ≤ 8589934592) (hN : N ≤ 8589934592) (hL : ∀ k, k < L.length → (L.getD k (0, 0)).1 < (L.getD k (0, 0)).2 ∧ (L.getD k (0, 0)).2 < n) (hs : s = 0 ∨ s = 1) (he : e = 0 ∨ e = 1) (hLn : L.length ≤ n) :
    Calls Tryd.prog 84 #[ptr p, .int .u64 e, .slice a0 N c0] w fun en w' => en = .returned (.tuple #[]) ∧ CS w B q cap n (n0s gs (fun i => decide (z (xi i) = 12)) s e F L) w' := by
  have hv : ∃ ao cv, v = .slice ao L.length cv := by
    rcases hP.2 with ⟨h1, h2⟩ | ⟨g', cap', cur, h1, _⟩
    · exact ⟨none, 0, by rw [h1, h2]⟩
    · exact ⟨_, _, h1⟩
  obtain ⟨ao, cv, rfl⟩ := hv
  have c2 : w.cell? ⟨p, 2, none⟩ = some (.slice ao L.length cv) := by rw [← hf2]; exact hr.cell (by omega)
  have HR := hid hr
  have HGr := hid hG
  have HX := hid hx
  have HZ := hid hz
  have HP := hid hP
  have HXI := hid hxi
  have HLK := hid hL
  have HPQ := hid hPq
  have hzl : (L.length : Int) ≤ 8589934592 := by omega
  clear hr hG hx hz hP hxi hL hPq
  go_enter Tryd.func84, Tryd.ntmps84
  go_wp2_with fail
  go_loopg [7, 13] L.length (fun gg _ i wr => ∃ k : Nat, k ≤ L.length ∧ gg = L.length - k ∧ i = .int .i64 k ∧ Hid (CS w B q cap n (n0s gs (fun i => decide (z (xi i) = 12)) s e F (L.take k)) wr))
  case atStart => exact ⟨0, Nat.zero_le _, rfl, rfl, Kp.refl _ _, HGr.out⟩
  case round =>
    clear c2
    obtain ⟨k, hk, rfl, rfl, HC⟩ := hrel
    by_cases hkn : k < L.length
    · have hkz : (k : Int) < (L.length : Int) := by omega
      obtain ⟨qb, cpb, hv0, _, _⟩ := HP.out.form (by omega)
      simp only [Value.slice.injEq, true_and] at hv0
      obtain ⟨rfl, rfl⟩ := hv0
      have hqq : qb ≠ q := fun h => HPQ.out (by rw [h]; rfl)
      have hPr := HP.out.kept' (w' := wr) (fun j hj => by
        simp only [Value.ownBlock, Option.some.injEq] at hj
        exact HC.out.kept.block j (HP.out.ge j (by simp only [Value.ownBlock, Option.some.injEq]; exact hj)).2 (by omega))
      have d0 : wr.cell? ⟨qb, k * 2, none⟩ = some (.int .i64 (((L.getD k (0, 0)).1 : Nat) : Int)) := hPr.cell (c := 0) (fun _ _ => rfl) hkn (by omega) _ rfl
      have d1 : wr.cell? ⟨qb, k * 2 + 1, none⟩ = some (.int .i64 (((L.getD k (0, 0)).2 : Nat) : Int)) := hPr.cell (c := 1) (fun _ _ => rfl) hkn (by omega) _ rfl
      obtain ⟨l1, l2⟩ := HLK.out k hkn
      have HTK := hid (show L.take (k + 1) = L.take k ++ [L.getD k (0, 0)] by
        rw [List.take_add_one, List.getElem?_eq_getElem hkn, List.getD_eq_getElem?_getD, List.getElem?_eq_getElem hkn]; rfl)
      obtain ⟨y, hy⟩ : ∃ y, y = L.getD k (0, 0) := ⟨_, rfl⟩
      rw [← hy] at d0 d1 l1 l2 HTK
      obtain ⟨T, hT⟩ : ∃ T, T = n0s gs (fun i => decide (z (xi i) = 12)) s e F (L.take k) := ⟨_, rfl⟩
      rw [← hT] at HC
      have HT := hid (show n0s gs (fun i => decide (z (xi i) = 12)) s e F (L.take (k + 1)) = n0 gs (fun i => decide (z (xi i) = 12)) s e T y by
        rw [HTK.out]; unfold n0s; rw [List.foldl_append, hT]; rfl)
      clear hy hT hPr HTK
      go_upto_region 3 with fail
      have hsB : wr.Since wr.heap.size (wr.alloc (.cells #[.int .i64 (y.1 : Nat), .int .i64 (y.2 : Nat)] 132)) := (World.Since.refl _ _).alloc (Nat.le_refl _) _
      have hrow := World.rowIs_alloc wr #[Value.int .i64 (y.1 : Nat), .int .i64 (y.2 : Nat)] 132 (fun i => (#[Value.int .i64 (y.1 : Nat), .int .i64 (y.2 : Nat)][i]?).getD undef) (fun i hi => by rw [Array.getElem?_eq_getElem hi]; rfl)
      obtain ⟨S1, hS1⟩ : ∃ S1, S1 = wr.heap.size := ⟨_, rfl⟩
      have HS1 := hid hS1
      obtain ⟨wB, hwB⟩ : ∃ wB, wB = wr.alloc (.cells #[.int .i64 (y.1 : Nat), .int .i64 (y.2 : Nat)] 132) := ⟨_, rfl⟩
      have HWB := hid hwB
      rw [← hwB] at hsB hrow
      rw [← hS1] at hrow
      have s0 : wB.cell? ⟨S1, 0, none⟩ = some (.int .i64 (y.1 : Nat)) := hrow.cell (show 0 < 2 by omega)
      have s1 : wB.cell? ⟨S1, 1, none⟩ = some (.int .i64 (y.2 : Nat)) := hrow.cell (show 1 < 2 by omega)
      have hCB : CS w B q cap n T wB := HC.out.since hsB
      have HAS := hid (assign_any (o := y.1) (cl := y.2) (s := s) (e := e) (F := T) wB (hCB.kept.row HR.out hpq) hf0 hf3 hf4 hCB.types (hCB.kept.sees HX.out (fun _ => hxq)) hxq (hCB.kept.sees HZ.out (fun _ => hzq)) hzq hpq HXI.out hn hN l1 l2 hs he)
      have HCB := hid hCB
      clear hsB hrow hS1 hwB hCB d0 d1
      rw [← HS1.out, ← HWB.out]
      go_wp2_with fail
      refine HAS.out.mono ?_
      rintro en w5 ⟨rfl, hc5⟩
      have HC5 : Hid (CS w B q cap n (n0s gs (fun i => decide (z (xi i) = 12)) s e F (L.take (k + 1))) w5) := by
        rw [HT.out]
        exact ⟨HCB.out.kept.trans hc5.kept, hc5.types⟩
      clear hc5 s0 s1
      go_wp2_with fail
      go_roundg (L.length - (k + 1))
      case rel => exact ⟨k + 1, by omega, rfl, by go_num, HC5⟩
      case measure => omega
    · obtain rfl : k = L.length := by omega
      rw [List.take_length] at HC
      go_wp2_with fail
      go_end0
      exact ⟨rfl, HC.out⟩
end Go.Proofs.YtkocpijloiamcaaDoor

/- bidi.resolvePairedBrackets. -/
namespace Go.Proofs.YtkocpijloiamcaaDoor
open Go.RowKit Go.Lib Go.Sort
set_option linter.unusedVariables false
set_option linter.unusedSimpArgs false

theorem and_one_i8q : ∀ k : Fin 128, bits BinOp.and IntKind.i8 ((k : Nat) : Int) 1 = (((k : Nat) % 2 : Nat) : Int) := by decide

theorem since_of_drew' {w w' : World} (h : w.drew.Since w.drew.heap.size w') : w.Since w.heap.size w' := ⟨h.os, h.tape, h.output, h.size, h.block⟩

set_option maxHeartbeats 4000000 in
set_option maxRecDepth 100000 in
theorem resolvePaired_any {S P q B cap n bi oi ci b0 o0 c0 bt ot ct bv ov cv N : Nat} {ai a0 at_ av : Option Addr} {f : Nat → Value} {xi : Nat → Nat} {z F kd0 vl0 : Nat → Int} {s lv : Int} (w : World)
    (hr : w.rowIs S 109 7 f) (hf0 : f 0 = ptr P) (hf1 : f 1 = .slice ai n ci) (hf2 : f 2 = .slice (some ⟨q, 0, none⟩) n cap) (hf4 : f 4 = .int .i8 lv) (hf5 : f 5 = .int .u64 s)
    (p0 : w.cell? ⟨P, 0, none⟩ = some (.slice a0 N c0)) (p1 : w.cell? ⟨P, 1, none⟩ = some (.slice at_ N ct)) (p2 : w.cell? ⟨P, 2, none⟩ = some (.slice av N cv))
    (hG : Gr w B 67 (.slice (some ⟨q, 0, none⟩) n cap) n (fun i => .int .u64 (F i)))
    (hx : Sees w ai bi oi n ci (fun i => .int .i64 ((xi i : Nat) : Int))) (hxq : bi ≠ q) (hz : Sees w a0 b0 o0 N c0 (fun j => .int .u64 (z j))) (hzq : b0 ≠ q)
    (hk : Sees w at_ bt ot N ct (fun j => .int .u8 (kd0 j))) (hv : Sees w av bv ov N cv (fun j => .int .i32 (vl0 j)))
    (hxi : ∀ i, i < n → xi i < N) (hn : n ≤ 8589934592) (hnb : n ≤ 2147483647 ∨ ∀ j, j < N → kd0 j = 0) (hN : N ≤ 8589934592) (hkd : ∀ j, j < N → kd0 j = 0 ∨ kd0 j = 1 ∨ kd0 j = 2) (hs : s = 0 ∨ s = 1) (hl0 : 0 ≤ lv) (hl1 : lv ≤ 127) (h0 : 0 < n) :
    Calls Tryd.prog 63 #[ptr S] w fun en w' => en = .returned (.tuple #[]) ∧ CS w B q cap n (n0s gs (fun i => decide (z (xi i) = 12)) s (lv % 2) F (prs (bk (fun i => kd0 (xi i)) (fun i => vl0 (xi i)) (fun i => decide (F i = 10)) n).cl n)) w' := by
  have c1 : w.cell? ⟨S, 1, none⟩ = some (.slice ai n ci) := by rw [← hf1]; exact hr.cell (by omega)
  have c2 : w.cell? ⟨S, 2, none⟩ = some (.slice (some ⟨q, 0, none⟩) n cap) := by rw [← hf2]; exact hr.cell (by omega)
  have c5 : w.cell? ⟨S, 5, none⟩ = some (.int .u64 s) := by rw [← hf5]; exact hr.cell (by omega)
  have hS := hr.lt
  have HK := hid (fun wx (h : w.Since w.heap.size wx) => (show wx.cell? ⟨S, 1, none⟩ = some (.slice ai n ci) ∧ wx.cell? ⟨S, 2, none⟩ = some (.slice (some ⟨q, 0, none⟩) n cap) ∧ wx.cell? ⟨S, 5, none⟩ = some (.int .u64 s) from ⟨(h.cell hS).trans c1, (h.cell hS).trans c2, (h.cell hS).trans c5⟩))
  go_enter Tryd.func63, Tryd.ntmps63
  go_upto_region 0 with fail
  go_cut [2] (fun v wx => ∃ p L : Nat, v = ptr p ∧ wx.rowIs p 117 5 (bpf (.int .u64 s) (ptr L) (.slice none 0 0) (.slice (some ⟨q, 0, none⟩) n cap) (.slice ai n ci)) ∧ Ls wx L [] ∧ p ≠ L ∧ w.heap.size ≤ p ∧ w.heap.size ≤ L ∧ w.Since w.heap.size wx)
  case first =>
    clear hr hf0 hf1 hf2 hf4 hf5 p0 p1 p2 hG hx hz hk hv
    have hsd : w.Since w.heap.size w.drew := (World.Since.refl _ _).drew
    have HKD := hid (show (w.drew).cell? ⟨S, 1, none⟩ = some (.slice ai n ci) ∧ (w.drew).cell? ⟨S, 2, none⟩ = some (.slice (some ⟨q, 0, none⟩) n cap) ∧ (w.drew).cell? ⟨S, 5, none⟩ = some (.int .u64 s) from HK.out _ hsd)
    have HKA := hid (show ∀ X, ((w.alloc X).drew).cell? ⟨S, 1, none⟩ = some (.slice ai n ci) ∧ ((w.alloc X).drew).cell? ⟨S, 2, none⟩ = some (.slice (some ⟨q, 0, none⟩) n cap) ∧ ((w.alloc X).drew).cell? ⟨S, 5, none⟩ = some (.int .u64 s) from fun X => HK.out _ (((World.Since.refl w.heap.size w).alloc (Nat.le_refl _) X).drew))
    have HKB := hid (show ∀ w1, w.drew.Since w.drew.heap.size w1 → ((w1).cell? ⟨S, 1, none⟩ = some (.slice ai n ci) ∧ (w1).cell? ⟨S, 2, none⟩ = some (.slice (some ⟨q, 0, none⟩) n cap) ∧ (w1).cell? ⟨S, 5, none⟩ = some (.int .u64 s)) ∧ ∀ X, (w1.alloc X).cell? ⟨S, 1, none⟩ = some (.slice ai n ci) ∧ (w1.alloc X).cell? ⟨S, 2, none⟩ = some (.slice (some ⟨q, 0, none⟩) n cap) ∧ (w1.alloc X).cell? ⟨S, 5, none⟩ = some (.int .u64 s) from fun w1 h => ⟨HK.out _ (since_of_drew' h), fun X => HK.out _ ((since_of_drew' h).alloc (since_of_drew' h).size X)⟩)
    have HKC := hid (show ∀ X w1, (w.alloc X).drew.Since (w.alloc X).drew.heap.size w1 → ((w1).cell? ⟨S, 1, none⟩ = some (.slice ai n ci) ∧ (w1).cell? ⟨S, 2, none⟩ = some (.slice (some ⟨q, 0, none⟩) n cap) ∧ (w1).cell? ⟨S, 5, none⟩ = some (.int .u64 s)) ∧ ∀ v0 v1 v2 v3 v4, ((((((w1.setCell ⟨w.heap.size, 0, none⟩ v0).setCell ⟨w.heap.size, 1, none⟩ v1).setCell ⟨w.heap.size, 2, none⟩ v2).setCell ⟨w.heap.size, 3, none⟩ v3).setCell ⟨w.heap.size, 4, none⟩ v4)).cell? ⟨S, 1, none⟩ = some (.slice ai n ci) ∧ ((((((w1.setCell ⟨w.heap.size, 0, none⟩ v0).setCell ⟨w.heap.size, 1, none⟩ v1).setCell ⟨w.heap.size, 2, none⟩ v2).setCell ⟨w.heap.size, 3, none⟩ v3).setCell ⟨w.heap.size, 4, none⟩ v4)).cell? ⟨S, 2, none⟩ = some (.slice (some ⟨q, 0, none⟩) n cap) ∧ ((((((w1.setCell ⟨w.heap.size, 0, none⟩ v0).setCell ⟨w.heap.size, 1, none⟩ v1).setCell ⟨w.heap.size, 2, none⟩ v2).setCell ⟨w.heap.size, 3, none⟩ v3).setCell ⟨w.heap.size, 4, none⟩ v4)).cell? ⟨S, 5, none⟩ = some (.int .u64 s) from fun X w1 h =>
      have h1 : w.Since w.heap.size w1 := since2 (((World.Since.refl w.heap.size w).alloc (Nat.le_refl _) X).drew) h
      ⟨HK.out _ h1, fun v0 v1 v2 v3 v4 => HK.out _ (((((h1.setCell (a := ⟨w.heap.size, 0, none⟩) (Nat.le_refl _) v0).setCell (a := ⟨w.heap.size, 1, none⟩) (Nat.le_refl _) v1).setCell (a := ⟨w.heap.size, 2, none⟩) (Nat.le_refl _) v2).setCell (a := ⟨w.heap.size, 3, none⟩) (Nat.le_refl _) v3).setCell (a := ⟨w.heap.size, 4, none⟩) (Nat.le_refl _) v4)⟩)
    have ZR := hid (show ∀ w1, (w.alloc (.cells #[.int .u64 0, .pointer none, .slice none 0 0, .slice none 0 0, .slice none 0 0] 117)).drew.Since (w.alloc (.cells #[.int .u64 0, .pointer none, .slice none 0 0, .slice none 0 0, .slice none 0 0] 117)).drew.heap.size w1 → w1.rowIs w.heap.size 117 5 (bpf (.int .u64 0) (.pointer none) (.slice none 0 0) (.slice none 0 0) (.slice none 0 0)) from fun w1 h => by
      have h2 := World.rowIs_alloc w #[.int .u64 0, .pointer none, .slice none 0 0, .slice none 0 0, .slice none 0 0] 117 (bpf (.int .u64 0) (.pointer none) (.slice none 0 0) (.slice none 0 0) (.slice none 0 0)) (fun i hi => match i, hi with
        | 0, _ => rfl
        | 1, _ => rfl
        | 2, _ => rfl
        | 3, _ => rfl
        | 4, _ => rfl)
      have h3 : ((w.alloc (.cells #[.int .u64 0, .pointer none, .slice none 0 0, .slice none 0 0, .slice none 0 0] 117)).drew).rowIs w.heap.size 117 5 (bpf (.int .u64 0) (.pointer none) (.slice none 0 0) (.slice none 0 0) (.slice none 0 0)) := h2.of_block rfl
      exact h3.of_block (h.block _ h3.lt))
    go_region_held3 (fun wx => wx.cell? ⟨S, 1, none⟩ = some (.slice ai n ci) ∧ wx.cell? ⟨S, 2, none⟩ = some (.slice (some ⟨q, 0, none⟩) n cap) ∧ wx.cell? ⟨S, 5, none⟩ = some (.int .u64 s)) (first | with_reducible exact HKD.out | with_reducible exact HKA.out _ | with_reducible exact (HKB.out _ hs1).1 | with_reducible exact (HKB.out _ hs1).2 _ | with_reducible exact (HKC.out _ _ hs1).1 | with_reducible exact (HKC.out _ _ hs1).2 _ _ _ _ _ | go_show) (first | (refine (listNew_any _).mono ?_; rintro e w1 ⟨L, rfl, hLge, hL1, hs1⟩; try (have hzr := ZR.out w1 hs1; have z0 := hzr.cell (i := 0) (by omega); have z1 := hzr.cell (i := 1) (by omega); have z2 := hzr.cell (i := 2) (by omega); have z3 := hzr.cell (i := 3) (by omega); have z4 := hzr.cell (i := 4) (by omega); have y0 := hzr.frozen 0; have y1 := hzr.frozen 1; have y2 := hzr.frozen 2; have y3 := hzr.frozen 3; have y4 := hzr.frozen 4)))
    · have hs2 := since_of_drew' hs1
      have hrow := World.rowIs_alloc w1 #[.int .u64 s, .pointer (some ⟨L, 0, none⟩), .slice none 0 0, .slice (some ⟨q, 0, none⟩) n cap, .slice ai n ci] 117 (bpf (.int .u64 s) (ptr L) (.slice none 0 0) (.slice (some ⟨q, 0, none⟩) n cap) (.slice ai n ci)) (fun i hi => match i, hi with
        | 0, _ => rfl
        | 1, _ => rfl
        | 2, _ => rfl
        | 3, _ => rfl
        | 4, _ => rfl)
      have hLlt := hL1.lt L List.mem_cons_self
      go_wp2_with fail
      go_meet
      exact ⟨w1.heap.size, L, rfl, hrow, hL1.since ((World.Since.refl _ _).alloc (Nat.le_refl _) _), by omega, hs2.size, hLge, hs2.alloc hs2.size _⟩
    · have hs2 : w.Since w.heap.size w1 := since2 (((World.Since.refl w.heap.size w).alloc (Nat.le_refl _) _).drew) hs1
      have hL3 : w.heap.size + 1 ≤ L := by
        have h1 := hLge
        have h2 : ((w.alloc (.cells #[.int .u64 0, .pointer none, .slice none 0 0, .slice none 0 0, .slice none 0 0] 117)).drew).heap.size = w.heap.size + 1 := World.size_alloc _ _
        rw [h2] at h1; exact h1
      have hr5 := ((((hzr.set 0 (.int .u64 s)).set 1 (.pointer (some ⟨L, 0, none⟩))).set 2 (.slice none 0 0)).set 3 (.slice (some ⟨q, 0, none⟩) n cap)).set 4 (.slice ai n ci)
      have hk5 : Kp (fun k => k = w.heap.size) w1 (((((w1.setCell ⟨w.heap.size, 0, none⟩ (.int .u64 s)).setCell ⟨w.heap.size, 1, none⟩ (.pointer (some ⟨L, 0, none⟩))).setCell ⟨w.heap.size, 2, none⟩ (.slice none 0 0)).setCell ⟨w.heap.size, 3, none⟩ (.slice (some ⟨q, 0, none⟩) n cap)).setCell ⟨w.heap.size, 4, none⟩ (.slice ai n ci)) :=
        (((((Kp.refl (fun k => k = w.heap.size) w1).setCell (a := ⟨w.heap.size, 0, none⟩) (.inl rfl) _).setCell (a := ⟨w.heap.size, 1, none⟩) (.inl rfl) _).setCell (a := ⟨w.heap.size, 2, none⟩) (.inl rfl) _).setCell (a := ⟨w.heap.size, 3, none⟩) (.inl rfl) _).setCell (a := ⟨w.heap.size, 4, none⟩) (.inl rfl) _
      generalize (((((w1.setCell ⟨w.heap.size, 0, none⟩ (.int .u64 s)).setCell ⟨w.heap.size, 1, none⟩ (.pointer (some ⟨L, 0, none⟩))).setCell ⟨w.heap.size, 2, none⟩ (.slice none 0 0)).setCell ⟨w.heap.size, 3, none⟩ (.slice (some ⟨q, 0, none⟩) n cap)).setCell ⟨w.heap.size, 4, none⟩ (.slice ai n ci)) = w5 at hr5 hk5 ⊢
      go_wp2_with fail
      go_meet
      exact ⟨w.heap.size, L, rfl, hr5.congr (fun i hi => match i, hi with
        | 0, _ => rfl
        | 1, _ => rfl
        | 2, _ => rfl
        | 3, _ => rfl
        | 4, _ => rfl), hL1.kept (fun k hk => hk5.block k (hL1.lt k hk) (fun e => absurd (show k = L by simpa using hk) (by omega))), by omega, Nat.le_refl _, by omega, since_kp hs2 hk5 hs2.size (fun k hk => by rw [hk]; exact Nat.le_refl _)⟩
  obtain ⟨p, L, rfl, hrow, hL, hpL, hpw, hLw, hsi⟩ := hcut
  obtain ⟨v, rfl⟩ := Int.eq_ofNat_of_zero_le hl0
  have hand := and_one_i8q ⟨v, by omega⟩
  have hrS := hr.of_block (hsi.block _ hS)
  have d0 : wc.cell? ⟨S, 0, none⟩ = some (ptr P) := by rw [← hf0]; exact hrS.cell (by omega)
  have d4 : wc.cell? ⟨S, 4, none⟩ = some (.int .i8 (v : Int)) := by rw [← hf4]; exact hrS.cell (by omega)
  have hPs : P < w.heap.size := World.block_lt_of_cell? _ _ p0
  have q0 := (hsi.cell hPs).trans p0
  have q1 := (hsi.cell hPs).trans p1
  have q2 := (hsi.cell hPs).trans p2
  have hsd : wc.Since wc.heap.size wc.drew := (World.Since.refl _ _).drew
  obtain ⟨w2, hw2⟩ : ∃ w2, w2 = wc.drew := ⟨_, rfl⟩
  have HW2 := hid hw2
  rw [← hw2] at hsd
  have hsi2 := since2 hsi hsd
  have hGc := hG.since hsi2
  have hxc := hx.since hsi2
  have hzc := hz.since hsi2
  have hkc := hk.since hsi2
  have hvc := hv.since hsi2
  have hql : q < w.heap.size := (hG.ge q rfl).2
  have hbl : ∀ {k : Nat} {ao : Option Addr} {o n' c : Nat} {g : Nat → Value}, Sees w ao k o n' c g → 0 < n' → k ≠ p ∧ k ≠ L := fun h h0 => by have := h.lt h0; omega
  have hNp : 0 < N := by have := hxi 0 h0; omega
  have hrow2 := hrow.of_block (hsd.block _ hrow.lt)
  have hL2 := hL.since hsd
  have hloc := locate_any (xi := xi) (kd0 := kd0) (vl0 := vl0) (c := F) w2 hrow2 hL2 hpL hxc (fun h => hbl hx h) (hGc.sees0 h0) (fun _ => by omega) hkc (fun h => hbl hk h) hvc (fun h => hbl hv h) hxi hn hnb hN hkd
  have hzz : w.heap.size ≤ w2.heap.size := hsi2.size
  have hpq : p ≠ q := by omega
  have hplt := hrow2.lt
  have hLlt := hL2.lt L List.mem_cons_self
  have hbiw : bi < w.heap.size := hx.lt h0
  have hb0w : b0 < w.heap.size := hz.lt hNp
  have hSw := hrS.lt
  have HRS : Hid (∀ w3, Kp (fun k => k = p ∨ k = L) w2 w3 → w3.cell? ⟨S, 0, none⟩ = some (ptr P) ∧ w3.cell? ⟨P, 0, none⟩ = some (.slice a0 N c0)) := fun w3 h =>
    ⟨h.cell ((hsd.cell (a := ⟨S, 0, none⟩) hSw).trans d0) (by show ¬ (S = p ∨ S = L); omega), h.cell ((hsd.cell (a := ⟨P, 0, none⟩) (Nat.lt_of_lt_of_le hPs hsi.size)).trans q0) (by show ¬ (P = p ∨ P = L); omega)⟩
  have HRES : Hid (∀ (w3 : World) (v7 : Value) (d : Array (Nat × Nat)) (e : Int), w3.rowIs p 117 5 (bpf (.int .u64 s) (ptr L) v7 (.slice (some ⟨q, 0, none⟩) n cap) (.slice ai n ci)) → Gw w3 w2.heap.size 132 2 v7 d.size (fun i => prc d[i]!) →
      d.toList = prs (bk (fun i => kd0 (xi i)) (fun i => vl0 (xi i)) (fun i => decide (F i = 10)) n).cl n → Kp (fun k => k = p ∨ k = L) w2 w3 → (e = 0 ∨ e = 1) →
      Calls Tryd.prog 84 #[ptr p, .int .u64 e, .slice a0 N c0] w3 fun en w' => en = .returned (.tuple #[]) ∧ CS w B q cap n (n0s gs (fun i => decide (z (xi i) = 12)) s e F (prs (bk (fun i => kd0 (xi i)) (fun i => vl0 (xi i)) (fun i => decide (F i = 10)) n).cl n)) w') := by
    intro w3 v7 d e hr7 hg7 hd7 hk7 he
    rw [← hd7]
    have hmem : ∀ k, k < d.toList.length → (d.toList.getD k (0, 0)).1 < (d.toList.getD k (0, 0)).2 ∧ (d.toList.getD k (0, 0)).2 < n := fun k hk => by
      have h1 : d.toList.getD k (0, 0) ∈ d.toList := by
        rw [List.getD_eq_getElem?_getD, List.getElem?_eq_getElem hk]; exact List.getElem_mem hk
      have h2 := h1
      rw [hd7] at h2
      obtain ⟨y, hy⟩ : ∃ y, y = d.toList.getD k (0, 0) := ⟨_, rfl⟩
      rw [hd7] at hy
      rw [← hy] at h2
      rw [hd7, ← hy]
      obtain ⟨a, b, c⟩ := prs_mem.1 h2
      have h3 := (bk_ok (kd := fun i => kd0 (xi i)) (vl := fun i => vl0 (xi i)) (nn := fun i => decide (F i = 10)) n).pr _ b
      rw [c]
      exact ⟨h3.1, h3.2.1⟩
    have hlen : d.toList.length ≤ n := by rw [hd7]; exact prs_len
    have hg7' : Gw w3 w2.heap.size 132 2 v7 d.toList.length (fun i => prc (d.toList.getD i (0, 0))) := by
      rw [Array.length_toList]
      exact hg7.congr (fun i hi => by
        rw [List.getD_eq_getElem?_getD, Array.getElem?_toList, Array.getElem?_eq_getElem hi, getElem!_pos d i hi]; rfl)
    have hGr3 : Gr w3 B 67 (.slice (some ⟨q, 0, none⟩) n cap) n (fun i => .int .u64 (F i)) := hGc.kept' (fun k hk => by
      simp only [Value.ownBlock, Option.some.injEq] at hk
      exact hk7.block k (by omega) (by omega))
    have hs3 : w.Since w.heap.size w3 := since_kp hsi2 hk7 hsi2.size (fun k hk => by omega)
    exact (resolveBr_any (L := d.toList) (e := e) w3 hr7 rfl rfl rfl rfl hg7' (fun h => by have := (hg7.ge q h).1; omega) hGr3 (hk7.sees hxc (fun _ => by omega)) hxq (hk7.sees hzc (fun _ => by omega)) hzq hpq hxi (by omega) hN hmem hs he hlen).mono (fun en w' ⟨h1, h2⟩ => ⟨h1, CS.base hs3 h2⟩)
  have HLOC := hid hloc
  clear hr hf0 hf1 hf2 hf4 hf5 p0 p1 p2 hG hk hv c1 c2 c5 HK hloc hsi hGc hxc hzc hkc hvc hrS hrow hL hx hz hxi hsi2 hsd hw2 hrow2 hL2
  simp only at hand
  by_cases hev : v % 2 = 0
  · rw [hev] at hand
    have HV := hid (show (v : Int) % 2 = 0 by omega)
    clear hev
    go_upto_region 4 with fail
    go_still_tail 14, (by kernel_rfl)
    change wpList _ _ _ _ _ wc.drew
    rw [← HW2.out]
    clear d0 d4 q0 q1 q2
    go_wp2_with fail
    refine HLOC.out.mono ?_
    rintro en w3 ⟨rfl, v7, d, hr7, hg7, hd7, hk7⟩
    obtain ⟨r0, r1⟩ := HRS.out w3 hk7
    have HR := hid (HRES.out w3 v7 d 0 hr7 hg7 hd7 hk7 (by omega))
    clear hr7 hg7 hd7 hk7 HLOC HRES HRS
    go_wp2_with fail
    refine HR.out.mono ?_
    rintro en w4 ⟨rfl, hc⟩
    have HC := hid hc
    clear hc
    go_wp2_with fail
    go_end0
    exact ⟨rfl, by rw [HV.out]; exact HC.out⟩
  · rw [show v % 2 = 1 by omega] at hand
    have HV := hid (show (v : Int) % 2 = 1 by omega)
    clear hev
    go_upto_region 4 with fail
    go_still_tail 14, (by kernel_rfl)
    change wpList _ _ _ _ _ wc.drew
    rw [← HW2.out]
    clear d0 d4 q0 q1 q2
    go_wp2_with fail
    refine HLOC.out.mono ?_
    rintro en w3 ⟨rfl, v7, d, hr7, hg7, hd7, hk7⟩
    obtain ⟨r0, r1⟩ := HRS.out w3 hk7
    have HR := hid (HRES.out w3 v7 d 1 hr7 hg7 hd7 hk7 (by omega))
    clear hr7 hg7 hd7 hk7 HLOC HRES HRS
    go_wp2_with fail
    refine HR.out.mono ?_
    rintro en w4 ⟨rfl, hc⟩
    have HC := hid hc
    clear hc
    go_wp2_with fail
    go_end0
    exact ⟨rfl, by rw [HV.out]; exact HC.out⟩
end Go.Proofs.YtkocpijloiamcaaDoor
