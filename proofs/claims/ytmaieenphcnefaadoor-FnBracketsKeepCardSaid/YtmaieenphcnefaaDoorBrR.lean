/- (*bracketPairer).assignBracketType, .resolveBrackets. -/
import Derived.Test.YtmaieenphcnefaaDoorBrS
import Derived.Test.YtmaieenphcnefaaDoorPrI
namespace Go.Proofs.YtmaieenphcnefaaDoor
open Go.RowKit Go.Lib Go.Sort
set_option linter.unusedVariables false
set_option linter.unusedSimpArgs false

theorem CS.base {w w1 wx : World} {B q cap n : Nat} {F : Nat → Int} (s : w.Since w.heap.size w1) (h : CS w1 B q cap n F wx) : CS w B q cap n F wx := ⟨(Kp.since s _).trans h.kept, h.types⟩

set_option maxHeartbeats 4000000 in
set_option maxRecDepth 100000 in
theorem assign_any {p q B cap n N bi oi ci b0 o0 c0 o cl : Nat} {ai a0 : Option Addr} {f : Nat → Value} {xi : Nat → Nat} {z F : Nat → Int} {s e : Int} (w : World)
    (hr : w.rowIs p 64 5 f) (hf0 : f 0 = .int .u64 s) (hf3 : f 3 = .slice (some ⟨q, 0, none⟩) n cap) (hf4 : f 4 = .slice ai n ci)
    (hG : Gr w B 56 (.slice (some ⟨q, 0, none⟩) n cap) n (fun i => .int .u64 (F i)))
    (hx : Sees w ai bi oi n ci (fun i => .int .i64 ((xi i : Nat) : Int))) (hxq : bi ≠ q) (hz : Sees w a0 b0 o0 N c0 (fun j => .int .u64 (z j))) (hzq : b0 ≠ q) (hpq : p ≠ q)
    (hxi : ∀ i, i < n → xi i < N) (hn : n ≤ 4294967296) (hN : N ≤ 4294967296) (ho : o < cl) (hcl : cl < n) (hs : s = 0 ∨ s = 1) (he : e = 0 ∨ e = 1) :
    Calls Tryd.prog 60 #[ptr p, .agg #[.int .i64 o, .int .i64 cl], .int .u64 e, .slice a0 N c0] w fun en w' => en = .returned (.tuple #[]) ∧ CS w B q cap n (n0 gs (fun i => decide (z (xi i) = 12)) s e F (o, cl)) w' := by
  have hs0 : w.Since w.heap.size (w.alloc (.cells #[.int .i64 o, .int .i64 cl] 69)) := (World.Since.refl _ _).alloc (Nat.le_refl _) _
  have hrow := World.rowIs_alloc w #[Value.int .i64 (o : Nat), .int .i64 (cl : Nat)] 69 (fun i => (#[Value.int .i64 (o : Nat), .int .i64 (cl : Nat)][i]?).getD undef) (fun i hi => by rw [Array.getElem?_eq_getElem hi]; rfl)
  obtain ⟨S0, hS0⟩ : ∃ S0, S0 = w.heap.size := ⟨_, rfl⟩
  have HS0 := hid hS0
  obtain ⟨wA, hwA⟩ : ∃ wA, wA = w.alloc (.cells #[.int .i64 (o : Nat), .int .i64 (cl : Nat)] 69) := ⟨_, rfl⟩
  have HWA := hid hwA
  rw [← hwA] at hs0 hrow
  rw [← hS0] at hrow
  have HSI0 := hid hs0
  have hrA : wA.rowIs p 64 5 f := hr.of_block (hs0.block _ hr.lt)
  have hGA := hG.since hs0
  have hxA := hx.since hs0
  have hzA := hz.since hs0
  have hbox : ∀ wx, wA.Since wA.heap.size wx → wx.cell? ⟨S0, 0, none⟩ = some (.int .i64 (o : Nat)) ∧ wx.cell? ⟨S0, 1, none⟩ = some (.int .i64 (cl : Nat)) := fun wx h => by
    have h2 := hrow.of_block (h.block _ hrow.lt)
    exact ⟨h2.cell (show 0 < 2 by omega), h2.cell (show 1 < 2 by omega)⟩
  have HBX := hid hbox
  have HRA := hid hrA
  have HGA := hid hGA
  have HXA := hid hxA
  have HZA := hid hzA
  have HXI := hid hxi
  have hon : o < n := by omega
  clear hr hG hx hz hs0 hrow hrA hGA hxA hzA hS0 hwA hxi hbox
  go_enter Tryd.func60, Tryd.ntmps60
  go_upto_region 1 with fail
  rw [← HS0.out, ← HWA.out]
  obtain ⟨s0, s1⟩ := HBX.out wA (World.Since.refl _ _)
  go_wp2_with fail
  have HN0 := hid (show n0 gs (fun i => decide (z (xi i) = 12)) s e F (o, cl) = if hasS (fun i => gs (F i)) o cl e = true then setB (fun i => decide (z (xi i) = 12)) o cl e F else if hasS (fun i => gs (F i)) o cl (1 - e) = true then setB (fun i => decide (z (xi i) = 12)) o cl (bfr (fun i => gs (F i)) s o) F else F from rfl)
  have HSB := hid (fun wx (h : wA.Since wA.heap.size wx) (v : Int) => setB_any (v := v) wx (HRA.out.of_block (h.block _ HRA.out.lt)) hf3 hf4 (HGA.out.since h) (HXA.out.since h) hxq (HZA.out.since h) hzq hpq HXI.out hn hN ho hcl)
  have HGW := hid (fun wx (h : wA.Since wA.heap.size wx) => (show CS wx B q cap n F wx from ⟨Kp.refl _ _, HGA.out.since h⟩))
  have hbs := bfr_side (g := fun i => gs (F i)) hs (fun i => gs_cases _) o
  have HBF := hid (fun wx (h : wA.Since wA.heap.size wx) => before_any (cl := cl) wx (HRA.out.of_block (h.block _ HRA.out.lt)) hf3 hf0 (((HGA.out.since h).sees0 (by omega))) hon hn)
  obtain ⟨b, hb⟩ : ∃ b, b = bfr (fun i => gs (F i)) s o := ⟨_, rfl⟩
  rw [← hb] at HN0 hbs HBF
  refine (classify_any wA HRA.out hf3 (HGA.out.sees0 (by omega)) ho hcl hn he).mono ?_
  rintro en w1 ⟨rfl, hs1⟩
  have HS1 := hid hs1
  have HCP := hid (show cpOf (fun i => gs (F i)) o cl e = if hasS (fun i => gs (F i)) o cl e = true then e else if hasS (fun i => gs (F i)) o cl (1 - e) = true then 1 - e else 10 from rfl)
  obtain ⟨C, hC⟩ : ∃ C, C = cpOf (fun i => gs (F i)) o cl e := ⟨_, rfl⟩
  rw [← hC] at HCP ⊢
  obtain ⟨t0, t1⟩ := HBX.out w1 hs1
  have HFIN := hid (show ∀ (wx wy : World) (G : Nat → Int), wA.Since wA.heap.size wx → CS wx B q cap n G wy → CS w B q cap n G wy from fun wx wy G h k => CS.base (since2 HSI0.out h) k)
  clear hC hb hs1 s0 s1 hf0 hf3 hf4 HRA HGA HXA HZA HXI
  by_cases q1 : hasS (fun i => gs (F i)) o cl e = true
  · obtain rfl : C = e := by have := HCP.out; rw [if_pos q1] at this; exact this
    have HN1 := hid (show n0 gs (fun i => decide (z (xi i) = 12)) s C F (o, cl) = setB (fun i => decide (z (xi i) = 12)) o cl C F by rw [HN0.out, if_pos q1])
    have b10 : (C == 10) = false := beq_eq_false_iff_ne.2 (by omega)
    have bne : (C != C) = false := by simp
    clear q1 HCP HN0 he
    go_wp2_with fail
    refine (HSB.out w1 HS1.out C).mono ?_
    rintro en w2 ⟨rfl, hc2⟩
    have HC2 := hid hc2
    clear hc2
    go_wp2_with fail
    go_end0
    exact ⟨rfl, by rw [HN1.out]; exact HFIN.out _ _ _ HS1.out HC2.out⟩
  · by_cases q2 : hasS (fun i => gs (F i)) o cl (1 - e) = true
    · obtain rfl : C = 1 - e := by have := HCP.out; rw [if_neg q1, if_pos q2] at this; exact this
      have HN1 := hid (show n0 gs (fun i => decide (z (xi i) = 12)) s e F (o, cl) = setB (fun i => decide (z (xi i) = 12)) o cl b F by rw [HN0.out, if_neg q1, if_pos q2])
      obtain ⟨C, hC⟩ : ∃ C, C = 1 - e := ⟨_, rfl⟩
      rw [← hC]
      have b10 : (C == 10) = false := beq_eq_false_iff_ne.2 (by omega)
      have bne : (C != e) = true := bne_iff_ne.2 (by omega)
      clear q1 q2 HCP HN0 hC
      go_wp2_with fail
      refine (HBF.out w1 HS1.out).mono ?_
      rintro en w2 ⟨rfl, hs2⟩
      have HS2 := hid (since2 HS1.out hs2)
      obtain ⟨t2, t3⟩ := HBX.out w2 HS2.out
      clear hs2 t0 t1 b10 bne
      have b10 : (b == 10) = false := beq_eq_false_iff_ne.2 (by omega)
      by_cases q3 : b = e
      · subst q3
        have beb : (b == b) = true := by simp
        clear he hbs
        go_wp2_with fail
        refine (HSB.out w2 HS2.out b).mono ?_
        rintro en w3 ⟨rfl, hc3⟩
        have HC3 := hid hc3
        clear hc3
        go_wp2_with fail
        go_end0
        exact ⟨rfl, by rw [HN1.out]; exact HFIN.out _ _ _ HS2.out HC3.out⟩
      · have beb : (b == e) = false := beq_eq_false_iff_ne.2 q3
        clear he hbs q3
        go_wp2_with fail
        refine (HSB.out w2 HS2.out b).mono ?_
        rintro en w3 ⟨rfl, hc3⟩
        have HC3 := hid hc3
        clear hc3
        go_wp2_with fail
        go_end0
        exact ⟨rfl, by rw [HN1.out]; exact HFIN.out _ _ _ HS2.out HC3.out⟩
    · obtain rfl : C = 10 := by have := HCP.out; rw [if_neg q1, if_neg q2] at this; exact this
      have HN1 := hid (show n0 gs (fun i => decide (z (xi i) = 12)) s e F (o, cl) = F by rw [HN0.out, if_neg q1, if_neg q2])
      have HG1 := hid (HGW.out w1 HS1.out)
      clear q1 q2 HCP HN0
      go_wp2_with fail
      (try simp only [Exit.inBlock, Exit.then])
      refine bodyPost_ret (results_none rfl _ _ _) rfl ?_
      exact ⟨rfl, by rw [HN1.out]; exact HFIN.out _ _ _ HS1.out HG1.out⟩

set_option maxHeartbeats 4000000 in
set_option maxRecDepth 100000 in
theorem resolveBr_any {p q B cap n N bi oi ci b0 o0 c0 Bp : Nat} {ai a0 : Option Addr} {f : Nat → Value} {xi : Nat → Nat} {z F : Nat → Int} {s e : Int} {v : Value} {L : List (Nat × Nat)} (w : World)
    (hr : w.rowIs p 64 5 f) (hf0 : f 0 = .int .u64 s) (hf2 : f 2 = v) (hf3 : f 3 = .slice (some ⟨q, 0, none⟩) n cap) (hf4 : f 4 = .slice ai n ci)
    (hP : Gw w Bp 69 2 v L.length (fun i => prc (L.getD i (0, 0)))) (hPq : v.ownBlock ≠ some q)
    (hG : Gr w B 56 (.slice (some ⟨q, 0, none⟩) n cap) n (fun i => .int .u64 (F i)))
    (hx : Sees w ai bi oi n ci (fun i => .int .i64 ((xi i : Nat) : Int))) (hxq : bi ≠ q) (hz : Sees w a0 b0 o0 N c0 (fun j => .int .u64 (z j))) (hzq : b0 ≠ q) (hpq : p ≠ q)
    (hxi : ∀ i, i < n → xi i < N) (hn : n ≤ 4294967296) (hN : N ≤ 4294967296) (hL : ∀ k, k < L.length → (L.getD k (0, 0)).1 < (L.getD k (0, 0)).2 ∧ (L.getD k (0, 0)).2 < n) (hs : s = 0 ∨ s = 1) (he : e = 0 ∨ e = 1) (hLn : L.length ≤ n) :
    Calls Tryd.prog 54 #[ptr p, .int .u64 e, .slice a0 N c0] w fun en w' => en = .returned (.tuple #[]) ∧ CS w B q cap n (n0s gs (fun i => decide (z (xi i) = 12)) s e F L) w' := by
  have hv : ∃ ao cv, v = .slice ao L.length cv := by
    rcases hP.2 with ⟨h1, h2⟩ | ⟨g', cap', cur, h1, _⟩
    · exact ⟨none, 0, by rw [h1, h2]⟩
    · exact ⟨_, _, h1⟩
  obtain ⟨ao, cv, rfl⟩ := hv
  have c2 : w.cell? ⟨p, 2, none⟩ = some (.slice ao L.length cv) := by rw [← hf2]; exact hr.cell (by omega)
  have HR := hid hr
  have HGr := hid hG
  have HX := hid hx
  have HZ := hid hz
  have HP := hid hP
  have HXI := hid hxi
  have HLK := hid hL
  have HPQ := hid hPq
  have hzl : (L.length : Int) ≤ 4294967296 := by omega
  clear hr hG hx hz hP hxi hL hPq
  go_enter Tryd.func54, Tryd.ntmps54
  go_wp2_with fail
  go_loopg [7, 13] L.length (fun gg _ i wr => ∃ k : Nat, k ≤ L.length ∧ gg = L.length - k ∧ i = .int .i64 k ∧ Hid (CS w B q cap n (n0s gs (fun i => decide (z (xi i) = 12)) s e F (L.take k)) wr))
  case atStart => exact ⟨0, Nat.zero_le _, rfl, rfl, Kp.refl _ _, HGr.out⟩
  case round =>
    clear c2
    obtain ⟨k, hk, rfl, rfl, HC⟩ := hrel
    by_cases hkn : k < L.length
    · have hkz : (k : Int) < (L.length : Int) := by omega
      obtain ⟨qb, cpb, hv0, _, _⟩ := HP.out.form (by omega)
      simp only [Value.slice.injEq, true_and] at hv0
      obtain ⟨rfl, rfl⟩ := hv0
      have hqq : qb ≠ q := fun h => HPQ.out (by rw [h]; rfl)
      have hPr := HP.out.kept' (w' := wr) (fun j hj => by
        simp only [Value.ownBlock, Option.some.injEq] at hj
        exact HC.out.kept.block j (HP.out.ge j (by simp only [Value.ownBlock, Option.some.injEq]; exact hj)).2 (by omega))
      have d0 : wr.cell? ⟨qb, k * 2, none⟩ = some (.int .i64 (((L.getD k (0, 0)).1 : Nat) : Int)) := hPr.cell (c := 0) (fun _ _ => rfl) hkn (by omega) _ rfl
      have d1 : wr.cell? ⟨qb, k * 2 + 1, none⟩ = some (.int .i64 (((L.getD k (0, 0)).2 : Nat) : Int)) := hPr.cell (c := 1) (fun _ _ => rfl) hkn (by omega) _ rfl
      obtain ⟨l1, l2⟩ := HLK.out k hkn
      have HTK := hid (show L.take (k + 1) = L.take k ++ [L.getD k (0, 0)] by
        rw [List.take_add_one, List.getElem?_eq_getElem hkn, List.getD_eq_getElem?_getD, List.getElem?_eq_getElem hkn]; rfl)
      obtain ⟨y, hy⟩ : ∃ y, y = L.getD k (0, 0) := ⟨_, rfl⟩
      rw [← hy] at d0 d1 l1 l2 HTK
      obtain ⟨T, hT⟩ : ∃ T, T = n0s gs (fun i => decide (z (xi i) = 12)) s e F (L.take k) := ⟨_, rfl⟩
      rw [← hT] at HC
      have HT := hid (show n0s gs (fun i => decide (z (xi i) = 12)) s e F (L.take (k + 1)) = n0 gs (fun i => decide (z (xi i) = 12)) s e T y by
        rw [HTK.out]; unfold n0s; rw [List.foldl_append, hT]; rfl)
      clear hy hT hPr HTK
      go_upto_region 3 with fail
      have hsB : wr.Since wr.heap.size (wr.alloc (.cells #[.int .i64 (y.1 : Nat), .int .i64 (y.2 : Nat)] 69)) := (World.Since.refl _ _).alloc (Nat.le_refl _) _
      have hrow := World.rowIs_alloc wr #[Value.int .i64 (y.1 : Nat), .int .i64 (y.2 : Nat)] 69 (fun i => (#[Value.int .i64 (y.1 : Nat), .int .i64 (y.2 : Nat)][i]?).getD undef) (fun i hi => by rw [Array.getElem?_eq_getElem hi]; rfl)
      obtain ⟨S1, hS1⟩ : ∃ S1, S1 = wr.heap.size := ⟨_, rfl⟩
      have HS1 := hid hS1
      obtain ⟨wB, hwB⟩ : ∃ wB, wB = wr.alloc (.cells #[.int .i64 (y.1 : Nat), .int .i64 (y.2 : Nat)] 69) := ⟨_, rfl⟩
      have HWB := hid hwB
      rw [← hwB] at hsB hrow
      rw [← hS1] at hrow
      have s0 : wB.cell? ⟨S1, 0, none⟩ = some (.int .i64 (y.1 : Nat)) := hrow.cell (show 0 < 2 by omega)
      have s1 : wB.cell? ⟨S1, 1, none⟩ = some (.int .i64 (y.2 : Nat)) := hrow.cell (show 1 < 2 by omega)
      have hCB : CS w B q cap n T wB := HC.out.since hsB
      have HAS := hid (assign_any (o := y.1) (cl := y.2) (s := s) (e := e) (F := T) wB (hCB.kept.row HR.out hpq) hf0 hf3 hf4 hCB.types (hCB.kept.sees HX.out (fun _ => hxq)) hxq (hCB.kept.sees HZ.out (fun _ => hzq)) hzq hpq HXI.out hn hN l1 l2 hs he)
      have HCB := hid hCB
      clear hsB hrow hS1 hwB hCB d0 d1
      rw [← HS1.out, ← HWB.out]
      go_wp2_with fail
      refine HAS.out.mono ?_
      rintro en w5 ⟨rfl, hc5⟩
      have HC5 : Hid (CS w B q cap n (n0s gs (fun i => decide (z (xi i) = 12)) s e F (L.take (k + 1))) w5) := by
        rw [HT.out]
        exact ⟨HCB.out.kept.trans hc5.kept, hc5.types⟩
      clear hc5 s0 s1
      go_wp2_with fail
      go_roundg (L.length - (k + 1))
      case rel => exact ⟨k + 1, by omega, rfl, by go_num, HC5⟩
      case measure => omega
    · obtain rfl : k = L.length := by omega
      rw [List.take_length] at HC
      go_wp2_with fail
      go_end0
      exact ⟨rfl, HC.out⟩
end Go.Proofs.YtmaieenphcnefaaDoor
