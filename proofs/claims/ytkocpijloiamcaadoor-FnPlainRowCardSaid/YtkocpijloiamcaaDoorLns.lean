/- (*paragraph).getReordering, bidi.Lines, impl.Lines. -/
import Derived.Test.YtkocpijloiamcaaDoorGetL
import Derived.Test.YtkocpijloiamcaaDoorLines
import Derived.Test.YtkocpijloiamcaaDoorJn1
namespace Go.Proofs.YtkocpijloiamcaaDoor
open Go.RowKit
set_option linter.unusedVariables false
set_option linter.unusedSimpArgs false

theorem g2_or (x fl : Nat → Int) (base : Int) (br : Nat → Nat) (N b j : Nat) : g2 x fl base br N b j = base ∨ g2 x fl base br N b j = fl j := by
  unfold g2 g1
  split
  · exact .inl rfl
  · split
    · exact .inl rfl
    · exact .inr rfl

theorem imp_range6 {lv v : Int} (h0 : 0 ≤ lv) (h1 : lv ≤ 125) : imp lv v ≤ 126 := by
  unfold imp
  split
  · split
    · omega
    · split <;> omega
  · split <;> omega

theorem Done.range6 {x kd vl ft fl : Nat → Int} {base : Int} {n : Nat} (hb : base = 0 ∨ base = 1) (hB : ∀ i, i < n → x i = 7 → n ≤ i + 1) (h : Done x kd vl base n ft fl) : ∀ i, i < n → 0 ≤ fl i ∧ fl i ≤ 126 := by
  have key : ∀ i, i < n → remN (x i) = false → 0 ≤ fl i ∧ fl i ≤ 126 := fun i hi hr => by
    obtain ⟨l, t, hl, ht, _, _, e⟩ := h.at_ hb hB hi hr
    have hv := sqV_range hb hB hl
    have h1 := imp_range (v := sqT x kd vl base n l t) (show 0 ≤ sqV x base n l by omega) hv.2
    have h2 := imp_range6 (v := sqT x kd vl base n l t) (show 0 ≤ sqV x base n l by omega) hv.2
    rw [e]; omega
  intro i
  induction i with
  | zero =>
    intro hi
    cases hr : remN (x 0) with
    | true => rw [h.rem0 hi hr]; omega
    | false => exact key 0 hi hr
  | succ i ih =>
    intro hi
    cases hr : remN (x (i + 1)) with
    | true => rw [h.remL i hi hr]; exact ih (by omega)
    | false => exact key _ hi hr

set_option maxHeartbeats 4000000 in
theorem getReordering_any {p b0 c0 R N : Nat} {base : Int} {x fl : Nat → Int} {ao : Option Addr} {b o nb c : Nat} {br : Nat → Nat} (w : World) (hN : N ≤ 4294967296) (h0 : 0 < N) (hnb : nb ≤ 4294967296) (hb : 0 ≤ base ∧ base ≤ 126) (hfl : ∀ i, i < N → 0 ≤ fl i ∧ fl i ≤ 126)
    (p0 : w.cell? ⟨p, 0, none⟩ = some (.slice (some ⟨b0, 0, none⟩) N c0)) (p3 : w.cell? ⟨p, 3, none⟩ = some (.int .i8 base)) (p5 : w.cell? ⟨p, 5, none⟩ = some (.slice (some ⟨R, 0, none⟩) N N))
    (hx : Sees w (some ⟨b0, 0, none⟩) b0 0 N c0 (fun i => .int .u64 (cls (x i)))) (hl : w.rowIs R 62 N (fun i => .int .i8 (fl i))) (hy : Sees w ao b o nb c (fun i => .int .i64 (br i : Int))) (hbr : Brk br nb N) :
    Calls Tryd.prog 42 #[.pointer (some ⟨p, 0, none⟩), .slice ao nb c] w (RetSees w N (ordVal (mo (g2 x fl base br N nb) br nb))) := by
  have HB := Lib.hid hbr
  have HF := Lib.hid hfl
  have HGL := Lib.hid (getLevels_any (x := x) (fl := fl) w hN h0 hnb p0 p3 p5 hx hl hy hbr)
  have HY := Lib.hid hy
  have hley := hy.le
  clear hx hl p3 p5 hfl hbr
  go_enter Tryd.func42, Tryd.ntmps42
  go_wp2_with fail
  refine (len_any _ p0).mono ?_
  rintro e w1 ⟨rfl, rfl⟩
  go_wp2_with fail
  refine (valBrk_any _ (by omega) hy HB.out).mono ?_
  rintro e w1 ⟨rfl, rfl⟩
  clear hy p0
  go_wp2_with fail
  refine HGL.out.mono ?_
  rintro e w2 ⟨a2, b2, o2, c2, rfl, hs2, hb2, hsi2⟩
  have HS2 := Lib.hid hsi2
  have hy2 := HY.out.since hsi2
  clear hsi2 HGL
  go_wp2_with fail
  refine (computeMultiline_any _ hN hnb hs2 (fun i hi => by rcases g2_or x fl base br N nb i with e | e <;> rw [e]; exact hb; exact HF.out i hi) hy2 HB.out).mono ?_
  rintro e w3 ⟨a3, b3, o3, c3, rfl, hs3, hb3, hsi3⟩
  go_wp2_with fail
  go_ret
  exact ⟨_, _, _, _, rfl, hs3, Nat.le_trans HS2.out.size hb3, since2 HS2.out hsi3⟩

/-- What Lines returns. -/
def RetL (w : World) (N : Nat) (f h : Nat → Value) (last : Value) (e : Ending) (w' : World) : Prop :=
  ∃ a b o c a2 b2 o2 c2, e = .returned (.tuple #[.slice a N c, .slice a2 N c2, last]) ∧ Sees w' a b o N c f ∧ Sees w' a2 b2 o2 N c2 h ∧ w.Since w.heap.size w'

set_option maxHeartbeats 8000000 in
set_option maxRecDepth 100000 in
theorem bidiLines_any {ao ak av ay : Option Addr} {b o c bk' ok ck bv ov cv by_ oy nb cy N : Nat} {br : Nat → Nat} {g : Int} {x kd vl : Nat → Int} (w : World) (hN : N ≤ 2147483647) (h0 : 0 < N) (hnb : nb ≤ 4294967296) (hg : g = -1 ∨ g = 0 ∨ g = 1) (hok : ∀ i, i < N → clsOk (x i)) (hB7 : ∀ i, i < N → x i = 7 → N ≤ i + 1)
    (hkd : ∀ j, j < N → kd j = 0 ∨ kd j = 1 ∨ kd j = 2) (hx : Sees w ao b o N c (fun i => .int .u64 (cls (x i)))) (hk : Sees w ak bk' ok N ck (fun i => .int .u8 (kd i))) (hv : Sees w av bv ov N cv (fun i => .int .i32 (vl i))) (hy : Sees w ay by_ oy nb cy (fun i => .int .i64 (br i : Int))) (hbr : Brk br nb N) :
    Calls Tryd.prog 26 #[.slice ao N c, .slice ak N ck, .slice av N cv, .int .i8 g, .slice ay nb cy] w fun e w' => ∃ ft fl, Done x kd vl (baseP x N g) N ft fl ∧ RetL w N (fun i => .int .i8 (g2 x fl (baseP x N g) br N nb i)) (ordVal (mo (g2 x fl (baseP x N g) br N nb) br nb)) .nilIface e w' := by
  have HOK := Lib.hid hok
  have HB7 := Lib.hid hB7
  have HKD := Lib.hid hkd
  have HG := Lib.hid hg
  have HBR := Lib.hid hbr
  have HY := Lib.hid hy
  clear hok hB7 hkd hg hbr hy
  go_enter Tryd.func26, Tryd.ntmps26
  go_wp2_with fail
  refine (brackets_any _ (by omega) hk).mono ?_
  rintro e w1 ⟨rfl, hbw, hs1⟩
  have hx1 := hx.since hs1
  have hv1 := hv.since hs1
  have hz01 := hs1.size
  have hbl := hbw.lt
  have HS1 := Lib.hid hs1
  have HBW := Lib.hid hbw
  have HX1 := Lib.hid hx1
  have gB := Gr.empty w1 w1.heap.size 21 (fun _ => .int .i32 0) (Nat.le_refl _)
  have hsB : w1.Since w1.heap.size (w1.alloc (.cells #[] 21)) := (World.Since.refl _ _).alloc (Nat.le_refl _) _
  have hv1' := hv1.since hsB
  clear hx hk hv hs1 hbw hx1 hv1
  go_wp2_with (at_builtin; go_must (refine wpList_cat _ rfl _ _ 47 rfl w1.heap.size 21 (.int .i32 0) 4 Tryd.underlying47 Tryd.infoRune rfl _ _ _ rfl gB rfl hv1' (fun _ _ => rfl) (by omega) (by omega) (by simp) ?_))
  intro v2 w2 hg2 hgr2 _
  have hs12 : w1.Since w1.heap.size w2 := hsB.grown hgr2 (by simp) (by simp [Value.ownBlock])
  have hg2' : Gr w2 w1.heap.size 21 v2 N (fun i => .int .i32 (vl i)) := by first | exact hg2 | (rw [Nat.zero_add] at hg2; exact hg2.congr fun i _ => by simp)
  obtain ⟨q2, cap2, rfl, hq2⟩ := hg2'.form h0
  have hx2 := HX1.out.since hs12
  have hk2 : Sees w2 (some ⟨w.heap.size, 0, none⟩) w.heap.size 0 N N (fun i => .int .u8 (kd i)) := Sees.ofRow (HBW.out.of_block (hs12.block _ hbl))
  have hv2 := hg2'.sees' h0
  have HS2 := Lib.hid (since2 HS1.out hs12)
  have HNP := Lib.hid (newParagraph_any (x := x) (kd := kd) (vl := vl) w2 (by omega) (.inl hN) h0 HG.out HOK.out HB7.out HKD.out hx2 hk2 hv2)
  clear gB hsB hv1' hg2 hgr2 hs12 hg2' hx2 hk2 hv2 HBW HX1
  go_wp2_with fail
  refine HNP.out.mono ?_
  rintro e w3 ⟨p, b0, T, R, N6, N7, c0, capT, ft, fl, rfl, hP⟩
  have HS3 := Lib.hid (since2 HS2.out hP.since)
  have HY3 := Lib.hid (HY.out.since HS3.out)
  have HP := Lib.hid hP
  have HBO := Lib.hid (baseP_or (x := x) (N := N) HG.out)
  have HRG := Lib.hid (hP.done.range6 HBO.out HB7.out)
  obtain ⟨BV, hBV⟩ : ∃ BV, BV = baseP x N g := ⟨_, rfl⟩
  have HBV := Lib.hid hBV
  have HGL := Lib.hid (getLevels_any (x := x) (fl := fl) (base := BV) w3 (by omega) h0 hnb (hP.row.cell (by omega)) (by rw [hBV]; exact hP.row.cell (by omega)) (hP.row.cell (by omega)) hP.init hP.levels HY3.out HBR.out)
  have hb126 : 0 ≤ BV ∧ BV ≤ 126 := by have := HBO.out; rw [hBV]; omega
  clear hP HNP hBV
  go_wp2_with fail
  refine HGL.out.mono ?_
  rintro e w4 ⟨a4, b4, o4, c4, rfl, hs4, hb4, hsi4⟩
  have HSI4 := Lib.hid hsi4
  clear hsi4 HGL
  go_wp2_with fail
  refine (numbers_any _ (by omega) hs4).mono ?_
  rintro e w5 ⟨a5, b5, o5, c5, rfl, hs5, hb5, hsi5⟩
  have HSI5 := Lib.hid (since2 HSI4.out hsi5)
  have hrow5 := HP.out.row.of_block (HSI5.out.block _ HP.out.row.lt)
  have hin5 := HP.out.init.since HSI5.out
  have hlv5 := HP.out.levels.of_block (HSI5.out.block _ HP.out.levels.lt)
  have HGR := Lib.hid (getReordering_any (x := x) (fl := fl) (base := BV) w5 (by omega) h0 hnb hb126 HRG.out (hrow5.cell (by omega)) (by rw [HBV.out]; exact hrow5.cell (by omega)) (hrow5.cell (by omega)) hin5 hlv5 (HY3.out.since HSI5.out) HBR.out)
  have HL5 := Lib.hid hs5
  clear hs4 hs5 hsi5 hrow5 hin5 hlv5 HSI4
  go_wp2_with fail
  refine HGR.out.mono ?_
  rintro e w6 ⟨a6, b6, o6, c6, rfl, hs6, hb6, hsi6⟩
  have HL6 := Lib.hid (HL5.out.since hsi6)
  have HS6 := Lib.hid (since2 HS3.out (since2 HSI5.out hsi6))
  clear hsi6 HL5 HGR
  go_wp2_with fail
  go_ret3
  rw [← HBV.out]
  exact ⟨ft, fl, by rw [HBV.out]; exact HP.out.done, a5, b5, o5, c5, a6, b6, o6, c6, rfl, HL6.out, hs6, HS6.out⟩

set_option maxHeartbeats 8000000 in
set_option maxRecDepth 100000 in
theorem implLines_any {ao ak av ay : Option Addr} {b o c bk' ok ck bv ov cv by_ oy nb cy N : Nat} {br : Nat → Nat} {g : Int} {x kd vl : Nat → Int} (w : World) (ht : Tab w) (hN : N ≤ 2147483647) (h0 : 0 < N) (hnb : nb ≤ 2147483647) (hg : g = -1 ∨ g = 0 ∨ g = 1) (hok : ∀ i, i < N → clsOk (x i)) (hB7 : ∀ i, i < N → x i = 7 → N ≤ i + 1)
    (hkd : ∀ j, j < N → kd j = 0 ∨ kd j = 1 ∨ kd j = 2) (hvl : ∀ j, j < N → 0 ≤ vl j ∧ vl j ≤ 1114111) (hx : Sees w ao b o N c (fun i => .int .i64 (x i))) (hk : Sees w ak bk' ok N ck (fun i => .int .i64 (kd i))) (hv : Sees w av bv ov N cv (fun i => .int .i64 (vl i))) (hy : Sees w ay by_ oy nb cy (fun i => .int .i64 (br i : Int))) (hbr : Brk br nb N) :
    Calls Tryd.prog 13 #[.slice ao N c, .slice ak N ck, .slice av N cv, .int .i64 g, .slice ay nb cy] w fun e w' => ∃ ft fl, Done x kd vl (baseP x N g) N ft fl ∧ RetL w N (fun i => .int .i64 (g2 x fl (baseP x N g) br N nb i)) (ordVal (mo (g2 x fl (baseP x N g) br N nb) br nb)) (.bool true) e w' := by
  have HOK := Lib.hid hok
  have HB7 := Lib.hid hB7
  have HKD := Lib.hid hkd
  have HVL := Lib.hid hvl
  have HG := Lib.hid hg
  have HBR := Lib.hid hbr
  have HY := Lib.hid hy
  have hgw : IntKind.i8.wrap g = g := by rcases hg with rfl | rfl | rfl <;> decide
  clear hok hB7 hkd hvl hg hbr hy
  go_enter Tryd.func13, Tryd.ntmps13
  go_wp2_with fail
  refine (classesOf_any _ ht (by omega) hx).mono ?_
  rintro e w1 ⟨a1, b1, o1, c1, rfl, hx1, hb1, hs1⟩
  have hk1 := hk.since hs1
  have hv1 := hv.since hs1
  have HS1 := Lib.hid hs1
  clear ht hx hk hv hs1
  go_wp2_with fail
  refine (bytesOf_any _ (by omega) hk1).mono ?_
  rintro e w2 ⟨a2, b2, o2, c2, rfl, hk2, hb2, hs2⟩
  have hx2 := hx1.since hs2
  have hv2 := hv1.since hs2
  have hk2' : Sees w2 a2 b2 o2 N c2 (fun i => .int .u8 (kd i)) := hk2.congr (fun i hi => by rw [wrap_u8 (HKD.out i hi)])
  have HS2 := Lib.hid (since2 HS1.out hs2)
  clear hx1 hk1 hv1 hs2 hk2
  go_wp2_with fail
  refine (runesOf_any _ (by omega) hv2).mono ?_
  rintro e w3 ⟨a3, b3, o3, c3, rfl, hv3, hb3, hs3⟩
  have hx3 := hx2.since hs3
  have hk3 := hk2'.since hs3
  have hv3' : Sees w3 a3 b3 o3 N c3 (fun i => .int .i32 (vl i)) := hv3.congr (fun i hi => by rw [wrap_i32 (HVL.out i hi).1 (HVL.out i hi).2])
  have HS3 := Lib.hid (since2 HS2.out hs3)
  have hy3 := HY.out.since HS3.out
  clear hx2 hv2 hk2' hs3 hv3
  go_wp2_with fail
  refine (copyOf_any _ (by omega) hy3).mono ?_
  rintro e w4 ⟨a4, b4, o4, c4, rfl, hy4, hb4, hs4⟩
  have HS4 := Lib.hid (since2 HS3.out hs4)
  have HRS := Lib.hid (bidiLines_any (x := x) (kd := kd) (vl := vl) w4 hN h0 (by omega) HG.out HOK.out HB7.out HKD.out (hx3.since hs4) (hk3.since hs4) (hv3'.since hs4) hy4 HBR.out)
  clear hs4 hx3 hk3 hv3' hy3 hy4
  go_wp2_with fail
  refine HRS.out.mono ?_
  rintro e w5 ⟨ft, fl, hD, a5, b5, o5, c5, a6, b6, o6, c6, rfl, hL, hO, hs5⟩
  have hbo := baseP_or (x := x) (N := N) HG.out
  have hrg := hD.range6 hbo HB7.out
  have hfr : ∀ i, i < N → -128 ≤ g2 x fl (baseP x N g) br N nb i ∧ g2 x fl (baseP x N g) br N nb i ≤ 127 := fun i hi => by
    have := hrg i hi
    rcases g2_or x fl (baseP x N g) br N nb i with e | e <;> rw [e] <;> omega
  have HS5 := Lib.hid (since2 HS4.out hs5)
  have HD := Lib.hid hD
  have HO := Lib.hid hO
  clear hs5 hD hrg hO HRS hbo
  go_wp2_with fail
  refine (largeOf_any _ (by omega) hL hfr).mono ?_
  rintro e w6 ⟨a7, b7, o7, c7, rfl, hn6, hb7, hs6⟩
  have HS6 := Lib.hid (since2 HS5.out hs6)
  have hO6 := HO.out.since hs6
  have HN6 := Lib.hid hn6
  clear hL hfr hs6 hn6 HO
  go_wp2_with fail
  refine (copyOf_any (x := fun i => ((mo (g2 x fl (baseP x N g) br N nb) br nb i : Nat) : Int)) _ (by omega) hO6).mono ?_
  rintro e w7 ⟨a8, b8, o8, c8, rfl, ho7, hb8, hs7⟩
  have HN7 := Lib.hid (HN6.out.since hs7)
  have HS7 := Lib.hid (since2 HS6.out hs7)
  clear hO6 hs7 HN6
  go_wp2_with fail
  go_ret3
  exact ⟨ft, fl, HD.out, a7, b7, o7, c7, a8, b8, o8, c8, rfl, HN7.out, ho7, HS7.out⟩
end Go.Proofs.YtkocpijloiamcaaDoor
