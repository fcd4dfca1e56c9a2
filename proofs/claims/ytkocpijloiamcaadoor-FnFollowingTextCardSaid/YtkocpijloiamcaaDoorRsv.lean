/- bidi.Resolve, impl.Resolve. -/
import Derived.Test.YtkocpijloiamcaaDoorVal
import Derived.Test.YtkocpijloiamcaaDoorGC
import Derived.Deep.RegionHeld3
namespace Go.Proofs.YtkocpijloiamcaaDoor
open Go.RowKit
set_option linter.unusedVariables false
set_option linter.unusedSimpArgs false

theorem results_tmp4 {fn : Func} {t u v x : Tmp} (h : fn.results = #[.tmp t, .tmp u, .tmp v, .tmp x]) (tmps : Array Value) (P : Program) (w : World) :
    (results fn tmps).run P w = .ok (.tuple #[tmps.getD t undef, tmps.getD u undef, tmps.getD v undef, tmps.getD x undef]) w := by
  simp [results, h]

/-- What Resolve returns: classes, levels, the paragraph's level, no error. -/
def RetR (w : World) (N : Nat) (f h : Nat → Value) (lv last : Value) (e : Ending) (w' : World) : Prop :=
  ∃ a b o c a2 b2 o2 c2, e = .returned (.tuple #[.slice a N c, .slice a2 N c2, lv, last]) ∧ Sees w' a b o N c f ∧ Sees w' a2 b2 o2 N c2 h ∧ w.heap.size ≤ b ∧ w.heap.size ≤ b2 ∧ w.Since w.heap.size w'

set_option maxHeartbeats 8000000 in
set_option maxRecDepth 100000 in
theorem bidiResolve_any {ao ak av : Option Addr} {b o c bk' ok ck bv ov cv N : Nat} {g : Int} {x kd vl : Nat → Int} (w : World) (hN : N ≤ 8589934592) (hNB : N ≤ 2147483647 ∨ ∀ j, j < N → kd j = 0) (h0 : 0 < N) (hg : g = -1 ∨ g = 0 ∨ g = 1) (hok : ∀ i, i < N → clsOk (x i)) (hB7 : ∀ i, i < N → x i = 7 → N ≤ i + 1)
    (hkd : ∀ j, j < N → kd j = 0 ∨ kd j = 1 ∨ kd j = 2) (hx : Sees w ao b o N c (fun i => .int .u64 (cls (x i)))) (hk : Sees w ak bk' ok N ck (fun i => .int .u8 (kd i))) (hv : Sees w av bv ov N cv (fun i => .int .i32 (vl i))) :
    Calls Tryd.prog 35 #[.slice ao N c, .slice ak N ck, .slice av N cv, .int .i8 g] w fun e w' => ∃ ft fl, Done x kd vl (baseP x N g) N ft fl ∧ RetR w N (fun i => .int .u64 (ft i)) (fun i => .int .i8 (fl i)) (.int .i8 (baseP x N g)) .nilIface e w' := by
  have HOK := Lib.hid hok
  have HB7 := Lib.hid hB7
  have HKD := Lib.hid hkd
  have HG := Lib.hid hg
  have HNB := Lib.hid hNB
  clear hok hB7 hkd hg hNB
  go_enter Tryd.func35, Tryd.ntmps35
  go_wp2_with fail
  refine (brackets_any _ (by omega) hk).mono ?_
  rintro e w1 ⟨rfl, hbr, hs1⟩
  have hx1 := hx.since hs1
  have hv1 := hv.since hs1
  have hz01 := hs1.size
  have hbl := hbr.lt
  have HS1 := Lib.hid hs1
  have HBR := Lib.hid hbr
  have HX1 := Lib.hid hx1
  have gB := Gr.empty w1 w1.heap.size 21 (fun _ => .int .i32 0) (Nat.le_refl _)
  have hsB : w1.Since w1.heap.size (w1.alloc (.cells #[] 21)) := (World.Since.refl _ _).alloc (Nat.le_refl _) _
  have hv1' := hv1.since hsB
  clear hx hk hv hs1 hbr hx1 hv1
  go_wp2_with (at_builtin; go_must (refine wpList_cat _ rfl _ _ 47 rfl w1.heap.size 21 (.int .i32 0) 4 Tryd.underlying47 Tryd.infoRune rfl _ _ _ rfl gB rfl hv1' (fun _ _ => rfl) (by omega) (by omega) (by simp) ?_))
  intro v2 w2 hg2 hgr2 _
  have hs12 : w1.Since w1.heap.size w2 := hsB.grown hgr2 (by simp) (by simp [Value.ownBlock])
  have hg2' : Gr w2 w1.heap.size 21 v2 N (fun i => .int .i32 (vl i)) := by first | exact hg2 | (rw [Nat.zero_add] at hg2; exact hg2.congr fun i _ => by simp)
  obtain ⟨q2, cap2, rfl, hq2⟩ := hg2'.form h0
  have hx2 := HX1.out.since hs12
  have hk2 : Sees w2 (some ⟨w.heap.size, 0, none⟩) w.heap.size 0 N N (fun i => .int .u8 (kd i)) := Sees.ofRow (HBR.out.of_block (hs12.block _ hbl))
  have hv2 := hg2'.sees' h0
  have HS2 := Lib.hid (since2 HS1.out hs12)
  have HNP := Lib.hid (newParagraph_any (x := x) (kd := kd) (vl := vl) w2 hN HNB.out h0 HG.out HOK.out HB7.out HKD.out hx2 hk2 hv2)
  clear gB hsB hv1' hg2 hgr2 hs12 hg2' hx2 hk2 hv2 HBR HX1
  go_wp2_with fail
  refine HNP.out.mono ?_
  rintro e w3 ⟨p, b0, T, R, N6, N7, c0, capT, ft, fl, rfl, hP⟩
  have c3 : w3.cell? ⟨p, 3, none⟩ = some (.int .i8 (baseP x N g)) := hP.row.cell (by omega)
  have c4 : w3.cell? ⟨p, 4, none⟩ = some (.slice (some ⟨T, 0, none⟩) N capT) := hP.row.cell (by omega)
  have c5 : w3.cell? ⟨p, 5, none⟩ = some (.slice (some ⟨R, 0, none⟩) N N) := hP.row.cell (by omega)
  have hsee := hP.types.sees' h0
  have hlv := Sees.ofRow (hP.levels.drew)
  have hplt := hP.row.lt
  have hTge := (hP.types.ge T rfl).1
  have HP := Lib.hid hP
  have HSEE := Lib.hid hsee
  obtain ⟨BV, hBV⟩ : ∃ BV, BV = baseP x N g := ⟨_, rfl⟩
  rw [← hBV] at c3
  have HBV := Lib.hid hBV
  clear hP hsee HNP hBV
  go_upto_region 4 with fail
  go_region_held3 (fun wx => wx.cell? ⟨p, 3, none⟩ = some (.int .i8 BV) ∧ wx.cell? ⟨p, 4, none⟩ = some (.slice (some ⟨T, 0, none⟩) N capT) ∧ wx.cell? ⟨p, 5, none⟩ = some (.slice (some ⟨R, 0, none⟩) N N)) (go_keep)
    (first | (go_at_call 40; refine (numbers_any w3.drew (by omega) hlv).mono ?_; rintro e w4 ⟨a3, b3, o3, c3', rfl, hs3, hb3, hsi⟩; have q3 := (hsi.cell (a := ⟨p, 3, none⟩) hplt).trans c3; have q4 := (hsi.cell (a := ⟨p, 4, none⟩) hplt).trans c4; have q5 := (hsi.cell (a := ⟨p, 5, none⟩) hplt).trans c5))
  have hs34 : w3.Since w3.heap.size w4 := ⟨hsi.os, hsi.tape, hsi.output, hsi.size, hsi.block⟩
  have hs24 := since2 HP.out.since hs34
  have HRR : Hid (RetR w N (fun i => .int .u64 (ft i)) (fun i => .int .i8 (fl i)) (.int .i8 BV) .nilIface (.returned (.tuple #[.slice (some ⟨T, 0, none⟩) N capT, .slice a3 N c3', .int .i8 BV, .nilIface])) w4) := Lib.hid
    ⟨_, T, 0, _, _, b3, o3, _, rfl, HSEE.out.since hs34, hs3, by have := HS2.out.size; omega, by have := HS2.out.size; have := HP.out.since.size; have : w3.heap.size ≤ b3 := hb3; omega, since2 HS2.out hs24⟩
  clear hs3 hsi q3 q4 q5 c3 c4 c5 hlv hs34 hs24
  go_wp2_with fail
  (try simp only [Exit.inBlock, Exit.then])
  refine bodyPost_ret (results_tmp4 rfl _ _ _) rfl ?_
  exact ⟨ft, fl, HP.out.done, by rw [← HBV.out]; exact HRR.out⟩

/-- The number of a class. -/
def nmb (c : Int) : Int := if c ≤ 13 then c else c - 2
theorem nmb_cls {y : Int} (h : clsOk y) : nmb (cls y) = y := by
  unfold clsOk at h
  obtain ⟨k, rfl⟩ := Int.eq_ofNat_of_zero_le h.1
  have hk : k < 23 := by omega
  have key : ∀ j : Fin 23, nmb (cls (j.val : Int)) = (j.val : Int) := by decide
  exact key ⟨k, hk⟩

theorem wrap_u8 {v : Int} (h : v = 0 ∨ v = 1 ∨ v = 2) : IntKind.u8.wrap v = v := by rcases h with rfl | rfl | rfl <;> decide
theorem wrap_i32 {v : Int} (h0 : 0 ≤ v) (h1 : v ≤ 1114111) : IntKind.i32.wrap v = v := by simp [IntKind.wrap, IntKind.bits, IntKind.signed]; omega

set_option maxHeartbeats 8000000 in
set_option maxRecDepth 100000 in
theorem implResolve_all {ao ak av : Option Addr} {b o c bk' ok ck bv ov cv N : Nat} {g : Int} {x kd vl : Nat → Int} (w : World) (ht : Tab w) (hN : N ≤ 8589934592) (hNB : N ≤ 2147483647 ∨ ∀ j, j < N → kd j = 0) (h0 : 0 < N) (hg : g = -1 ∨ g = 0 ∨ g = 1) (hok : ∀ i, i < N → clsOk (x i)) (hB7 : ∀ i, i < N → x i = 7 → N ≤ i + 1)
    (hkd : ∀ j, j < N → kd j = 0 ∨ kd j = 1 ∨ kd j = 2) (hvl : ∀ j, j < N → 0 ≤ vl j ∧ vl j ≤ 1114111) (hx : Sees w ao b o N c (fun i => .int .i64 (x i))) (hk : Sees w ak bk' ok N ck (fun i => .int .i64 (kd i))) (hv : Sees w av bv ov N cv (fun i => .int .i64 (vl i))) :
    Calls Tryd.prog 15 #[.slice ao N c, .slice ak N ck, .slice av N cv, .int .i64 g] w fun e w' => ∃ ft fl, Done x kd vl (baseP x N g) N ft fl ∧ RetR w N (fun i => .int .i64 (nmb (ft i))) (fun i => .int .i64 (fl i)) (.int .i64 (baseP x N g)) (.bool true) e w' := by
  have HOK := Lib.hid hok
  have HB7 := Lib.hid hB7
  have HKD := Lib.hid hkd
  have HVL := Lib.hid hvl
  have HG := Lib.hid hg
  have hgw : IntKind.i8.wrap g = g := by rcases hg with rfl | rfl | rfl <;> decide
  have HNB := Lib.hid hNB
  clear hok hB7 hkd hvl hg hNB
  go_enter Tryd.func15, Tryd.ntmps15
  go_wp2_with fail
  refine (classesOf_any _ ht (by omega) hx).mono ?_
  rintro e w1 ⟨a1, b1, o1, c1, rfl, hx1, hb1, hs1⟩
  have ht1 := ht.since hs1
  have hk1 := hk.since hs1
  have hv1 := hv.since hs1
  have HS1 := Lib.hid hs1
  clear ht hx hk hv hs1
  go_wp2_with fail
  refine (bytesOf_any _ (by omega) hk1).mono ?_
  rintro e w2 ⟨a2, b2, o2, c2, rfl, hk2, hb2, hs2⟩
  have ht2 := ht1.since hs2
  have hx2 := hx1.since hs2
  have hv2 := hv1.since hs2
  have hk2' : Sees w2 a2 b2 o2 N c2 (fun i => .int .u8 (kd i)) := hk2.congr (fun i hi => by rw [wrap_u8 (HKD.out i hi)])
  have HS2 := Lib.hid (since2 HS1.out hs2)
  clear ht1 hx1 hk1 hv1 hs2 hk2
  go_wp2_with fail
  refine (runesOf_any _ (by omega) hv2).mono ?_
  rintro e w3 ⟨a3, b3, o3, c3, rfl, hv3, hb3, hs3⟩
  have ht3 := ht2.since hs3
  have hx3 := hx2.since hs3
  have hk3 := hk2'.since hs3
  have hv3' : Sees w3 a3 b3 o3 N c3 (fun i => .int .i32 (vl i)) := hv3.congr (fun i hi => by rw [wrap_i32 (HVL.out i hi).1 (HVL.out i hi).2])
  have HS3 := Lib.hid (since2 HS2.out hs3)
  have HRS := Lib.hid (bidiResolve_any (x := x) (kd := kd) (vl := vl) w3 hN HNB.out h0 HG.out HOK.out HB7.out HKD.out hx3 hk3 hv3')
  clear ht2 hx2 hv2 hk2' hs3 hv3 hx3 hk3 hv3'
  go_wp2_with fail
  refine HRS.out.mono ?_
  rintro e w4 ⟨ft, fl, hD, a4, b4, o4, c4, a5, b5, o5, c5, rfl, hT, hL, hb4, hb5, hs4⟩
  have ht4 := ht3.since hs4
  have hrg := hD.range (baseP_or HG.out) HB7.out HOK.out
  have HT : Sees w4 a4 b4 o4 N c4 (fun i => .int .u64 (cls (nmb (ft i)))) := hT.congr (fun i hi => by
    obtain ⟨⟨y, hy, e⟩, _⟩ := hrg i hi
    rw [e, nmb_cls hy])
  have hokn : ∀ i, i < N → clsOk (nmb (ft i)) := fun i hi => by
    obtain ⟨⟨y, hy, e⟩, _⟩ := hrg i hi
    rw [e, nmb_cls hy]; exact hy
  have hfr : ∀ i, i < N → -128 ≤ fl i ∧ fl i ≤ 127 := fun i hi => by
    have := (hrg i hi).2
    have := baseP_or (x := x) (N := N) HG.out
    omega
  have HS4 := Lib.hid (since2 HS3.out hs4)
  have HD := Lib.hid hD
  have HBO := Lib.hid (baseP_or (x := x) (N := N) HG.out)
  obtain ⟨BV, hBV⟩ : ∃ BV, BV = baseP x N g := ⟨_, rfl⟩
  have HBV := Lib.hid hBV
  rw [← hBV]
  rw [← hBV] at HBO
  have hbw : IntKind.i64.wrap BV = BV := by rcases HBO.out with h | h <;> rw [h] <;> decide
  clear ht3 hs4 hD hrg hT HRS hBV
  go_wp2_with fail
  refine (numbersOf_any _ ht4 (by omega) hokn HT).mono ?_
  rintro e w5 ⟨a6, b6, o6, c6, rfl, hn5, hb6, hs5⟩
  have hL5 := hL.since hs5
  have HS5 := Lib.hid (since2 HS4.out hs5)
  clear ht4 hL hs5 HT hokn
  go_wp2_with fail
  refine (largeOf_any _ (by omega) hL5 hfr).mono ?_
  rintro e w6 ⟨a7, b7, o7, c7, rfl, hn6, hb7, hs6⟩
  have HN := Lib.hid (hn5.since hs6)
  have HS6 := Lib.hid (since2 HS5.out hs6)
  have HZ4 := HS4.out.size
  have HZ5 := HS5.out.size
  clear hL5 hn5 hs6 hfr
  go_wp2_with fail
  (try simp only [Exit.inBlock, Exit.then])
  refine bodyPost_ret (results_tmp4 rfl _ _ _) rfl ?_
  rw [← HBV.out]
  exact ⟨ft, fl, by rw [HBV.out]; exact HD.out, a6, b6, o6, c6, a7, b7, o7, c7, rfl, HN.out, hn6, by omega, by omega, HS6.out⟩

/-- The same for texts whose length fits 32 bits. -/
theorem implResolve_any {ao ak av : Option Addr} {b o c bk' ok ck bv ov cv N : Nat} {g : Int} {x kd vl : Nat → Int} (w : World) (ht : Tab w) (hN : N ≤ 2147483647) (h0 : 0 < N) (hg : g = -1 ∨ g = 0 ∨ g = 1) (hok : ∀ i, i < N → clsOk (x i)) (hB7 : ∀ i, i < N → x i = 7 → N ≤ i + 1)
    (hkd : ∀ j, j < N → kd j = 0 ∨ kd j = 1 ∨ kd j = 2) (hvl : ∀ j, j < N → 0 ≤ vl j ∧ vl j ≤ 1114111) (hx : Sees w ao b o N c (fun i => .int .i64 (x i))) (hk : Sees w ak bk' ok N ck (fun i => .int .i64 (kd i))) (hv : Sees w av bv ov N cv (fun i => .int .i64 (vl i))) :
    Calls Tryd.prog 15 #[.slice ao N c, .slice ak N ck, .slice av N cv, .int .i64 g] w fun e w' => ∃ ft fl, Done x kd vl (baseP x N g) N ft fl ∧ RetR w N (fun i => .int .i64 (nmb (ft i))) (fun i => .int .i64 (fl i)) (.int .i64 (baseP x N g)) (.bool true) e w' :=
  implResolve_all w ht (by omega) (.inl hN) h0 hg hok hB7 hkd hvl hx hk hv
end Go.Proofs.YtkocpijloiamcaaDoor
