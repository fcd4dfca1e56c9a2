/- bidi.Brackets, impl.Brackets. -/
import Derived.Test.YtmaieenphcnefaaDoorBrQ
import Derived.Test.YtmaieenphcnefaaDoorNumOf
namespace Go.Proofs.YtmaieenphcnefaaDoor
open Go.RowKit Go.Lib Go.Sort
set_option linter.unusedVariables false
set_option linter.unusedSimpArgs false

set_option maxHeartbeats 4000000 in
set_option maxRecDepth 100000 in
theorem bidiBrackets_any {ac az ak av : Option Addr} {bc oc cc bz oz cz bk' ok ck bv ov cv n : Nat} {c z kd vl : Nat → Int} {lv s : Int} (w : World) (hn : n ≤ 2147483647) (h0 : 0 < n)
    (hc : Sees w ac bc oc n cc (fun i => .int .u64 (c i))) (hz : Sees w az bz oz n cz (fun i => .int .u64 (z i))) (hk : Sees w ak bk' ok n ck (fun i => .int .u8 (kd i))) (hv : Sees w av bv ov n cv (fun i => .int .i32 (vl i)))
    (hkd : ∀ j, j < n → kd j = 0 ∨ kd j = 1 ∨ kd j = 2) (hs : s = 0 ∨ s = 1) (hl0 : 0 ≤ lv) (hl1 : lv ≤ 127) :
    Calls Tryd.prog 33 #[.slice ac n cc, .slice az n cz, .slice ak n ck, .slice av n cv, .int .i8 lv, .int .u64 s] w (RetSees w n (fun i => .int .u64 (n0s gs (fun i => decide (z i = 12)) s (lv % 2) c (pairsOf kd vl c n) i))) := by
  go_enter Tryd.func33, Tryd.ntmps33
  go_wp2_with fail
  refine (sequence_any (lv := lv) (sos := s) (eos := s) w (by omega) h0 hc).mono ?_
  rintro e w1 ⟨S, q, cap, rfl, hq1⟩
  have hs1 := hq1.since
  have hz1 := hz.since hs1
  have hk1 := hk.since hs1
  have hv1 := hv.since hs1
  have hSge := hq1.ge
  have hqge := (hq1.types.ge q rfl).1
  have hqS := hq1.ne
  have hq0 := hq1.ne0
  have hSlt := hq1.row.lt
  have hqlt := (hq1.types.ge q rfl).2
  clear hc hz hk hv
  have gA := Gr.empty w1 w1.heap.size 56 (fun _ => .int .u64 0) (Nat.le_refl _)
  have hsA : w1.Since w1.heap.size (w1.alloc (.cells #[] 56)) := (World.Since.refl _ _).alloc (Nat.le_refl _) _
  have hz1' := hz1.since hsA
  have HQ1 := hid hq1
  have HS1 := hid hs1
  clear hq1 hs1
  go_wp2_with (at_builtin; go_must (refine wpList_cat _ rfl _ _ 41 rfl w1.heap.size 56 (.int .u64 0) 8 Tryd.underlying41 Tryd.infoClass rfl _ _ _ rfl gA rfl hz1' (fun _ _ => rfl) (by omega) (by omega) (by simp) ?_))
  intro v2 w2 hg2 hgr2 _
  have hs12 : w1.Since w1.heap.size w2 := hsA.grown hgr2 (by simp) (by simp [Value.ownBlock])
  have hg2' : Gr w2 w1.heap.size 56 v2 n (fun i => .int .u64 (z i)) := by first | exact hg2 | (rw [Nat.zero_add] at hg2; exact hg2.congr fun i _ => by simp)
  obtain ⟨q2, cap2, rfl, hq2⟩ := hg2'.form h0
  have hq2lt := (hg2'.ge q2 rfl).2
  have hk2 := hk1.since hs12
  have hv2 := hv1.since hs12
  have HS12 := hid hs12
  have HG2 := hid hg2'
  have hz12 := hs12.size
  clear gA hsA hz1 hz1' hg2 hgr2 hs12 hk1 hv1 hg2'
  go_wp2_with fail
  refine (brackets_any _ (by omega) hk2).mono ?_
  rintro e w3 ⟨rfl, hbr3, hs23⟩
  have hv3 := hv2.since hs23
  have HS13 := hid (since2 HS12.out hs23)
  have HG3 := hid (HG2.out.since hs23)
  have HBR := hid hbr3
  have hz23 := hs23.size
  have hbl := hbr3.lt
  clear hk2 hv2 hbr3 hs23 HS12 HG2
  have gB := Gr.empty w3 w3.heap.size 21 (fun _ => .int .i32 0) (Nat.le_refl _)
  have hsB : w3.Since w3.heap.size (w3.alloc (.cells #[] 21)) := (World.Since.refl _ _).alloc (Nat.le_refl _) _
  have hv3' := hv3.since hsB
  go_wp2_with (at_builtin; go_must (refine wpList_cat _ rfl _ _ 45 rfl w3.heap.size 21 (.int .i32 0) 4 Tryd.underlying45 Tryd.infoRune rfl _ _ _ rfl gB rfl hv3' (fun _ _ => rfl) (by omega) (by omega) (by simp) ?_))
  intro v4 w4 hg4 hgr4 _
  have hs34 : w3.Since w3.heap.size w4 := hsB.grown hgr4 (by simp) (by simp [Value.ownBlock])
  have hg4' : Gr w4 w3.heap.size 21 v4 n (fun i => .int .i32 (vl i)) := by first | exact hg4 | (rw [Nat.zero_add] at hg4; exact hg4.congr fun i _ => by simp)
  obtain ⟨q4, cap4, rfl, hq4⟩ := hg4'.form h0
  have hq4lt := (hg4'.ge q4 rfl).2
  have HS14 := hid (since2 HS13.out hs34)
  have HG4 := hid (HG3.out.since hs34)
  have HBR4 := hid (HBR.out.of_block (hs34.block _ hbl))
  have HV4 := hid hg4'
  have hz34 := hs34.size
  clear gB hsB hv3 hv3' hg4 hgr4 hs34 hg4' HG3 HBR HS13
  have hSr4 := HQ1.out.row.of_block (HS14.out.block _ HQ1.out.row.lt)
  have hS4lt := hSr4.lt
  have a0 := hSr4.cell (i := 0) (by omega)
  have y0 := hSr4.frozen 0
  have hSs := hSr4.set 0 (.pointer (some ⟨w4.heap.size, 0, none⟩))
  have hkS : Kp (fun k => k = S) w4 (w4.setCell ⟨S, 0, none⟩ (.pointer (some ⟨w4.heap.size, 0, none⟩))) := (Kp.refl (fun k => k = S) w4).setCell (a := ⟨S, 0, none⟩) (.inl rfl) _
  have hsz : (w4.setCell ⟨S, 0, none⟩ (.pointer (some ⟨w4.heap.size, 0, none⟩))).heap.size = w4.heap.size := by simp [World.setCell]
  obtain ⟨wS, hwS⟩ : ∃ wS, wS = w4.setCell ⟨S, 0, none⟩ (.pointer (some ⟨w4.heap.size, 0, none⟩)) := ⟨_, rfl⟩
  rw [← hwS] at hSs hkS hsz
  have hP5 : wS.Since wS.heap.size (wS.alloc (.cells #[.slice (some ⟨q2, 0, none⟩) n cap2, .slice (some ⟨w2.heap.size, 0, none⟩) n n, .slice (some ⟨q4, 0, none⟩) n cap4, .int .i8 0, .slice none 0 0, .slice none 0 0, .slice none 0 0, .slice none 0 0] 77)) := (World.Since.refl _ _).alloc (Nat.le_refl _) _
  have hP6 : (wS.alloc (.cells #[.slice (some ⟨q2, 0, none⟩) n cap2, .slice (some ⟨w2.heap.size, 0, none⟩) n n, .slice (some ⟨q4, 0, none⟩) n cap4, .int .i8 0, .slice none 0 0, .slice none 0 0, .slice none 0 0, .slice none 0 0] 77)).rowIs w4.heap.size 77 8 (pf (.slice (some ⟨q2, 0, none⟩) n cap2) (.slice (some ⟨w2.heap.size, 0, none⟩) n n) (.slice (some ⟨q4, 0, none⟩) n cap4) (.int .i8 0) (.slice none 0 0) (.slice none 0 0) (.slice none 0 0) (.slice none 0 0)) := by
    rw [← hsz]
    exact World.rowIs_alloc wS #[_, _, _, _, _, _, _, _] _ _ (fun i hi => match i, hi with
      | 0, _ => rfl
      | 1, _ => rfl
      | 2, _ => rfl
      | 3, _ => rfl
      | 4, _ => rfl
      | 5, _ => rfl
      | 6, _ => rfl
      | 7, _ => rfl)
  have hSset := hSs.of_block (hP5.block _ hSs.lt)
  have hkS4 := hkS.call hP5
  obtain ⟨w6, hw6⟩ : ∃ w6, w6 = wS.alloc (.cells #[.slice (some ⟨q2, 0, none⟩) n cap2, .slice (some ⟨w2.heap.size, 0, none⟩) n n, .slice (some ⟨q4, 0, none⟩) n cap4, .int .i8 0, .slice none 0 0, .slice none 0 0, .slice none 0 0, .slice none 0 0] 77) := ⟨_, rfl⟩
  rw [← hw6] at hSset hkS4 hP6
  rw [hwS] at hw6
  have HW6 := hid hw6
  have hGq : Gr w6 w.heap.size 56 (.slice (some ⟨q, 0, none⟩) n cap) n (fun i => .int .u64 (c i)) := HQ1.out.types.kept' (fun k hk => by
    simp only [Value.ownBlock, Option.some.injEq] at hk
    subst hk
    exact (hkS4.block q (by omega) (by omega)).trans (HS14.out.block q hqlt))
  have hix : w6.rowIs w.heap.size 3 n (fun i => .int .i64 i) := (HQ1.out.idx.of_block (HS14.out.block _ HQ1.out.idx.lt)).of_block (hkS4.block _ (by have := HQ1.out.idx.lt; omega) (by have := HQ1.out.ne1; omega))
  have hzz : Sees w6 (some ⟨q2, 0, none⟩) q2 0 n cap2 (fun i => .int .u64 (z i)) := hkS4.sees (HG4.out.sees0 h0) (fun _ => by omega)
  have hkk : w6.rowIs w2.heap.size 88 n (fun i => .int .u8 (kd i)) := hkS4.row HBR4.out (by omega)
  have hvv : Sees w6 (some ⟨q4, 0, none⟩) q4 0 n cap4 (fun i => .int .i32 (vl i)) := hkS4.sees (HV4.out.sees0 h0) (fun _ => by omega)
  have hq2g := (HG4.out.ge q2 rfl).1
  have HRP := hid (resolvePaired_any (xi := fun i => i) (N := n) (F := c) (z := z) (kd0 := kd) (vl0 := vl) (s := s) (lv := lv) w6 hSset rfl rfl rfl rfl rfl (hP6.cell (i := 0) (by omega)) (hP6.cell (i := 1) (by omega)) (hP6.cell (i := 2) (by omega)) hGq (Sees.ofRow hix) (by omega) hzz (by omega) (Sees.ofRow hkk) hvv (fun i hi => hi) hn (by omega) hkd hs hl0 hl1 h0)
  have hsf : w.Since w.heap.size w6 := since_kp (since2 HS1.out HS14.out) hkS4 (by have := HS1.out.size; omega) (fun k hk => by rw [hk]; exact hSge)
  have HSF := hid hsf
  have HSR := hid hSset
  clear hSs hSset hkS hkS4 hP6 hw6 hGq hix hzz hkk hvv hP5 hSr4 hsf hwS
  go_upto_region 3 with fail
  rw [← HW6.out]
  clear a0 y0
  go_wp2_with fail
  refine HRP.out.mono ?_
  rintro en w7 ⟨rfl, hc7⟩
  have hS7 := hc7.kept.row HSR.out (fun e => hqS e.symm)
  have c2 : w7.cell? ⟨S, 2, none⟩ = some (.slice (some ⟨q, 0, none⟩) n cap) := hS7.cell (by omega)
  have HC7 := hid hc7
  clear hc7 hS7
  go_wp2_with fail
  go_ret
  refine ⟨_, _, _, _, rfl, HC7.out.types.sees0 h0, hqge, since_kp HSF.out HC7.out.kept HSF.out.size (fun k hk => by rw [hk]; exact hqge)⟩

/-- The strong value of a number. -/
def gN (t : Int) : Int := gs (cls t)

theorem n0_cls {m : Nat → Bool} {s e : Int} {T : Nat → Int} {p : Nat × Nat} (hs : s = 0 ∨ s = 1) (he : e = 0 ∨ e = 1) : n0 gs m s e (fun i => cls (T i)) p = fun i => cls (n0 gN m s e T p i) := by
  have hv : ∀ v : Int, v = 0 ∨ v = 1 → cls v = v := fun v h => by rcases h with rfl | rfl <;> rfl
  have hb := bfr_side (g := fun i => gs (cls (T i))) hs (fun i => gs_cases _) p.1
  have hset : ∀ v : Int, v = 0 ∨ v = 1 → setB m p.1 p.2 v (fun i => cls (T i)) = fun i => cls (setB m p.1 p.2 v T i) := fun v h => by
    funext i
    unfold setB
    by_cases q : mkB m p.1 p.2 i = true
    · rw [if_pos q, if_pos q, hv v h]
    · rw [if_neg q, if_neg q]
  unfold n0
  by_cases h1 : hasS (fun i => gs (cls (T i))) p.1 p.2 e = true
  · have h1' : hasS (fun i => gN (T i)) p.1 p.2 e = true := h1
    rw [if_pos h1, hset e he]
    funext i
    rw [if_pos h1']
  · have h1' : ¬ hasS (fun i => gN (T i)) p.1 p.2 e = true := h1
    rw [if_neg h1]
    by_cases h2 : hasS (fun i => gs (cls (T i))) p.1 p.2 (1 - e) = true
    · have h2' : hasS (fun i => gN (T i)) p.1 p.2 (1 - e) = true := h2
      rw [if_pos h2, hset _ hb]
      funext i
      rw [if_neg h1', if_pos h2']
      rfl
    · have h2' : ¬ hasS (fun i => gN (T i)) p.1 p.2 (1 - e) = true := h2
      rw [if_neg h2]
      funext i
      rw [if_neg h1', if_neg h2']

theorem n0s_cls {m : Nat → Bool} {s e : Int} (hs : s = 0 ∨ s = 1) (he : e = 0 ∨ e = 1) : ∀ (L : List (Nat × Nat)) (T : Nat → Int), n0s gs m s e (fun i => cls (T i)) L = fun i => cls (n0s gN m s e T L i)
  | [], T => rfl
  | p :: L, T => by
    show n0s gs m s e (n0 gs m s e (fun i => cls (T i)) p) L = _
    rw [n0_cls hs he]
    exact n0s_cls hs he L _

theorem n0_ok {Q : Int → Prop} {m : Nat → Bool} {s e : Int} {T : Nat → Int} {p : Nat × Nat} (h0 : Q 0) (h1 : Q 1) (hs : s = 0 ∨ s = 1) (he : e = 0 ∨ e = 1) (hT : ∀ i, Q (T i)) : ∀ i, Q (n0 gN m s e T p i) := fun i => by
  have hb := bfr_side (g := fun i => gN (T i)) hs (fun i => gs_cases _) p.1
  have hset : ∀ v : Int, v = 0 ∨ v = 1 → Q (setB m p.1 p.2 v T i) := fun v h => by
    unfold setB
    by_cases q : mkB m p.1 p.2 i = true
    · rw [if_pos q]; rcases h with rfl | rfl
      · exact h0
      · exact h1
    · rw [if_neg q]; exact hT i
  unfold n0
  split
  · exact hset e he
  · split
    · exact hset _ hb
    · exact hT i

theorem n0s_ok {Q : Int → Prop} {m : Nat → Bool} {s e : Int} (h0 : Q 0) (h1 : Q 1) (hs : s = 0 ∨ s = 1) (he : e = 0 ∨ e = 1) : ∀ (L : List (Nat × Nat)) (T : Nat → Int), (∀ i, Q (T i)) → ∀ i, Q (n0s gN m s e T L i)
  | [], T, hT => hT
  | p :: L, T, hT => n0s_ok h0 h1 hs he L _ (n0_ok h0 h1 hs he hT)

set_option maxHeartbeats 4000000 in
set_option maxRecDepth 100000 in
theorem implBrackets_any {at_ az ak av : Option Addr} {bt ot ct bz oz cz bk' ok ck bv ov cv n : Nat} {x z kd vl : Nat → Int} {lv s : Int} (w : World) (ht : Tab w) (hn : n ≤ 2147483647) (h0 : 0 < n)
    (hx : Sees w at_ bt ot n ct (fun i => .int .i64 (x i))) (hz : Sees w az bz oz n cz (fun i => .int .i64 (z i))) (hk : Sees w ak bk' ok n ck (fun i => .int .i64 (kd i))) (hv : Sees w av bv ov n cv (fun i => .int .i64 (vl i)))
    (hxo : ∀ i, clsOk (x i)) (hkd : ∀ j, j < n → kd j = 0 ∨ kd j = 1 ∨ kd j = 2) (hvl : ∀ j, j < n → 0 ≤ vl j ∧ vl j ≤ 1114111) (hs : s = 0 ∨ s = 1) (hl0 : 0 ≤ lv) (hl1 : lv ≤ 125) :
    Calls Tryd.prog 22 #[.slice at_ n ct, .slice az n cz, .slice ak n ck, .slice av n cv, .int .i64 lv, .int .i64 s] w (RetSees w n (fun i => .int .i64 (n0s gN (fun i => decide (cls (z i) = 12)) s (lv % 2) x (pairsOf kd vl (fun i => cls (x i)) n) i))) := by
  have HX := hid hxo
  have HKD := hid hkd
  have hlw : IntKind.i8.wrap lv = lv := by simp [IntKind.wrap, IntKind.bits, IntKind.signed]; omega
  have he : lv % 2 = 0 ∨ lv % 2 = 1 := by omega
  have HE := hid he
  have hcs : cls s = s := by rcases hs with rfl | rfl <;> rfl
  clear hxo hkd he
  go_enter Tryd.func22, Tryd.ntmps22
  go_wp2_with fail
  refine (classesOf_any _ ht (by omega) hx).mono ?_
  rintro e w1 ⟨a1, b1, o1, c1, rfl, hs1, hf1, hsi1⟩
  have ht1 := ht.since hsi1
  have hz1 := hz.since hsi1
  have hk1 := hk.since hsi1
  have hv1 := hv.since hsi1
  clear ht hx hz hk hv
  go_wp2_with fail
  refine (classesOf_any _ ht1 (by omega) hz1).mono ?_
  rintro e w2 ⟨a2, b2, o2, c2, rfl, hs2, hf2, hsi2⟩
  have ht2 := ht1.since hsi2
  have hc2 := hs1.since hsi2
  have hk2 := hk1.since hsi2
  have hv2 := hv1.since hsi2
  have hs02 := since2 hsi1 hsi2
  clear ht1 hs1 hk1 hv1 hz1
  go_wp2_with fail
  refine (bytesOf_any _ (by omega) hk2).mono ?_
  rintro e w3 ⟨a3, b3, o3, c3, rfl, hs3, hf3, hsi3⟩
  have ht3 := ht2.since hsi3
  have hc3 := hc2.since hsi3
  have hz3 := hs2.since hsi3
  have hv3 := hv2.since hsi3
  have hs03 := since2 hs02 hsi3
  clear ht2 hc2 hs2 hk2 hv2
  go_wp2_with fail
  refine (runesOf_any _ (by omega) hv3).mono ?_
  rintro e w4 ⟨a4, b4, o4, c4, rfl, hs4, hf4, hsi4⟩
  have ht4 := ht3.since hsi4
  have hc4 := hc3.since hsi4
  have hz4 := hz3.since hsi4
  have hb4 := (hs3.since hsi4).congr (g := fun i => .int .u8 (kd i)) (fun i hi => by
    have h := HKD.out i hi
    have : IntKind.u8.wrap (kd i) = kd i := by rcases h with h | h | h <;> rw [h] <;> decide
    rw [this])
  have hr4 := hs4.congr (g := fun i => .int .i32 (vl i)) (fun i hi => by
    have h := hvl i hi
    have : IntKind.i32.wrap (vl i) = vl i := by simp [IntKind.wrap, IntKind.bits, IntKind.signed]; omega
    rw [this])
  have hs04 := since2 hs03 hsi4
  clear ht3 hc3 hz3 hs3 hs4 hv3 hvl
  go_wp2_with fail
  refine (classOf_any _ _ ht4).mono ?_
  rintro e w5 ⟨rfl, rfl⟩
  rw [hcs]
  clear hcs
  go_wp2_with fail
  refine (bidiBrackets_any (lv := lv) _ hn h0 hc4 hz4 hb4 hr4 HKD.out hs hl0 (by omega)).mono ?_
  rintro e w6 ⟨a6, b6, o6, c6, rfl, hs6, hf6, hsi6⟩
  have ht6 := ht4.since hsi6
  have hs06 := since2 hs04 hsi6
  have hs6' : Sees w6 a6 b6 o6 n c6 (fun i => .int .u64 (cls (n0s gN (fun i => decide (cls (z i) = 12)) s (lv % 2) x (pairsOf kd vl (fun i => cls (x i)) n) i))) := by
    have h1 := hs6
    rw [n0s_cls hs HE.out] at h1
    exact h1
  clear hc4 hz4 hb4 hr4 ht4 hs6
  go_wp2_with fail
  refine (numbersOf_any _ ht6 (by omega) (fun i _ => n0s_ok (Q := clsOk) ⟨by omega, by omega⟩ ⟨by omega, by omega⟩ hs HE.out _ _ HX.out i) hs6').mono ?_
  rintro e w7 ⟨a7, b7, o7, c7, rfl, hs7, hf7, hsi7⟩
  have HS7 := hid hs7
  have HS07 := hid (since2 hs06 hsi7)
  have hz06 := hs06.size
  clear hs7 hsi7 hs06 hs6'
  go_wp2_with fail
  go_ret
  exact ⟨_, _, _, _, rfl, HS7.out, by omega, HS07.out⟩
end Go.Proofs.YtmaieenphcnefaaDoor
