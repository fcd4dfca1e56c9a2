/- (*paragraph).run: a paragraph is resolved. -/
import Derived.Test.YtkocpijloiamcaaDoorRun0
import Derived.Test.YtkocpijloiamcaaDoorExpI
import Derived.Test.YtkocpijloiamcaaDoorGC
import Derived.Test.YtkocpijloiamcaaDoorGE
import Derived.Test.YtkocpijloiamcaaDoorGL
import Derived.Deep.DeepCutAuto
namespace Go.Proofs.YtkocpijloiamcaaDoor
open Go.RowKit
set_option linter.unusedVariables false
set_option linter.unusedSimpArgs false

/-- The level of a paragraph: as it is given, or that of P2 and P3. -/
def baseP (x : Nat → Int) (N : Nat) (g : Int) : Int := if g = -1 then fsN x 0 N 0 N else g

theorem baseP_or {x : Nat → Int} {N : Nat} {g : Int} (h : g = -1 ∨ g = 0 ∨ g = 1) : baseP x N g = 0 ∨ baseP x N g = 1 := by
  unfold baseP
  split
  · exact fsN_small _ _ _ _
  · omega

/-- The sequences as determineIsolatingRunSequences leaves them. -/
theorem sk_of {w7 : World} {x cl : Nat → Int} {base : Int} {N p T capT R M B B2 : Nat} {v : Value} {Sf Tf : Nat → Nat} (hN : N ≤ 8589934592) (h0 : 0 < N) (hb : base = 0 ∨ base = 1) (hB7 : ∀ i, i < N → x i = 7 → N ≤ i + 1)
    (hcl : ∀ i, i < N → remN (x i) = false → cl i = lvl x (fsI N x) base i)
    (hS : Sqs w7 B2 p N base (fun i => cls (tI x (fsI N x) base i)) cl (lvR x (fsI N x) base) v (CHS x base N) Sf Tf) (hB2 : M ≤ B2)
    {a1 a2 : Int} (hT : w7.cell? ⟨T, 0, none⟩ = some (.int .u64 a1)) (hR : w7.cell? ⟨R, 0, none⟩ = some (.int .i8 a2)) : Sk w7 x base N p T R M (CHS x base N) Sf Tf := by
  have hc := chs_ok (x := x) (n := N) hb hB7
  have hhd : ∀ j, j < (CHS x base N).length → cl (hd0 ((CHS x base N).getD j [])) = sqV x base N ((CHS x base N).getD j []) := fun j hj => by
    have hm : hd ((CHS x base N).getD j []) < N ∧ remN (x (hd ((CHS x base N).getD j []))) = false := hc.mem _ (getD_memL hj) _ (getD_mem0 (len_pos (hc.ch _ (getD_memL hj)).ne))
    show cl (hd ((CHS x base N).getD j [])) = lvR x (fsI N x) base (hd ((CHS x base N).getD j []))
    rw [lvR_of hm.2]
    exact hcl _ hm.1 hm.2
  have hrow : ∀ j, j < (CHS x base N).length → ∃ a b c, Sx w7 p (Sf j) (Tf j) b c a ((CHS x base N).getD j []) (.slice none 0 0) (sqV x base N ((CHS x base N).getD j [])) (sqS x base N ((CHS x base N).getD j [])) (sqE x base N ((CHS x base N).getD j [])) ∧
      w7.rowIs (Tf j) 67 ((CHS x base N).getD j []).length (fun i => .int .u64 (sqC x base N ((CHS x base N).getD j []) i)) := fun j hj => by
    obtain ⟨a, b, c, q1, q2, q3, q4⟩ := (hS.ok j hj).ex
    have hr := q3.row
    rw [hhd j hj] at hr
    exact ⟨a, b, c, ⟨hr, q1⟩, q3.types.congr (fun i hi => by
      unfold sqC CTP
      rw [if_pos hi])⟩
  have hlt : ∀ j, j < (CHS x base N).length → M ≤ Tf j ∧ Tf j < Sf j ∧ Sf j < w7.heap.size := fun j hj => by
    have h1 := (hS.ok j hj).lt
    have h2 := hS.ge j hj
    exact ⟨by omega, h1.1, h1.2⟩
  refine ⟨fun j hj => ?_, hlt, hS.ord⟩
  obtain ⟨a, b, c, q1, q2⟩ := hrow j hj
  have hpos := len_pos (hc.ch _ (getD_memL hj)).ne
  have hb0 := (q1.idx.get hpos).2
  have hb1 : w7.cell? ⟨b, 0, none⟩ = some (.int .i64 (((((CHS x base N).getD j []).getD 0 0 : Nat)) : Int)) := hb0
  refine ⟨a, b, c, q1, q2, ne_of_cell hb1 hT (by simp), ne_of_cell hb1 hR (by simp), fun i hi => ?_, World.block_lt_of_cell? _ _ hb1⟩
  obtain ⟨a', b', c', r1, r2⟩ := hrow i hi
  have s1 := r1.row.cell (i := 0) (by omega)
  have s2 := r2.cell (i := 0) (len_pos (hc.ch _ (getD_memL hi)).ne)
  exact ⟨ne_of_cell hb1 s1 (by simp [sf]), ne_of_cell hb1 s2 (by simp)⟩

theorem nodup_path {S : Nat → Nat → Prop} {l : List Nat} (h : Path S l) (hS : ∀ i j, S i j → i < j) : ∀ j k, j < k → k < l.length → l.getD j 0 < l.getD k 0 := by
  intro j k hjk
  induction k with
  | zero => omega
  | succ k ih =>
    intro hk
    have h1 := hS _ _ (h k hk)
    by_cases e : j = k
    · rw [e]; exact h1
    · have := ih (by omega) (by omega)
      omega

set_option maxHeartbeats 40000000 in
set_option maxRecDepth 100000 in
theorem run_any {p b0 c0 bt ct bv cv T capT N B : Nat} {lv0 : Int} {x kd vl : Nat → Int} (w : World) (hN : N ≤ 8589934592) (hNB : N ≤ 2147483647 ∨ ∀ j, j < N → kd j = 0) (h0 : 0 < N) (hlv : lv0 = -1 ∨ lv0 = 0 ∨ lv0 = 1) (hok : ∀ i, i < N → clsOk (x i)) (hB7 : ∀ i, i < N → x i = 7 → N ≤ i + 1)
    (hkd : ∀ j, j < N → kd j = 0 ∨ kd j = 1 ∨ kd j = 2)
    (hp : w.rowIs p 70 8 (pf (.slice (some ⟨b0, 0, none⟩) N c0) (.slice (some ⟨bt, 0, none⟩) N ct) (.slice (some ⟨bv, 0, none⟩) N cv) (.int .i8 lv0) (.slice (some ⟨T, 0, none⟩) N capT) (.slice none 0 0) (.slice none 0 0) (.slice none 0 0)))
    (hi : Sees w (some ⟨b0, 0, none⟩) b0 0 N c0 (fun i => .int .u64 (cls (x i)))) (hk : Sees w (some ⟨bt, 0, none⟩) bt 0 N ct (fun i => .int .u8 (kd i))) (hv : Sees w (some ⟨bv, 0, none⟩) bv 0 N cv (fun i => .int .i32 (vl i)))
    (hT : Gr w B 67 (.slice (some ⟨T, 0, none⟩) N capT) N (fun i => .int .u64 (cls (x i)))) (d1 : p ≠ b0 ∧ p ≠ bt ∧ p ≠ bv ∧ p ≠ T) (d2 : T ≠ b0 ∧ T ≠ bt ∧ T ≠ bv) :
    Calls Tryd.prog 53 #[.pointer (some ⟨p, 0, none⟩)] w fun e w' => e = .returned (.tuple #[]) ∧ ∃ R N6 N7 ft fl, Done x kd vl (baseP x N lv0) N ft fl ∧ w.heap.size ≤ R ∧
      w'.rowIs p 70 8 (pf (.slice (some ⟨b0, 0, none⟩) N c0) (.slice (some ⟨bt, 0, none⟩) N ct) (.slice (some ⟨bv, 0, none⟩) N cv) (.int .i8 (baseP x N lv0)) (.slice (some ⟨T, 0, none⟩) N capT) (.slice (some ⟨R, 0, none⟩) N N) (.slice (some ⟨N6, 0, none⟩) N N) (.slice (some ⟨N7, 0, none⟩) N N)) ∧
      Sees w' (some ⟨b0, 0, none⟩) b0 0 N c0 (fun i => .int .u64 (cls (x i))) ∧ Gr w' B 67 (.slice (some ⟨T, 0, none⟩) N capT) N (fun i => .int .u64 (ft i)) ∧ w'.rowIs R 62 N (fun i => .int .i8 (fl i)) ∧ Kp (fun k => k = p ∨ k = T) w w' := by
  have HOK := Lib.hid hok
  have HB7 := Lib.hid hB7
  have HKD := Lib.hid hkd
  have HNB := Lib.hid hNB
  clear hNB
  have hTlt := (hT.ge T rfl).2
  have hTB := (hT.ge T rfl).1
  have hplt := hp.lt
  have hb0lt := hi.lt h0
  have hbtlt := hk.lt h0
  have hbvlt := hv.lt h0
  have HI := Lib.hid hi
  have HK := Lib.hid hk
  have HV := Lib.hid hv
  have HT := Lib.hid hT
  have HD1 := Lib.hid d1
  have HD2 := Lib.hid d2
  have HLV := Lib.hid hlv
  have hTS := hT.sees' h0
  clear hok hB7 hkd hi hk hv
  go_enter Tryd.func53, Tryd.ntmps53
  go_wp2_with fail
  refine (dmi_any _ (by omega) hp hTS (fun _ e => HD1.out.2.2.2 e.symm)).mono ?_
  rintro e w1 ⟨rfl, hM⟩
  have hp1 := hM.para
  have he1 := hM.ends
  have hk1 := hM.kept
  have hbg1 := hM.begins
  obtain ⟨N6, hN6⟩ : ∃ N6, N6 = w.heap.size := ⟨_, rfl⟩
  obtain ⟨N7, hN7⟩ : ∃ N7, N7 = w.heap.size + 1 := ⟨_, rfl⟩
  rw [← hN7, ← hN6] at hp1
  rw [← hN6] at he1
  rw [← hN7] at hbg1
  have hn67 : w.heap.size ≤ N6 ∧ w.heap.size ≤ N7 ∧ N6 ≠ N7 := by omega
  clear hM hN6 hN7 hp hT hTS d1 d2
  -- the level
  have HBS := Lib.hid (baseP_or (x := x) (N := N) hlv)
  have c3 : w1.cell? ⟨p, 3, none⟩ = some (.int .i8 lv0) := hp1.cell (by omega)
  go_upto_if 10 with fail
  go_cut [] (fun wx => Hid (wx.rowIs p 70 8 (pf (.slice (some ⟨b0, 0, none⟩) N c0) (.slice (some ⟨bt, 0, none⟩) N ct) (.slice (some ⟨bv, 0, none⟩) N cv) (.int .i8 (baseP x N lv0)) (.slice (some ⟨T, 0, none⟩) N capT) (.slice none 0 0) (.slice (some ⟨N6, 0, none⟩) N N) (.slice (some ⟨N7, 0, none⟩) N N)) ∧ Kp (fun k => k = p) w1 wx))
  case first =>
    by_cases e : lv0 = -1
    · subst e
      have k0 : w1.cell? ⟨p, 0, none⟩ = some (.slice (some ⟨b0, 0, none⟩) N c0) := hp1.cell (by omega)
      have hxs : Sees w1 (some ⟨T, 0, none⟩) T 0 N capT (fun i => .int .u64 (cls (x i))) := hk1.sees (HT.out.sees' h0) (fun _ e => HD1.out.2.2.2 e.symm)
      go_wp2_with fail
      refine (len_any _ k0).mono ?_
      rintro e w2 ⟨rfl, rfl⟩
      have HB1 := Lib.hid (show baseP x N (-1) = fsN x 0 N 0 N from if_pos rfl)
      have HDP := Lib.hid (dpel_any (i0 := 0) (z := N) (c := fun i => cls (x i)) w1 (by omega) (Nat.le_refl _) (by omega) (fun _ _ _ => rfl) hp1 hxs he1 (fun i hi => by
        have h1 := HOK.out i hi
        unfold clsOk at h1
        obtain ⟨k, hk2⟩ := Int.eq_ofNat_of_zero_le h1.1
        have hk3 : k < 23 := by omega
        have key : ∀ j : Fin 23, 0 ≤ cls (j.val : Int) ∧ cls (j.val : Int) ≤ 24 := by decide
        rw [hk2]; exact key ⟨k, hk3⟩) (fun i _ hi _ => mat_le hi))
      have hFS := fsC_eq (x := x) (Nat.le_refl N) HOK.out 0
      have HP1 := Lib.hid hp1
      clear hxs k0 hp1 he1
      go_wp2_with fail
      refine HDP.out.mono ?_
      rintro e w2 ⟨rfl, hs2⟩
      rw [hFS, ← HB1.out]
      have hp2 := HP1.out.of_block (hs2.block _ HP1.out.lt)
      have c3' : w2.cell? ⟨p, 3, none⟩ = some (.int .i8 (-1)) := hp2.cell (by omega)
      have z3 := hp2.frozen 3
      have HR := Lib.hid (show (w2.setCell ⟨p, 3, none⟩ (.int .i8 (baseP x N (-1)))).rowIs p 70 8 _ ∧ Kp (fun k => k = p) w1 (w2.setCell ⟨p, 3, none⟩ (.int .i8 (baseP x N (-1)))) from ⟨pf_set3 hp2 (.int .i8 (baseP x N (-1))), ((Kp.refl (fun k => k = p) w1).call hs2).setCell (a := ⟨p, 3, none⟩) (.inl rfl) _⟩)
      clear hp2 hs2 HP1 HDP c3
      obtain ⟨BV, hBV⟩ : ∃ BV, BV = baseP x N (-1) := ⟨_, rfl⟩
      rw [← hBV] at HR ⊢
      go_wp2_with fail
      go_meet
      subst hBV
      exact HR
    · have eb : (lv0 == -1) = false := beq_eq_false_iff_ne.2 e
      have HR := Lib.hid (show w1.rowIs p 70 8 _ ∧ Kp (fun k => k = p) w1 w1 from ⟨by have h := hp1; rw [show lv0 = baseP x N lv0 from (if_neg e).symm] at h; exact h, Kp.refl _ _⟩)
      clear hp1 he1
      go_wp2_with fail
      go_meet
      exact HR
  case rest =>
    have hc0 := Hid.out hcut
    have hp2 := hc0.1
    have hk2 : Kp (fun k => k = p) w wc := hk1.trans hc0.2
    have he2 := hc0.2.row he1 (by omega)
    have hbg2 := hc0.2.row hbg1 (by omega)
    obtain ⟨w2, hw2⟩ : ∃ w2, w2 = wc := ⟨_, rfl⟩
    rw [← hw2] at hp2 hk2 he2 hbg2 ⊢
    clear hw2 hcut hc0 hp1 he1 hbg1 hk1 c3
    obtain ⟨base, hbase⟩ : ∃ base, base = baseP x N lv0 := ⟨_, rfl⟩
    rw [← hbase] at hp2 HBS
    have HBP := Lib.hid hbase
    clear hbase
    have HE2 := Lib.hid he2
    have HG2 := Lib.hid hbg2
    have HK2 := Lib.hid hk2
    have HP2 := Lib.hid hp2
    clear he2 hbg2 hk2
    have hmk := run_make_row' (P := Tryd.prog) 64 62 (.int .i8 0) 1 Tryd.underlying64 Tryd.infoLevel rfl .i64 .i64 N (by omega) (by omega)
    -- the levels
    go_upto_region 3 with fail
    go_cut [] (fun wx => Hid (wx.rowIs p 70 8 (pf (.slice (some ⟨b0, 0, none⟩) N c0) (.slice (some ⟨bt, 0, none⟩) N ct) (.slice (some ⟨bv, 0, none⟩) N cv) (.int .i8 base) (.slice (some ⟨T, 0, none⟩) N capT) (.slice (some ⟨w2.heap.size, 0, none⟩) N N) (.slice (some ⟨N6, 0, none⟩) N N) (.slice (some ⟨N7, 0, none⟩) N N)) ∧
      wx.rowIs w2.heap.size 62 N (fun _ => .int .i8 0) ∧ Kp (fun k => k = p) w2 wx))
    case first =>
      have k0 : w2.cell? ⟨p, 0, none⟩ = some (.slice (some ⟨b0, 0, none⟩) N c0) := hp2.cell (by omega)
      have k5 : (w2.alloc (.cells (madeCells #[.int .i8 0] N) 62)).cell? ⟨p, 5, none⟩ = some (.slice none 0 0) := (hp2.alloc _).cell (by omega)
      have z5 := (hp2.alloc (.cells (madeCells #[.int .i8 0] N) 62)).frozen 5
      go_wp2_with fail
      refine (len_any _ k0).mono ?_
      rintro e w4 ⟨rfl, rfl⟩
      go_wp2_with fail
      go_meet
      have r1 := World.rowIs_made w2 (.int .i8 0) N 62
      exact ⟨pf_set5 (hp2.alloc _) _, r1.setOther (a := ⟨p, 5, none⟩) (by have := hp2.lt; show w2.heap.size ≠ p; omega) _, ((Kp.refl (fun k => k = p) w2).alloc _).setCell (a := ⟨p, 5, none⟩) (.inl rfl) _⟩
    case rest =>
      clear hmk hp2
      have hc1 := Hid.out hcut
      obtain ⟨w3, hw3⟩ : ∃ w3, w3 = wc := ⟨_, rfl⟩
      rw [← hw3] at hc1 ⊢
      clear hw3 hcut
      obtain ⟨hp3, hl3, hk3⟩ := hc1
      obtain ⟨R, hR⟩ : ∃ R, R = w2.heap.size := ⟨_, rfl⟩
      rw [← hR] at hp3 hl3
      have hRge : w.heap.size ≤ R := by have := HK2.out.size; omega
      have hR6 : R ≠ N6 ∧ R ≠ N7 := by have := HE2.out.lt; have := HG2.out.lt; omega
      have hkw3 : Kp (fun k => k = p) w w3 := HK2.out.trans hk3
      have he3 := hk3.row HE2.out (by omega)
      have hbg3 := hk3.row HG2.out (by omega)
      clear hR hk3 HK2 HE2 HG2 HP2
      have c3 : w3.cell? ⟨p, 3, none⟩ = some (.int .i8 base) := hp3.cell (by omega)
      have c5 : w3.cell? ⟨p, 5, none⟩ = some (.slice (some ⟨R, 0, none⟩) N N) := hp3.cell (by omega)
      have H3 := Lib.hid (show ∀ nq, (w3.drewN nq).rowIs p 70 8 _ ∧ (w3.drewN nq).rowIs R 62 N _ ∧ Kp (fun k => k = p) w (w3.drewN nq) ∧ (w3.drewN nq).rowIs N6 3 N _ ∧ (w3.drewN nq).rowIs N7 3 N _ from fun nq => ⟨hp3.of_block rfl, hl3.of_block rfl, hkw3.drewN nq, he3.of_block rfl, hbg3.of_block rfl⟩)
      clear hp3 hl3 hkw3 he3 hbg3
      go_wp2_with fail
      refine wp_region_quiet_tail 8 (by kernel_rfl) (by kernel_rfl) ?_
      simp only [List.take_succ_cons, List.take_zero, List.drop_succ_cons, List.drop_zero]
      repeat (quiet_step (fail))
      refine wpQuiet_nil ?_
      rintro _ ⟨nq, rfl⟩
      obtain ⟨hp4, hl4, hk4, he4, hbg4⟩ := H3.out nq
      clear c3 c5 H3
      generalize w3.drewN nq = w4 at hp4 hl4 hk4 he4 hbg4 ⊢
      go_wp2_with fail
      refine (setLevels_any _ (by omega) hl4).mono ?_
      rintro e w5 ⟨rfl, hl5, hk5⟩
      have hp5 := hk5.row hp4 (by omega)
      have he5 := hk5.row he4 (fun e => hR6.1 e.symm)
      have hbg5 := hk5.row hbg4 (fun e => hR6.2 e.symm)
      have hkw5 : Kp (fun k => k = p ∨ k = R) w w5 := (hk4.mono (fun k _ e => .inl e)).trans (hk5.mono (fun k _ e => .inr e))
      have hT5 : Gr w5 B 67 (.slice (some ⟨T, 0, none⟩) N capT) N (fun i => .int .u64 (cls (x i))) := HT.out.kept' (fun k hk2 => by
        simp only [Value.ownBlock, Option.some.injEq] at hk2
        subst hk2
        exact hkw5.block _ hTlt (by rintro (e | e); exact HD1.out.2.2.2 e.symm; omega))
      have hcl : ∀ i, i < N → mt (iniC (fun i => cls (x i))) (pdiC (fun i => cls (x i))) N i = mt (iniN x) (pdiN x) N i := fun i hi => mt_congr (fun i hi => cls_ini (HOK.out i hi)) (fun i hi => by
        show (cls (x i) == 24) = (x i == 22)
        rw [cls_pdi (HOK.out i hi)]; unfold pdiB; rw [Bool.eq_iff_iff]; simp) hi
      have hcb : ∀ i, bg (iniC (fun i => cls (x i))) (pdiC (fun i => cls (x i))) N N i = bg (iniN x) (pdiN x) N N i := fun i => bg_congr (fun i hi => cls_ini (HOK.out i hi)) (fun i hi => by
        show (cls (x i) == 24) = (x i == 22)
        rw [cls_pdi (HOK.out i hi)]; unfold pdiB; rw [Bool.eq_iff_iff]; simp) N (Nat.le_refl _) i
      have HCL := Lib.hid hcl
      have HCB := Lib.hid hcb
      clear hcl hcb hp4 hl4 hk4 he4 hbg4 hk5
      go_wp2_with fail
      refine (dee_any (x := x) _ (by omega) h0 HBS.out HOK.out HB7.out hp5 hT5 hl5 he5 HD1.out.2.2.2 (by omega) (by omega) (by omega) (fun e => hR6.1 e.symm)).mono ?_
      rintro e w6 ⟨rfl, cl, hcl, hE⟩
      have hkw6 : Kp (fun k => k = p ∨ k = T ∨ k = R) w w6 := by
        have hz := hkw5.size
        exact (hkw5.mono (T := fun k => k = p ∨ k = T ∨ k = R) (fun k _ e => by rcases e with e | e; exact .inl e; exact .inr (.inr e))).next hE.kept (fun k hk e => by
          rcases e with e | e | e
          · exact .inr (.inl e)
          · exact .inr (.inr e)
          · omega)
      have hbg6 := hE.kept.row hbg5 (by have := hbg5.lt; rintro (e | e | e); omega; exact hR6.2 e.symm; omega)
      have hi6 : Sees w6 (some ⟨b0, 0, none⟩) b0 0 N c0 (fun i => .int .u64 (cls (x i))) := hkw6.sees HI.out (fun _ => by rintro (e | e | e); exact HD1.out.1 e.symm; exact HD2.out.1 e.symm; omega)
      have hP : PR w6 p N x base b0 c0 T capT R N6 N7 (fun i => cls (tI x (fsI N x) base i)) cl (fun i => mt (iniN x) (pdiN x) N i) (fun i => bg (iniN x) (pdiN x) N N i) :=
        ⟨hE.para.cell (by omega), hE.para.cell (by omega), hE.para.cell (by omega), hE.para.cell (by omega), hE.para.cell (by omega), hE.para.cell (by omega),
         fun i hi => by have := (hi6.get hi).2; rw [Nat.zero_add] at this; exact this, fun i hi => hE.types.cell hi, fun i hi => hE.levels.cell hi, fun i hi => by rw [hE.mts.cell hi, HCL.out i hi], fun i hi => by rw [hbg6.cell hi, HCB.out i], hi6, hE.levels⟩
      have hk6 : Sees w6 (some ⟨bt, 0, none⟩) bt 0 N ct (fun i => .int .u8 (kd i)) := hkw6.sees HK.out (fun _ => by rintro (e | e | e); exact HD1.out.2.1 e.symm; exact HD2.out.2.1 e.symm; omega)
      have hv6 : Sees w6 (some ⟨bv, 0, none⟩) bv 0 N cv (fun i => .int .i32 (vl i)) := hkw6.sees HV.out (fun _ => by rintro (e | e | e); exact HD1.out.2.2.1 e.symm; exact HD2.out.2.2 e.symm; omega)
      have HPG := Lib.hid (show Pg w6 x kd vl N p b0 c0 bt ct bv cv T capT R base from ⟨hE.para.cell (by omega), hE.para.cell (by omega), hE.para.cell (by omega), hE.para.cell (by omega), hE.para.cell (by omega), hE.para.cell (by omega), hi6, hk6, hv6⟩)
      have HDD := Lib.hid (show Dst p b0 bt bv T R w6.heap.size from by
        have hz := hkw6.size
        have hRlt := hE.levels.lt
        exact ⟨⟨HD1.out.2.2.2, by omega⟩, ⟨HD2.out.1.symm, by omega⟩, ⟨HD2.out.2.1.symm, by omega⟩, ⟨HD2.out.2.2.symm, by omega⟩, by omega, by omega⟩)
      have HPARA := Lib.hid hE.para
      have HTY := Lib.hid hE.types
      have HLE := Lib.hid hE.levels
      have HCLV := Lib.hid hcl
      have HKW6 := Lib.hid hkw6
      have HDI := Lib.hid (dirs_any w6 (by omega) h0 hP HOK.out HBS.out HB7.out hcl)
      clear hE hcl hP hi6 hk6 hv6 hkw6 hkw5 hbg5 hbg6 hp5 he5 hl5 hT5 HCL HCB
      go_wp2_with fail
      refine HDI.out.mono ?_
      rintro e w7 ⟨v, Sf, Tf, B2, rfl, hB2, hS0, hs7⟩
      have hT7 : w7.cell? ⟨T, 0, none⟩ = some (.int .u64 (cls (tI x (fsI N x) base 0))) := (HTY.out.since hs7).cell h0
      have hR7 : w7.cell? ⟨R, 0, none⟩ = some (.int .i8 (cl 0)) := (HLE.out.of_block (hs7.block _ HLE.out.lt)).cell h0
      have HSK := Lib.hid (sk_of (M := w6.heap.size) (capT := capT) (B := B) (by omega) h0 HBS.out HB7.out HCLV.out hS0 hB2 hT7 hR7)
      have hS : Sqs w7 B2 p N base (fun i => cls (tI x (fsI N x) base i)) cl (lvR x (fsI N x) base) v (CHS x base N) Sf Tf := hS0
      have HCH := Lib.hid (chs_ok (x := x) (n := N) HBS.out HB7.out)
      have hLN := chs_len (x := x) (base := base) (n := N)
      have HSC := Lib.hid (fun l (hl : l ∈ CHS x base N) => sqC_ok HBS.out HB7.out HOK.out hl)
      have HSV := Lib.hid (fun l (hl : l ∈ CHS x base N) => sqV_range HBS.out HB7.out hl)
      have HOUT := Lib.hid (show ∀ wx k, k < (CHS x base N).length → Kp (turned T R Sf Tf k) w7 wx → ∃ g cg, v = .slice (some ⟨g, 0, none⟩) (CHS x base N).length cg ∧ (CHS x base N).length ≤ cg ∧ wx.cell? ⟨g, k, none⟩ = some (.pointer (some ⟨Sf k, 0, none⟩)) from fun wx k hk hkp => by
        obtain ⟨g, cg, hvg, hgB⟩ := hS.outer.form (by omega)
        have ho := hS.outer
        rw [hvg] at ho
        obtain ⟨bq, _, hsee⟩ := ho.see
        refine ⟨g, cg, hvg, hsee.le, hkp.cell (ho.cell hk) ?_⟩
        have hM := HDD.out.lt
        refine turned_not (by show g ≠ T; omega) (by show g ≠ R; omega) fun j hj => ?_
        obtain ⟨a, b, c, _, _, _, q4⟩ := (hS.ok j (by omega)).ex
        have := q4 g (by rw [hvg]; rfl)
        exact ⟨this.2.2, this.2.1⟩)
      have HRN := Lib.hid (show Rn w7 x kd vl base N B T capT R (CHS x base N) Sf Tf 0 w7 from ⟨Kp.refl _ _, _, _, HTY.out.since hs7, HLE.out.of_block (hs7.block _ HLE.out.lt), fun j hj => absurd hj (Nat.not_lt_zero _)⟩)
      have HPG7 := Lib.hid (HPG.out.kp (Kp.since hs7 (fun _ => False)) (fun h => h) (fun h => h) (fun h => h) (fun h => h))
      have HROW7 := Lib.hid (HPARA.out.of_block (hs7.block _ HPARA.out.lt))
      have HK7 := Lib.hid (HKW6.out.call hs7)
      have hz67 := hs7.size
      have hvf : ∃ ao cg, v = .slice ao (CHS x base N).length cg := by
        obtain ⟨ao, cg, h⟩ := hS.outer.len
        exact ⟨ao, cg, h⟩
      obtain ⟨L, hL⟩ : ∃ L, L = CHS x base N := ⟨_, rfl⟩
      rw [← hL] at HSK HCH HSC HSV HOUT HRN hvf hLN
      obtain ⟨ao, cg, rfl⟩ := hvf
      have HL := Lib.hid hL
      clear hS0 hS hs7 hT7 hR7 HPG HPARA HTY HLE HDI HKW6 hL
      go_wp2_with fail
      go_loopg [3, 38] L.length (fun g _ i wr => ∃ k : Nat, k ≤ L.length ∧ g = L.length - k ∧ i = .int .i64 k ∧ Hid (Rn w7 x kd vl base N B T capT R L Sf Tf k wr))
      case atStart => exact ⟨0, Nat.zero_le _, rfl, rfl, HRN⟩
      case round =>
        clear HRN
        obtain ⟨k, hkl, rfl, rfl, HR⟩ := hrel
        by_cases hkn : k < L.length
        · have hkz : (k : Int) < (L.length : Int) := by omega
          obtain ⟨g, cg', hvv, hcg, hg⟩ := HOUT.out wr k hkn HR.out.kept
          simp only [Value.slice.injEq, true_and] at hvv
          obtain ⟨rfl, rfl⟩ := hvv
          obtain ⟨a, b, c, hX, hTy, e1, e2, e3, e4, e5⟩ := HR.out.seq HSK.out HDD.out hkn
          have hlm := getD_memL hkn
          have hch := HCH.out.ch _ hlm
          have hmem := HCH.out.mem _ hlm
          have hn0 := len_pos hch.ne
          have hSC := HSC.out _ hlm
          have hSV := HSV.out _ hlm
          have hlt := HSK.out.lt k hkn
          have hM := HDD.out.lt
          obtain ⟨ft, fl, hTr, hRr, hft⟩ := HR.out.ex
          have hpgr := HPG7.out.kp HR.out.kept (turned_low HSK.out hkl hM.1 HDD.out.pT.1 HDD.out.pT.2) (turned_low HSK.out hkl hM.2.1 HDD.out.b0T.1 HDD.out.b0T.2) (turned_low HSK.out hkl hM.2.2.1 HDD.out.btT.1 HDD.out.btT.2) (turned_low HSK.out hkl hM.2.2.2.1 HDD.out.bvT.1 HDD.out.bvT.2)
          have HSTEP := Lib.hid (fun w4 w5 cT cL h4 h5 hT => HR.out.step (w4 := w4) (w5 := w5) (B' := B) (cT := cT) (cL := cL) hkn HCH.out HBS.out HB7.out hft h4 h5 hT)
          obtain ⟨l, hl⟩ : ∃ l, l = L.getD k [] := ⟨_, rfl⟩
          rw [← hl] at hX hTy hlm hch hmem hn0 hSC hSV HSTEP
          have hlle : l.length ≤ N := by
            -- ascending places below N
            have hasc : ∀ t, t < l.length → t ≤ l.getD t 0 := by
              intro t
              induction t with
              | zero => intro _; omega
              | succ t ih =>
                intro ht
                have h1 := ih (by omega)
                have h2 := (hch.path t ht).1
                omega
            have h1 := hasc (l.length - 1) (by omega)
            have h2 := (hmem _ (getD_mem0 (show l.length - 1 < l.length by omega))).1
            omega
          have hinj : ∀ j k, j < k → k < l.length → l.getD j 0 ≠ l.getD k 0 := fun j k hjk hkl2 e => by
            have := nodup_path hch.path (fun i j h => h.1) j k hjk hkl2
            omega
          have hpl : ∀ i, i < l.length → pl N l i < N := fun i hi2 => by rw [pl_lt hi2]; exact (hmem _ (getD_mem0 hi2)).1
          have hs01 := dirN_side (max (befL (LVP x base N) base (hd l)) (sqV x base N l))
          have he01 := dirN_side (max (eosL (LVP x base N) (CTP x base N) base N (lst0 l)) (sqV x base N l))
          obtain ⟨so, hso⟩ : ∃ so, so = sqS x base N l := ⟨_, rfl⟩
          obtain ⟨eo, heo⟩ : ∃ eo, eo = sqE x base N l := ⟨_, rfl⟩
          obtain ⟨lv, hlvq⟩ : ∃ lv, lv = sqV x base N l := ⟨_, rfl⟩
          change sqS x base N l = 0 ∨ sqS x base N l = 1 at hs01
          change sqE x base N l = 0 ∨ sqE x base N l = 1 at he01
          have HT0 := Lib.hid (show sqT x kd vl base N l = resT l.length (sqC x base N l) (fun j => decide (cls (x (pl N l j)) = 12)) (fun j => kd (pl N l j)) (fun j => vl (pl N l j)) (lv % 2) so eo by rw [hlvq, hso, heo]; rfl)
          rw [← hso, ← heo, ← hlvq] at hX
          rw [← hso] at hs01
          rw [← heo] at he01
          rw [← hlvq] at hSV HSTEP
          obtain ⟨c0q, hc0q⟩ : ∃ c0q, c0q = sqC x base N l := ⟨_, rfl⟩
          rw [← hc0q] at hTy hSC HT0
          obtain ⟨S, hS⟩ : ∃ S, S = Sf k := ⟨_, rfl⟩
          obtain ⟨q, hq⟩ : ∃ q, q = Tf k := ⟨_, rfl⟩
          rw [← hS] at hX e3 hlt HSTEP hg
          rw [← hq] at hX hTy e4 hlt HSTEP
          have hsz : w7.heap.size ≤ wr.heap.size := HR.out.kept.size
          clear hl hso heo hlvq hc0q hS hq HR hft
          have hb : lv % 2 = 0 ∨ lv % 2 = 1 := by omega
          have hw0 : base = 0 ∨ base = 1 := HBS.out
          -- W1 to W7
          have hW := decide_eq_true (show ∀ i, i < l.length → memB weakL (c0q i) = true from hSC)
          have HA1 := Lib.hid (resolveWeak_any (B := 0) (c := c0q) wr (by omega) hn0 hs01 he01 hX.row (gr_of_row hTy (Nat.zero_le _) (by omega)) (by omega))
          have HX := Lib.hid hX
          have HPR := Lib.hid hpgr
          have HTR := Lib.hid hTr
          have HRR := Lib.hid hRr
          have HW := Lib.hid hW
          have HSCC := Lib.hid hSC
          clear hX hpgr hTr hRr hW hTy hSC
          go_wp2_with fail
          refine HA1.out.mono ?_
          rintro e v1 ⟨q1, k1⟩
          obtain ⟨_, rfl, g1⟩ := q1.resolve_right (fun h => by have h1 := h.1; unfold allB at h1; rw [HW.out] at h1; cases h1)
          have hX1 := HX.out.kp k1 (by omega) e4
          have hP1 := HPR.out.kp k1 (by omega) (by omega) (by omega) (by omega)
          have HWN := Lib.hid (show ∀ i, i < l.length → okN (weakI l.length so c0q i) from fun i hi2 => weakI_okN hs01 (fun j hj => HSCC.out j hj) hi2)
          have hix1 : Sees v1 a b 0 l.length c (fun i => .int .i64 ((pl N l i : Nat) : Int)) := hX1.idx.congr (fun i hi2 => by rw [pl_lt hi2]; rfl)
          have HA2 := Lib.hid (resolvePaired_any (xi := pl N l) (N := N) (z := fun i => cls (x i)) (kd0 := kd) (vl0 := vl) (s := so) (lv := lv) v1 hX1.row rfl rfl rfl rfl rfl hP1.k0 hP1.k1 hP1.k2 g1 hix1 e4 hP1.init (by omega) hP1.kinds hP1.vals hpl (by omega) (HNB.out.imp (fun h => by omega) id) (by omega) HKD.out hs01 (by omega) (by omega) hn0)
          have HK1 := Lib.hid k1
          clear hX1 hP1 hix1 g1 k1 HA1 q1
          go_wp2_with fail
          refine HA2.out.mono ?_
          rintro e v2 ⟨rfl, hc2⟩
          have k2 := HK1.out.trans hc2.kept
          have hX2 := HX.out.kp k2 (by omega) e4
          obtain ⟨F2, hF2⟩ : ∃ F2, F2 = n0s gs (fun j => decide (cls (x (pl N l j)) = 12)) so (lv % 2) (weakI l.length so c0q) (prs (bk (fun j => kd (pl N l j)) (fun j => vl (pl N l j)) (fun j => decide (weakI l.length so c0q j = 10)) l.length).cl l.length) := ⟨_, rfl⟩
          have g2 : Gr v2 0 67 (.slice (some ⟨q, 0, none⟩) l.length l.length) l.length (fun i => .int .u64 (F2 i)) := by rw [hF2]; exact hc2.types
          have hFN : ∀ i, i < l.length → okN (F2 i) := fun i hi2 => by
            rw [hF2]
            rcases n0s_okN (m := fun j => decide (cls (x (pl N l j)) = 12)) (s := so) (e := lv % 2) hs01 hb i (prs (bk (fun j => kd (pl N l j)) (fun j => vl (pl N l j)) (fun j => decide (weakI l.length so c0q j = 10)) l.length).cl l.length) (weakI l.length so c0q) with h | h
            · rw [h]; exact HWN.out i hi2
            · exact okN_side h
          have HFN := Lib.hid hFN
          have HN2 := Lib.hid (decide_eq_true (show ∀ i, i < l.length → memB [0, 1, 2, 5, 7, 8, 9, 10, 22, 21, 23, 24] (F2 i) = true from hFN))
          have HF2 := Lib.hid hF2
          have HA3 := Lib.hid (resolveNeutral_any (lv := lv) v2 (by omega) hn0 (by omega) (by omega) hs01 hX2.row g2 (by omega))
          have HK2 := Lib.hid k2
          clear hX2 g2 k2 hc2 HA2 HK1 hF2 hFN HWN
          go_wp2_with fail
          refine HA3.out.mono ?_
          rintro e v3 ⟨q3, k3⟩
          obtain ⟨_, rfl, g3⟩ := q3.resolve_right (fun h => by have h1 := h.1; unfold allB at h1; rw [HN2.out] at h1; cases h1)
          have k3' := HK2.out.trans k3
          have hX3 := HX.out.kp k3' (by omega) e4
          obtain ⟨F3, hF3⟩ : ∃ F3, F3 = neu so eo (lv % 2) l.length F2 := ⟨_, rfl⟩
          rw [← hF3] at g3
          have HF3 := Lib.hid (show F3 = sqT x kd vl base N l by rw [hF3, HF2.out, HT0.out]; rfl)
          have hF3N : ∀ i, i < l.length → memB [0, 1, 2, 5] (F3 i) = true := fun i hi2 => by
            have := neu_in (eos := eo) hs01 hb HFN.out hi2
            rw [← hF3] at this
            rcases this with h | h | h | h <;> rw [h] <;> rfl
          have HN3 := Lib.hid (decide_eq_true hF3N)
          have HA4 := Lib.hid (resolveImplicit_any (lv := lv) v3 (by omega) hn0 (by omega) (by omega) hX3.row g3 (by omega))
          have HK3 := Lib.hid k3'
          clear hX3 g3 k3 k3' q3 HA3 HK2 hF3 hF3N HF2 HFN HN2 HT0
          go_wp2_with fail
          refine HA4.out.mono ?_
          rintro e v4 hi4
          obtain ⟨_, rfl, r, hIm⟩ := hi4.resolve_right (fun h => by have h1 := h.1; unfold allB at h1; rw [HN3.out] at h1; cases h1)
          have k4 : Kp (fun b => b = S ∨ b = q) wr v4 := (HK3.out.mono (T := fun b => b = S ∨ b = q) (fun k _ e => .inr e)).trans (hIm.kept.mono (fun k _ e => .inl e))
          have hix4 := k4.sees HX.out.idx (fun _ => by rintro (e | e); exact e3 e; exact e4 e)
          have hP4 := HPR.out.kp k4 (by omega) (by omega) (by omega) (by omega)
          have hT4 : Gr v4 B 67 (.slice (some ⟨T, 0, none⟩) N capT) N (fun i => .int .u64 (ft i)) := HTR.out.kept' (fun k hk2 => by
            simp only [Value.ownBlock, Option.some.injEq] at hk2
            subst hk2
            exact k4.block _ (HTR.out.ge _ rfl).2 (by omega))
          have hR4 := k4.row HRR.out (by omega)
          have hz3 := HK3.out.size
          have hrge := hIm.ge
          have HA5 := Lib.hid (apply_any (p := p) (T := T) (R := R) (B := B) (N := N) (l := l) (cT := F3) (cL := fun j => imp lv (F3 j)) (ft := ft) (fl := fl) v4 (by omega) (by omega) rfl hIm.row hP4.k4 hP4.k5 hT4 hR4 hix4 (fun j hj => (hmem _ (getD_mem0 hj)).1) hinj
            (fun j hj => hIm.types.cell hj) (fun j hj => hIm.levels.cell hj) (by omega) HDD.out.pT (by omega) (by omega) ⟨e1, e2⟩ HDD.out.TR)
          have HK4 := Lib.hid k4
          clear hix4 hP4 hT4 hR4 hIm hi4 HA4 HX HPR HTR HRR HK3 k4
          go_wp2_with fail
          refine HA5.out.mono ?_
          rintro e v5 ⟨rfl, hAp⟩
          have HN := Lib.hid (HSTEP.out v4 v5 F3 (fun j => imp lv (F3 j)) HK4.out hAp (fun t _ => ⟨by rw [HF3.out], by rw [HF3.out]⟩))
          clear hAp HA5
          go_wp2_with fail
          go_roundg (L.length - (k + 1))
          case rel => exact ⟨k + 1, by omega, rfl, by go_num, HN⟩
          case measure => omega
        · obtain rfl : k = L.length := by omega
          have hM := HDD.out.lt
          obtain ⟨ft, fl, hTr, hRr, hft⟩ := HR.out.ex
          have hnp := turned_low HSK.out hkl hM.1 HDD.out.pT.1 HDD.out.pT.2
          have hpgr := HPG7.out.kp HR.out.kept hnp (turned_low HSK.out hkl hM.2.1 HDD.out.b0T.1 HDD.out.b0T.2) (turned_low HSK.out hkl hM.2.2.1 HDD.out.btT.1 HDD.out.btT.2) (turned_low HSK.out hkl hM.2.2.2.1 HDD.out.bvT.1 HDD.out.bvT.2)
          have hnn : ∀ i, i < N → remN (x i) = false → 0 ≤ fl i := fun i hi2 hr => by
            obtain ⟨l, hl, hm⟩ := HCH.out.cov i hi2 hr
            obtain ⟨j, hj, rfl⟩ := memL_getD hl
            obtain ⟨t, ht, rfl⟩ := memN_getD hm
            rw [(hft j hj t ht).2]
            have h1 := HSV.out _ hl
            have h2 := imp_range (v := sqT x kd vl base N (L.getD j []) t) (show 0 ≤ sqV x base N (L.getD j []) by have := HBS.out; omega) h1.2
            have := HBS.out
            omega
          have HAS := Lib.hid (assignX9_any (x := x) (ft := ft) (fl := fl) wr (by omega) h0 HOK.out hpgr.k0 hpgr.k3 hpgr.k4 hpgr.k5 hpgr.init hTr hRr hnn (by have := HBS.out; omega) HDD.out.pT HDD.out.b0T HDD.out.TR)
          have HIN := Lib.hid hpgr.init
          have HFT := Lib.hid hft
          clear hpgr hTr hRr hft hnn
          go_wp2_with fail
          refine HAS.out.mono ?_
          rintro e wf ⟨rfl, hAs⟩
          go_wp2_with fail
          go_end0
          have hfill : ∀ i, remN (x i) = false → fillL x fl base i = fl i := fun i hr => by
            cases i with
            | zero => exact if_neg (by rw [hr]; decide)
            | succ i => exact if_neg (by rw [hr]; decide)
          rw [← HBP.out]
          refine ⟨rfl, R, N6, N7, _, _, ⟨fun l hl j hj => ?_, fun l hl j hj => ?_, fun i _ hr => if_pos hr, fun _ hr => if_pos hr, fun i _ hr => if_pos hr⟩, hRge, hAs.kept.row (HR.out.kept.row HROW7.out hnp) (by rintro (e | e); exact HDD.out.pT.1 e; exact HDD.out.pT.2 e),
            hAs.kept.sees HIN.out (fun _ => by rintro (e | e); exact HDD.out.b0T.1 e; exact HDD.out.b0T.2 e), hAs.types, hAs.levels, ?_⟩
          · rw [← HL.out] at hl
            have hr := (HCH.out.mem l hl _ (getD_mem0 hj)).2
            obtain ⟨q, hq, rfl⟩ := memL_getD hl
            rw [if_neg (by rw [hr]; decide)]
            exact (HFT.out q hq j hj).1
          · rw [← HL.out] at hl
            have hr := (HCH.out.mem l hl _ (getD_mem0 hj)).2
            obtain ⟨q, hq, rfl⟩ := memL_getD hl
            rw [hfill _ hr]
            exact (HFT.out q hq j hj).2
          · have hz := HK7.out.size
            refine ((HK7.out.mono (T := fun k => k = p ∨ k = T) (fun k hk2 e => ?_)).next HR.out.kept (fun k hk2 e => ?_)).next hAs.kept (fun k hk2 e => ?_)
            · rcases e with e | e | e
              · exact .inl e
              · exact .inr e
              · omega
            · rcases e with e | e | ⟨j, hj, e⟩
              · exact .inr e
              · omega
              · have := HSK.out.lt j hj
                omega
            · rcases e with e | e
              · exact .inr e
              · omega
end Go.Proofs.YtkocpijloiamcaaDoor
