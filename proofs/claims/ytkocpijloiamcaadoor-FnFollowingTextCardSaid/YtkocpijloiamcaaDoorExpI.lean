/- (*paragraph).determineExplicitEmbeddingLevels (X1 to X8): the walk. -/
import Derived.Test.YtkocpijloiamcaaDoorGE
namespace Go.Proofs.YtkocpijloiamcaaDoor
open Go.RowKit
set_option linter.unusedVariables false

set_option maxHeartbeats 40000000 in
set_option maxRecDepth 100000 in
theorem dee_any {B p T R N6 capT n : Nat} {f0 f1 f2 f7 : Value} {base : Int} {x cl0 : Nat → Int} (w : World) (hn : n ≤ 8589934592) (h0 : 0 < n) (hb : base = 0 ∨ base = 1) (hok : ∀ i, i < n → clsOk (x i)) (hB : ∀ i, i < n → x i = 7 → n ≤ i + 1)
    (hp : w.rowIs p 70 8 (pf f0 f1 f2 (.int .i8 base) (.slice (some ⟨T, 0, none⟩) n capT) (.slice (some ⟨R, 0, none⟩) n n) (.slice (some ⟨N6, 0, none⟩) n n) f7))
    (hg : Gr w B 67 (.slice (some ⟨T, 0, none⟩) n capT) n (fun i => .int .u64 (cls (x i)))) (hl : w.rowIs R 62 n (fun i => .int .i8 (cl0 i)))
    (hm : w.rowIs N6 3 n (fun i => .int .i64 (mt (iniC (fun i => cls (x i))) (pdiC (fun i => cls (x i))) n i))) (d1 : p ≠ T) (d2 : p ≠ R) (d3 : T ≠ R) (d4 : N6 ≠ T) (d5 : N6 ≠ R) :
    Calls Tryd.prog 60 #[.pointer (some ⟨p, 0, none⟩)] w fun e w' => e = .returned (.tuple #[]) ∧ ∃ cl, (∀ i, i < n → remN (x i) = false → cl i = lvl x (fsI n x) base i) ∧
      EX w B p w.heap.size T R N6 capT n f0 f1 f2 f7 base (fun i => cls (x i)) (fun i => cls (tI x (fsI n x) base i)) cl w' := by
  have hp' := hp.lt
  have hT' := (hg.ge T rfl).2
  have hR' := hl.lt
  have hN' := hm.lt
  have HD : Dis p w.heap.size T R N6 := ⟨by omega, d1, d2, by omega, by omega, d3, by omega, d4, d5⟩
  obtain ⟨K, hK⟩ : ∃ K, K = w.heap.size := ⟨_, rfl⟩
  have hE : EX w B p w.heap.size T R N6 capT n f0 f1 f2 f7 base (fun i => cls (x i)) (fun i => cls (x i)) cl0 (w.alloc (.cells Tryd.zeroCells99 99)) :=
    ⟨hp.alloc _, hg.alloc _, hl.alloc _, hm.alloc _, (Kp.refl _ _).alloc _⟩
  have hS := zeros_srow w base
  obtain ⟨wZ, hwZ⟩ : ∃ wZ, wZ = w.alloc (.cells Tryd.zeroCells99 99) := ⟨_, rfl⟩
  rw [← hwZ] at hE hS
  rw [← hK] at hE hS HD
  have HOK := Lib.hid hok
  have HB := Lib.hid hB
  have HBB := Lib.hid hb
  have HZ := Lib.hid hwZ
  have HK := Lib.hid hK
  clear hok hB hb hp hg hl hm d1 d2 d3 d4 d5 hp' hT' hR' hN' hK hwZ
  have c3 : wZ.cell? ⟨p, 3, none⟩ = some (.int .i8 base) := hE.para.cell (by omega)
  go_enter Tryd.func60, Tryd.ntmps60
  go_upto_region 1 with fail
  rw [← HZ.out, ← HK.out]
  go_wp2_with fail
  refine (push_of (o := -1) _ hS (by show 0 < 126; decide) (by decide)).mono ?_
  rintro e w1 ⟨rfl, hS1, hk1⟩
  have hE1 := hE.step HD hk1
  have hS2 := start_srow (fs := fsI n x) (x := x) hS1
  clear hS hE hS1 hk1 c3
  have c4 : w1.cell? ⟨p, 4, none⟩ = some (.slice (some ⟨T, 0, none⟩) n capT) := hE1.para.cell (by omega)
  go_wp2_with fail
  clear c4
  go_loopg [3, 4, 5, 6, 7, 8, 9, 10, 21] n (fun g o3 o4 o5 _ _ _ _ _ i wr => ∃ k : Nat, k ≤ n ∧ g = n - k ∧ i = .int .i64 k ∧ Nxt w B p K T R N6 capT n f0 f1 f2 f7 base x k o3 o4 o5 wr)
  case atStart => exact ⟨0, by omega, rfl, rfl, cl0, fun i hi => absurd hi (Nat.not_lt_zero _), hE1.congr (fun i _ => (if_neg (Nat.not_lt_zero _)).symm) (fun _ _ => rfl), fun _ => ⟨hS2, rfl, rfl, rfl⟩⟩
  case round =>
    clear hE1 hS2
    obtain ⟨k, hk, rfl, rfl, cl, hcl, hE, hSt⟩ := hrel
    have HCL := Lib.hid hcl
    clear hcl
    by_cases hkn : k < n
    · have hkz : (k : Int) < (n : Int) := by omega
      have hok : Mst.Ok base k (mst x (fsI n x) base k) := mst_ok (by have := HBB.out; omega) k
      have hms : mst x (fsI n x) base (k + 1) = (mst x (fsI n x) base k).step (x k) (fsI n x k) := rfl
      have hlv : x k ≠ 22 → x k ≠ 7 → lvl x (fsI n x) base k = (mst x (fsI n x) base k).top := fun e1 e2 => by unfold lvl; rw [if_neg e1, if_neg e2]
      have hlv2 : x k = 22 → lvl x (fsI n x) base k = (mst x (fsI n x) base k).close.top := fun e1 => by unfold lvl; rw [if_pos e1]
      have htI : ¬ (x k = 14 ∨ x k = 15 ∨ x k = 16 ∨ x k = 17 ∨ x k = 18 ∨ x k = 22 ∨ x k = 7) → tI x (fsI n x) base k = if (mst x (fsI n x) base k).tov = -1 then x k else (mst x (fsI n x) base k).tov := fun e => by unfold tI; rw [if_neg e]
      obtain ⟨hS, rfl, rfl, rfl⟩ := hSt hkn
      clear hSt
      obtain ⟨M, hM⟩ : ∃ M, M = mst x (fsI n x) base k := ⟨_, rfl⟩
      rw [← hM] at hok hS hms hlv hlv2 htI
      rw [← hM]
      have HMS := Lib.hid hms
      have HLV := Lib.hid hlv
      have HLV2 := Lib.hid hlv2
      have HTI := Lib.hid htI
      clear hM hms hlv hlv2 htI
      have hd1 := hok.d1
      have hd2 := hok.d_le (by have := HBB.out; omega)
      have htop0 : 0 ≤ M.top := by have := hok.top_ge (by have := HBB.out; omega); have := HBB.out; omega
      have htop1 := hok.top_le
      have hoi1 : (M.oi : Int) ≤ 8589934592 := by have := hok.oi; omega
      have hoe1 : (M.oe : Int) ≤ 8589934592 := by have := hok.oe; omega
      have hcr := HOK.out k hkn
      unfold clsOk at hcr
      obtain ⟨WW, rfl⟩ : ∃ WW, WW = wr := ⟨_, rfl⟩
      have HOKM := Lib.hid hok
      clear hok
      go_upto_block 1 with fail
      go_cut [3, 4, 5] (fun a b c wx => Nxt w B p K T R N6 capT n f0 f1 f2 f7 base x (k + 1) a b c wx)
      case first =>
        by_cases h1 : sevB (x k) = true
        ·
          as_aux_lemma =>
            have h := h1
            clear h1
            have H7 := Lib.hid (sevB_cls h)
            have HIS := Lib.hid (sevB_iso h)
            have HRT := Lib.hid (sevB_rtl (fsI n x k) h)
            have HST := Lib.hid (sevB_step (m := M) (fsI n x k) (fsI_small hn n x k) h)
            obtain ⟨c, hcd⟩ : ∃ c, c = cls (x k) := ⟨_, rfl⟩
            have hc : WW.cell? ⟨T, k, none⟩ = some (.int .u64 c) := by rw [hE.types.cell hkn, ctK_at, hcd]
            rw [← hcd] at H7 HIS HRT
            have HCD := Lib.hid hcd
            obtain ⟨iso, hiso⟩ : ∃ iso, iso = iniB (x k) := ⟨_, rfl⟩
            obtain ⟨rtl, hrtl⟩ : ∃ rtl, rtl = rtlB (x k) (fsI n x k) := ⟨_, rfl⟩
            rw [← hiso] at HIS
            rw [← hiso, ← hrtl] at HST
            rw [← hrtl] at HRT
            have HISO := Lib.hid hiso
            have HRTL := Lib.hid hrtl
            have H := Lib.hid h
            clear hcd hiso hrtl h
            go_upto_block 2 with fail
            refine wp_block ?_
            refine wp_seq_k ?_
            intro K1 hK1
            go_cut [43] (fun b wx => b = .bool true ∧ wx = WW)
            case first =>
              as_aux_lemma =>
                rcases H7.out with e | e | e | e | e | e | e
                all_goals
                  subst e
                  go_wp2_with fail
                  go_meet
                  exact ⟨rfl, rfl⟩
            obtain ⟨rfl, rfl⟩ := hcut
            obtain ⟨WW, rfl⟩ : ∃ WW, WW = wc := ⟨_, rfl⟩
            clear hc
            go_upto_region 17 with fail
            go_cut [8] (fun b wx => b = .bool iso ∧ EX w B p K T R N6 capT n f0 f1 f2 f7 base (fun i => cls (x i)) (ctK x (fsI n x) base k) cl wx ∧ SRow wx K M)
            case first =>
              as_aux_lemma =>
                go_wp2_with fail
                refine (in_of [22, 21, 23] c iso _ (by decide) (heap_alloc_new WW _) HIS.out).mono ?_
                rintro e w' ⟨rfl, rfl⟩
                go_wp2_with fail
                go_meet
                exact ⟨rfl, hE.since HD ((World.Since.refl _ _).alloc (Nat.le_refl _) _), hS.of_block (Go.Deep.blk_alloc_lt _ _ _ hS.lt)⟩
            obtain ⟨rfl, hcut⟩ := hcut
            clear hE hS
            obtain ⟨hE, hS⟩ := hcut
            obtain ⟨WW, rfl⟩ : ∃ WW, WW = wc := ⟨_, rfl⟩
            go_upto_region 18 with fail
            go_cut [9] (fun b wx => b = .bool (memB [19, 17, 22] c) ∧ EX w B p K T R N6 capT n f0 f1 f2 f7 base (fun i => cls (x i)) (ctK x (fsI n x) base k) cl wx ∧ SRow wx K M)
            case first =>
              as_aux_lemma =>
                go_wp2_with fail
                refine (in_of [19, 17, 22] c _ _ (by decide) (heap_alloc_new WW _) rfl).mono ?_
                rintro e w' ⟨rfl, rfl⟩
                go_wp2_with fail
                go_meet
                exact ⟨rfl, hE.since HD ((World.Since.refl _ _).alloc (Nat.le_refl _) _), hS.of_block (Go.Deep.blk_alloc_lt _ _ _ hS.lt)⟩
            obtain ⟨rfl, hcut⟩ := hcut
            clear hE hS
            obtain ⟨hE, hS⟩ := hcut
            obtain ⟨WW, rfl⟩ : ∃ WW, WW = wc := ⟨_, rfl⟩
            obtain ⟨r0, hr0⟩ : ∃ r0, r0 = memB [19, 17, 22] c := ⟨_, rfl⟩
            rw [← hr0] at HRT ⊢
            clear hr0
            go_step
            refine wp_seq_k ?_
            intro K2 hK2
            go_cut [9] (fun b wx => b = .bool rtl ∧ EX w B p K T R N6 capT n f0 f1 f2 f7 base (fun i => cls (x i)) (ctK x (fsI n x) base k) cl wx ∧ SRow wx K M)
            case first =>
              as_aux_lemma =>
                by_cases hf : c = 23
                · have hfb : (c == 23) = true := by rw [hf]; rfl
                  have hx21 : x k = 21 := cls_fsi (by rw [← HCD.out]; exact hf)
                  have hini : iniC (fun i => cls (x i)) k = true := by show memB [21, 22, 23] (cls (x k)) = true; rw [hx21]; decide
                  have h1C : ∀ i, i < n → iniC (fun i => cls (x i)) i = iniN x i := fun i hi => cls_ini (HOK.out i hi)
                  have h2C : ∀ i, i < n → pdiC (fun i => cls (x i)) i = pdiN x i := fun i hi => by
                    show (cls (x i) == 24) = (x i == 22)
                    rw [cls_pdi (HOK.out i hi)]; unfold pdiB; rw [Bool.eq_iff_iff]; simp
                  have hz := mat_congr h1C h2C hkn
                  have hzle := mat_le (ini := iniC (fun i => cls (x i))) (pdi := pdiC (fun i => cls (x i))) hkn
                  have hm6 : WW.cell? ⟨N6, k, none⟩ = some (.int .i64 (mat (iniC (fun i => cls (x i))) (pdiC (fun i => cls (x i))) n k : Int)) := by rw [hE.mts.cell hkn, mt_ini hini]
                  have hnest : ∀ i, k + 1 ≤ i → i < mat (iniC (fun i => cls (x i))) (pdiC (fun i => cls (x i))) n k → iniC (fun i => cls (x i)) i = true → mat (iniC (fun i => cls (x i))) (pdiC (fun i => cls (x i))) n i ≤ mat (iniC (fun i => cls (x i))) (pdiC (fun i => cls (x i))) n k :=
                    fun i h1 h2 h3 => (mat_nested (by omega) h2 (by omega) h3).1
                  have HF := Lib.hid (show fsC (fun i => cls (x i)) n (k + 1) (mat (iniC (fun i => cls (x i))) (pdiC (fun i => cls (x i))) n k) = fsI n x k by rw [fsC_eq hzle HOK.out, hz]; rfl)
                  obtain ⟨z, hzz⟩ : ∃ z, z = mat (iniC (fun i => cls (x i))) (pdiC (fun i => cls (x i))) n k := ⟨_, rfl⟩
                  rw [← hzz] at hzle hm6 HF hnest
                  have HNEST := Lib.hid hnest
                  have hc6 : WW.cell? ⟨p, 6, none⟩ = some (.slice (some ⟨N6, 0, none⟩) n n) := hE.para.cell (by omega)
                  have hsees : Sees WW (some ⟨T, 0, none⟩) T 0 n capT (fun i => .int .u64 (ctK x (fsI n x) base k i)) := by
                    obtain ⟨b, hb, hs⟩ := hE.types.see
                    obtain rfl : T = b := by have := (hs.get (show 0 < n by omega)).1; simp only [Option.some.injEq, Addr.mk.injEq, and_true] at this; exact this
                    exact hs
                  have HSEE := Lib.hid hsees
                  have HXX := Lib.hid hx21
                  clear hnest hzz hz h1C h2C hini hx21 hf hsees
                  go_upto_region 20 with fail
                  go_wp2_with fail
                  refine (dpel_any (cur := ctK x (fsI n x) base k) (c := fun i => cls (x i)) _ hn hzle (by omega) (fun i h1 h2 => if_neg (by omega)) hE.para HSEE.out hE.mts (fun i hi => cls_range _) HNEST.out).mono ?_
                  rintro e w' ⟨rfl, hsi⟩
                  rw [HF.out]
                  have HB2 := Lib.hid (show (fsI n x k == 1) = rtl by rw [HRT.out, if_pos HXX.out])
                  obtain ⟨fv, hfv⟩ : ∃ fv, fv = fsI n x k := ⟨_, rfl⟩
                  rw [← hfv] at HB2 ⊢
                  clear hfv HF
                  go_wp2_with fail
                  go_meet
                  refine ⟨congrArg Value.bool HB2.out, hE.since HD hsi, hS.of_block (hsi.block _ hS.lt)⟩
                · have hfb : (c == 23) = false := by rw [beq_eq_false_iff_ne]; exact hf
                  have HNF := Lib.hid (show rtl = r0 by rw [HRT.out, if_neg (fun e => hf (by rw [HCD.out, e]; decide))])
                  clear hf
                  go_wp2_with fail
                  go_meet
                  exact ⟨congrArg Value.bool HNF.out.symm, hE, hS⟩
            obtain ⟨rfl, hcut⟩ := hcut
            clear hE hS
            obtain ⟨hE, hS⟩ := hcut
            obtain ⟨WW, rfl⟩ : ∃ WW, WW = wc := ⟨_, rfl⟩
            clear HRT
            go_step
            refine wp_seq_k ?_
            intro K3 hK3
            go_cut [] (fun wx => Mid w B p K T R N6 capT n f0 f1 f2 f7 base x k cl M iso wx)
            case first =>
              as_aux_lemma =>
                cases hi : iso with
                | false =>
                  have HI := Lib.hid hi
                  subst hi
                  go_wp2_with fail
                  go_meet
                  exact ⟨_, _, fun i _ => rfl, by rw [ctK_at, tI_same (sevB_noiso H.out (by rw [← HISO.out]))], fun i _ => rfl, fun e => absurd e (by decide), hE, hS⟩
                | true =>
                  have HI := Lib.hid hi
                  subst hi
                  go_upto_region 22 with fail
                  go_upto_region 22 with fail
                  go_cut [] (fun wx => EX w B p K T R N6 capT n f0 f1 f2 f7 base (fun i => cls (x i)) (ctK x (fsI n x) base k) (fun i => if i = k then M.top else cl i) wx ∧ SRow wx K M)
                  case first =>
                    as_aux_lemma =>
                      have c5 : WW.cell? ⟨p, 5, none⟩ = some (.slice (some ⟨R, 0, none⟩) n n) := hE.para.cell (by omega)
                      have g1 := hE.levels.cell hkn
                      have g2 := hE.levels.frozen k
                      refine wp_region_quiet_tail 7 (by kernel_rfl) (by kernel_rfl) ?_
                      simp only [List.take_succ_cons, List.take_zero, List.drop_succ_cons, List.drop_zero]
                      repeat (quiet_step ((go_at_call 70; exact Calls.quiet_of (lastLevel_any _ (hS.drewN _) hd1 hd2))))
                      refine wpQuiet_nil ?_
                      rintro _ ⟨nq, rfl⟩
                      go_wp2_with fail
                      go_meet
                      exact ⟨(hE.drewN nq).setL HD k M.top, (hS.drewN nq).setOther HD.RK.symm _⟩
                  clear hE hS
                  obtain ⟨hE, hS⟩ := hcut
                  obtain ⟨WW, rfl⟩ : ∃ WW, WW = wc := ⟨_, rfl⟩
                  go_upto_region 23 with fail
                  have HT := Lib.hid (HTI.out (sevB_isorange H.out (by rw [← HISO.out])))
                  by_cases hov : M.tov = -1
                  · have hovb : (ovc M.tov != 10) = false := by rw [hov]; decide
                    have HTT := Lib.hid (HT.out.trans (if_pos hov))
                    obtain ⟨ov, hovd⟩ : ∃ ov, ov = ovc M.tov := ⟨_, rfl⟩
                    rw [← hovd] at hovb
                    have HOV := Lib.hid hovd
                    clear hov hovd HT
                    go_wp2_with fail
                    refine (lastOv_any _ hS hd1 hd2).mono ?_
                    rintro e w' ⟨rfl, nq, rfl⟩
                    rw [← HOV.out]
                    go_wp2_with fail
                    go_meet
                    exact ⟨_, _, fun i _ => rfl, by rw [ctK_at, HTT.out], fun i hi => if_neg hi, fun _ => if_pos rfl, hE.drewN nq, hS.drewN nq⟩
                  · have hov2 := HOKM.out.tov_or
                    have hovv : ovc M.tov = M.tov := by unfold ovc; rw [if_neg hov]
                    have hovb : (ovc M.tov != 10) = true := by rw [hovv]; rcases hov2 with e | e | e <;> first | exact absurd e hov | (rw [e]; decide)
                    have HTT := Lib.hid (show ovc M.tov = cls (tI x (fsI n x) base k) by
                      rw [HT.out, if_neg hov, hovv]; rcases hov2 with e | e | e <;> first | exact absurd e hov | (rw [e]; decide))
                    obtain ⟨ov, hovd⟩ : ∃ ov, ov = ovc M.tov := ⟨_, rfl⟩
                    rw [← hovd] at hovb HTT
                    have HOV := Lib.hid hovd
                    clear hov hovd HT hov2 hovv
                    go_wp2_with fail
                    refine (lastOv_any _ hS hd1 hd2).mono ?_
                    rintro e w' ⟨rfl, nq, rfl⟩
                    rw [← HOV.out]
                    have hE5 := hE.drewN nq
                    have hS5 := hS.drewN nq
                    generalize WW.drewN nq = w5 at hE5 hS5 ⊢
                    have c5 : w5.cell? ⟨p, 4, none⟩ = some (.slice (some ⟨T, 0, none⟩) n capT) := hE5.para.cell (by omega)
                    have g1 := hE5.types.cell hkn
                    have g2 := hE5.types.frozen k
                    go_upto_region 24 with fail
                    refine wp_region_quiet_tail 7 (by kernel_rfl) (by kernel_rfl) ?_
                    simp only [List.take_succ_cons, List.take_zero, List.drop_succ_cons, List.drop_zero]
                    repeat (quiet_step ((go_at_call 71; exact Calls.quiet_of (lastOv_any _ (hS5.drewN _) hd1 hd2))))
                    refine wpQuiet_nil ?_
                    rintro _ ⟨nq2, rfl⟩
                    go_wp2_with fail
                    go_meet
                    exact ⟨_, _, fun i hi => if_neg hi, by rw [if_pos rfl, ← HTT.out, HOV.out], fun i hi => if_neg hi, fun _ => if_pos rfl, (hE5.drewN nq2).setT HD k (ovc M.tov), (hS5.drewN nq2).setOther HD.TK.symm _⟩
            clear hE hS
            obtain ⟨ct, cl2, hct, hctk, hcl2, hclk, hE, hS⟩ := hcut
            have HCT := Lib.hid hct
            have HCTK := Lib.hid hctk
            have HCL2 := Lib.hid (show ∀ i, i < k → remN (x i) = false → cl2 i = lvl x (fsI n x) base i from fun i hi hr => (hcl2 i (by omega)).trans (HCL.out i hi hr))
            have HCLK := Lib.hid (show remN (x k) = false → cl2 k = lvl x (fsI n x) base k from fun hr => by
              have hi := sevB_rem H.out hr
              rw [hclk (by rw [HISO.out]; exact hi), HLV.out (sevB_ne H.out).1 (sevB_ne H.out).2])
            obtain ⟨WW, rfl⟩ : ∃ WW, WW = wc := ⟨_, rfl⟩
            clear hct hctk hcl2 hclk
            go_upto_region 25 with fail
            go_cut [10] (fun _ wx => wx = WW)
            case first =>
              as_aux_lemma =>
                go_wp2_with fail
                go_meet
                rfl
            subst hcut
            obtain ⟨WW, rfl⟩ : ∃ WW, WW = wc := ⟨_, rfl⟩
            go_step
            refine wp_seq_k ?_
            intro K4 hK4
            obtain ⟨v, hv⟩ := Int.eq_ofNat_of_zero_le htop0
            have hv2 : v ≤ 125 := by omega
            have hvz : (v : Int) ≤ 125 := by omega
            obtain ⟨nl, hnl⟩ : ∃ nl, nl = M.next (if rtl = true then 1 else 0) := ⟨_, rfl⟩
            have HNL := Lib.hid hnl
            have hnl1 : 0 ≤ nl ∧ nl ≤ 127 := by rw [hnl]; exact next_range hv hv2
            obtain ⟨hnl1, hnl2⟩ := hnl1
            clear hnl
            go_cut [10] (fun b wx => b = .int .i8 nl ∧ EX w B p K T R N6 capT n f0 f1 f2 f7 base (fun i => cls (x i)) ct cl2 wx ∧ SRow wx K M)
            case first =>
              as_aux_lemma =>
                cases hr : rtl with
                | true =>
                  have hbits := (next_bits1 hv).1
                  have HN : Hid (M.next 1 = nl) := Lib.hid (by rw [HNL.out, hr]; rfl)
                  rw [HN.out] at hbits
                  have HR := Lib.hid hr
                  subst hr
                  have HV := Lib.hid hv
                  clear hv
                  go_wp2_with fail
                  refine (lastLevel_any _ hS hd1 hd2).mono ?_
                  rintro e w' ⟨rfl, nq, rfl⟩
                  rw [HV.out]
                  go_wp2_with fail
                  go_meet
                  exact ⟨rfl, hE.drewN nq, hS.drewN nq⟩
                | false =>
                  have hbits := (next_bits0 hv).1
                  have HN : Hid (M.next 0 = nl) := Lib.hid (by rw [HNL.out, hr]; rfl)
                  rw [HN.out] at hbits
                  have HR := Lib.hid hr
                  subst hr
                  have HV := Lib.hid hv
                  clear hv
                  go_wp2_with fail
                  refine (lastLevel_any _ hS hd1 hd2).mono ?_
                  rintro e w' ⟨rfl, nq, rfl⟩
                  rw [HV.out]
                  go_wp2_with fail
                  go_meet
                  exact ⟨rfl, hE.drewN nq, hS.drewN nq⟩
            obtain ⟨rfl, hcut⟩ := hcut
            clear hE hS
            obtain ⟨hE, hS⟩ := hcut
            obtain ⟨WW, rfl⟩ : ∃ WW, WW = wc := ⟨_, rfl⟩
            clear hv hv2 hvz
            have HOI := Lib.hid (show M.oi = M.oi from rfl)
            by_cases hroom : nl ≤ 125 ∧ M.oi = 0 ∧ M.oe = 0
            ·
              as_aux_lemma =>
                have HRM := Lib.hid hroom
                have hd4 : M.d < 126 := by
                  have := HOKM.out.top_ge (by have := HBB.out; omega)
                  have := Mst.Ok.next_gt M (if rtl = true then 1 else 0)
                  have := HNL.out
                  have := hroom.1
                  omega
                have hrm : M.room (if rtl = true then 1 else 0) := ⟨by rw [← HNL.out]; exact hroom.1, hroom.2⟩
                have HNX : Hid (mst x (fsI n x) base (k + 1) = { M.push nl (ovr (x k)) iso with vi := M.vi + (if iso = true then 1 else 0) }) := Lib.hid (by
                  rw [HMS.out, HST.out, HNL.out]
                  cases iso with
                  | true => rw [if_pos (show true = true from rfl), ovr_iso (by rw [← HISO.out])]; unfold Mst.begin_; rw [if_pos hrm]; rfl
                  | false => rw [if_neg (show ¬ (false = true) by decide)]; unfold Mst.embed; rw [if_pos hrm]; rfl)
                clear hrm
                obtain ⟨q1, q2, q3⟩ := hroom
                have t2 : ((M.oi : Int) == 0) = true := by rw [q2]; rfl
                have t3 : ((M.oe : Int) == 0) = true := by rw [q3]; rfl
                clear q2 q3
                go_upto_if 104 with fail
                go_step
                refine wp_seq_k ?_
                intro K5 hK5
                have hvi1 : (M.vi : Int) ≤ 8589934592 := by have := HOKM.out.vi; have := Mst.cnt_le M.iso M.d; omega
                obtain ⟨vv, hvv⟩ : ∃ vv : Nat, vv = M.vi + (if iso = true then 1 else 0) := ⟨_, rfl⟩
                have HVV := Lib.hid hvv
                clear hvv
                go_cut [5] (fun b wx => b = .int .i64 (vv : Int) ∧ wx = WW)
                case first =>
                  as_aux_lemma =>
                    cases hi : iso with
                    | true =>
                      subst hi
                      go_wp2_with fail
                      go_meet
                      exact ⟨by rw [HVV.out]; simp, rfl⟩
                    | false =>
                      subst hi
                      go_wp2_with fail
                      go_meet
                      exact ⟨by rw [HVV.out]; simp, rfl⟩
                obtain ⟨rfl, rfl⟩ := hcut
                obtain ⟨WW, rfl⟩ : ∃ WW, WW = wc := ⟨_, rfl⟩
                go_step
                refine wp_seq_k ?_
                intro K6 hK6
                go_cut [] (fun wx => EX w B p K T R N6 capT n f0 f1 f2 f7 base (fun i => cls (x i)) ct cl2 wx ∧ SRow wx K (M.push nl (ovr (x k)) iso))
                case first =>
                  as_aux_lemma =>
                    by_cases h16 : c = 16
                    · have HO := Lib.hid (show ovc (ovr (x k)) = 0 by rw [cls_lro (HCD.out.symm.trans h16)]; decide)
                      have b16 : (c == 16) = true := by rw [h16]; rfl
                      clear h16
                      go_wp2_with fail
                      refine (push_of (o := ovr (x k)) _ hS hd4 HO.out).mono ?_
                      rintro e w2 ⟨rfl, hS2, hk2⟩
                      go_wp2_with fail
                      go_meet
                      exact ⟨hE.step HD hk2, hS2⟩
                    · have b16 : (c == 16) = false := by rw [beq_eq_false_iff_ne]; exact h16
                      by_cases h17 : c = 17
                      · have HO := Lib.hid (show ovc (ovr (x k)) = 1 by rw [cls_rlo (HCD.out.symm.trans h17)]; decide)
                        have b17 : (c == 17) = true := by rw [h17]; rfl
                        clear h16 h17
                        go_wp2_with fail
                        refine (push_of (o := ovr (x k)) _ hS hd4 HO.out).mono ?_
                        rintro e w2 ⟨rfl, hS2, hk2⟩
                        go_wp2_with fail
                        go_meet
                        exact ⟨hE.step HD hk2, hS2⟩
                      · have b17 : (c == 17) = false := by rw [beq_eq_false_iff_ne]; exact h17
                        have HO := Lib.hid (show ovc (ovr (x k)) = 10 by
                          unfold ovr
                          rw [if_neg (fun e => h16 (by rw [HCD.out, e]; decide)), if_neg (fun e => h17 (by rw [HCD.out, e]; decide))]; decide)
                        clear h16 h17
                        go_wp2_with fail
                        refine (push_of (o := ovr (x k)) _ hS hd4 HO.out).mono ?_
                        rintro e w2 ⟨rfl, hS2, hk2⟩
                        go_wp2_with fail
                        go_meet
                        exact ⟨hE.step HD hk2, hS2⟩
                clear hE hS
                obtain ⟨hE, hS⟩ := hcut
                obtain ⟨WW, rfl⟩ : ∃ WW, WW = wc := ⟨_, rfl⟩
                have FIN : ∀ (wy : World) (cl3 : Nat → Int), EX w B p K T R N6 capT n f0 f1 f2 f7 base (fun i => cls (x i)) ct cl3 wy → SRow wy K (M.push nl (ovr (x k)) iso) → (∀ i, i ≠ k → cl3 i = cl2 i) → (remN (x k) = false → cl3 k = cl2 k) → Nxt w B p K T R N6 capT n f0 f1 f2 f7 base x (k + 1) (.int .i64 M.oi) (.int .i64 M.oe) (.int .i64 (vv : Int)) wy := fun _ _ hE hS e1 e2 => by
                  refine Nxt.of hE (fun i _ hik => HCT.out i hik) HCTK.out (fun i hi hr => (e1 i (by omega)).trans (HCL2.out i hi hr)) (fun hr => (e2 hr).trans (HCLK.out hr)) (fun _ => ?_)
                  rw [HNX.out]
                  exact ⟨hS.congr rfl (fun _ _ => rfl) (fun _ _ => rfl) (fun _ _ => rfl), rfl, rfl, by rw [HVV.out]⟩
                have HFIN := Lib.hid FIN
                have HOI0 := Lib.hid (show (0 : Int) = (M.oi : Int) by rw [HRM.out.2.1]; rfl)
                have HOE0 := Lib.hid (show (0 : Int) = (M.oe : Int) by rw [HRM.out.2.2]; rfl)
                clear FIN
                cases hi : iso with
                | true =>
                  have HI := Lib.hid hi
                  subst hi
                  go_wp2_with fail
                  go_meet
                  first | exact HFIN.out _ _ hE hS (fun _ _ => rfl) (fun _ => rfl) | (rw [HOI0.out, HOE0.out]; exact HFIN.out _ _ hE hS (fun _ _ => rfl) (fun _ => rfl))
                | false =>
                  have HI := Lib.hid hi
                  subst hi
                  have c5 : WW.cell? ⟨p, 5, none⟩ = some (.slice (some ⟨R, 0, none⟩) n n) := hE.para.cell (by omega)
                  have g1 := hE.levels.cell hkn
                  have g2 := hE.levels.frozen k
                  go_wp2_with fail
                  go_meet
                  have hrr : remN (x k) = false → False := fun hr => by
                    have := sevB_rem H.out hr
                    rw [← HISO.out] at this
                    exact absurd this (by decide)
                  first | exact HFIN.out _ _ (hE.setL HD k nl) (hS.setOther HD.RK.symm _) (fun i hi => if_neg hi) (fun hr => absurd hr hrr) | (rw [HOI0.out, HOE0.out]; exact HFIN.out _ _ (hE.setL HD k nl) (hS.setOther HD.RK.symm _) (fun i hi => if_neg hi) (fun hr => (hrr hr).elim))
            ·
              as_aux_lemma =>
                have hnrm : ¬ M.room (if rtl = true then 1 else 0) := fun h => hroom ⟨by rw [HNL.out]; exact h.1, h.2⟩
                have FIN : ∀ (wy : World) (m : Mst), EX w B p K T R N6 capT n f0 f1 f2 f7 base (fun i => cls (x i)) ct cl2 wy → SRow wy K M → mst x (fsI n x) base (k + 1) = m → m.d = M.d → m.lv = M.lv → m.ov = M.ov → m.iso = M.iso → Nxt w B p K T R N6 capT n f0 f1 f2 f7 base x (k + 1) (.int .i64 m.oi) (.int .i64 m.oe) (.int .i64 m.vi) wy := fun _ _ hE hS e e1 e2 e3 e4 => by
                  refine Nxt.of hE (fun i _ hik => HCT.out i hik) HCTK.out HCL2.out HCLK.out (fun _ => ?_)
                  rw [e]
                  exact ⟨hS.congr e1 (fun _ _ => by rw [e2]) (fun _ _ => by rw [e3]) (fun _ _ => by rw [e4]), rfl, rfl, rfl⟩
                have HFIN := Lib.hid FIN
                have HNR := Lib.hid hroom
                have HNX : Hid (mst x (fsI n x) base (k + 1) = if iso = true then { M with oi := M.oi + 1 } else if M.oi = 0 then { M with oe := M.oe + 1 } else M) := Lib.hid (by
                  rw [HMS.out, HST.out]
                  cases iso with
                  | true => rw [if_pos (show true = true from rfl), if_pos (show true = true from rfl)]; unfold Mst.begin_; rw [if_neg hnrm]
                  | false => rw [if_neg (show ¬ (false = true) by decide), if_neg (show ¬ (false = true) by decide)]; unfold Mst.embed; rw [if_neg hnrm])
                clear FIN hroom hnrm
                go_upto_region 29 with fail
                go_cut [104] (fun b wx => b = .bool false ∧ wx = WW)
                case first =>
                  as_aux_lemma =>
                    by_cases hl : nl ≤ 125
                    · by_cases ho : M.oi = 0
                      · have t2 : ((M.oi : Int) == 0) = true := by rw [ho]; rfl
                        have t3 : ((M.oe : Int) == 0) = false := by
                          rw [beq_eq_false_iff_ne]; intro e
                          exact HNR.out ⟨hl, ho, by omega⟩
                        clear ho
                        go_wp2_with fail
                        go_meet
                        exact ⟨rfl, rfl⟩
                      · have t2 : ((M.oi : Int) == 0) = false := by rw [beq_eq_false_iff_ne]; omega
                        clear ho
                        go_wp2_with fail
                        go_meet
                        exact ⟨rfl, rfl⟩
                    · go_wp2_with fail
                      go_meet
                      exact ⟨rfl, rfl⟩
                obtain ⟨rfl, rfl⟩ := hcut
                obtain ⟨WW, rfl⟩ : ∃ WW, WW = wc := ⟨_, rfl⟩
                cases hi : iso with
                | true =>
                  have HX2 := Lib.hid (HNX.out.trans (if_pos hi))
                  subst hi
                  clear HNX
                  go_wp2_with fail
                  go_meet
                  exact HFIN.out _ _ hE hS HX2.out rfl rfl rfl rfl
                | false =>
                  have HX2 := Lib.hid (HNX.out.trans (if_neg (by rw [hi]; decide)))
                  subst hi
                  clear HNX
                  by_cases ho : M.oi = 0
                  · have HX3 := Lib.hid (HX2.out.trans (if_pos ho))
                    have HO0 := Lib.hid (show (0 : Int) = (M.oi : Int) by rw [ho]; rfl)
                    have t2 : ((M.oi : Int) == 0) = true := by rw [ho]; rfl
                    clear ho HX2
                    go_wp2_with fail
                    go_meet
                    first | exact HFIN.out _ _ hE hS HX3.out rfl rfl rfl rfl | (rw [HO0.out]; exact HFIN.out _ _ hE hS HX3.out rfl rfl rfl rfl)
                  · have HX3 := Lib.hid (HX2.out.trans (if_neg ho))
                    have t2 : ((M.oi : Int) == 0) = false := by rw [beq_eq_false_iff_ne]; omega
                    clear ho HX2
                    go_wp2_with fail
                    go_meet
                    exact HFIN.out _ _ hE hS HX3.out rfl rfl rfl rfl
        by_cases h2 : x k = 22
        ·
          as_aux_lemma =>
            have h := h2
            clear h1 h2
            have hxk := h
            clear h
            have hc : WW.cell? ⟨T, k, none⟩ = some (.int .u64 24) := by rw [hE.types.cell hkn, ctK_at, hxk, show cls 22 = 24 from by decide]
            have HXK := Lib.hid hxk
            have HMX := Lib.hid (show mst x (fsI n x) base (k + 1) = M.step 22 (fsI n x k) by rw [HMS.out, hxk])
            clear hxk
            have HMC : Hid (mst x (fsI n x) base (k + 1) = M.close) := Lib.hid HMX.out
            clear HMX
            go_upto_if 138 with fail
            clear hc
            go_step
            refine wp_seq_k ?_
            intro K1 hK1
            have hvi1 : (M.vi : Int) ≤ 8589934592 := by have := HOKM.out.vi; have := Mst.cnt_le M.iso M.d; omega
            have hok2 := HOKM.out.close
            go_cut [3, 4, 5] (fun a b c wx => a = .int .i64 M.close.oi ∧ b = .int .i64 M.close.oe ∧ c = .int .i64 M.close.vi ∧ EX w B p K T R N6 capT n f0 f1 f2 f7 base (fun i => cls (x i)) (ctK x (fsI n x) base k) cl wx ∧ SRow wx K M.close)
            case first =>
              as_aux_lemma =>
                have HOK2 := Lib.hid hok2
                clear hok2
                by_cases ho : 0 < M.oi
                · have HC2 : Hid (M.close = { M with oi := M.oi - 1 }) := Lib.hid (by unfold Mst.close; rw [if_pos ho])
                  have hoz : (0 : Int) < (M.oi : Int) := by omega
                  have hoz1 : (1 : Int) ≤ (M.oi : Int) := by omega
                  go_wp2_with fail
                  go_meet
                  rw [HC2.out]
                  exact ⟨by show Value.int .i64 ((M.oi : Int) - 1) = .int .i64 ((M.oi - 1 : Nat) : Int); congr 1; omega, rfl, rfl, hE, hS.congr rfl (fun _ _ => rfl) (fun _ _ => rfl) (fun _ _ => rfl)⟩
                · have hoz : ¬ (0 : Int) < (M.oi : Int) := by omega
                  by_cases hvi : M.vi = 0
                  · have HC2 : Hid (M.close = M) := Lib.hid (by unfold Mst.close; rw [if_neg ho, if_neg (by omega)])
                    have hvb : ((M.vi : Int) == 0) = true := by rw [hvi]; rfl
                    have HV0 := Lib.hid (show (0 : Int) = (M.vi : Int) by rw [hvi]; rfl)
                    have HO0 := Lib.hid (show (0 : Int) = (M.oi : Int) by omega)
                    clear hvi ho
                    go_wp2_with fail
                    go_meet
                    rw [HC2.out]
                    first | exact ⟨rfl, rfl, rfl, hE, hS⟩ | exact ⟨rfl, rfl, by rw [HV0.out], hE, hS⟩
                  · have hpos := HOKM.out.below_pos (show 0 < M.vi by omega)
                    have HC2 : Hid (M.close = { M with oe := 0, d := Mst.below M.iso M.d, vi := M.vi - 1 }) := Lib.hid (by unfold Mst.close; rw [if_neg ho, if_pos (by omega)])
                    have hvb : ((M.vi : Int) == 0) = false := by rw [beq_eq_false_iff_ne]; omega
                    have hvz : (1 : Int) ≤ (M.vi : Int) := by omega
                    obtain ⟨bl, hbl⟩ : ∃ bl, bl = Mst.below M.iso M.d := ⟨_, rfl⟩
                    rw [← hbl] at hpos HC2
                    have HBL := Lib.hid hbl
                    clear hvi ho hbl
                    obtain ⟨hp1, hp2⟩ := hpos
                    go_wp2_with fail
                    go_loopg [] (M.d) (fun g wr => ∃ d : Nat, bl < d ∧ d ≤ M.d ∧ d = g ∧ Hid (Mst.below M.iso d = bl) ∧ EX w B p K T R N6 capT n f0 f1 f2 f7 base (fun i => cls (x i)) (ctK x (fsI n x) base k) cl wr ∧ SRow wr K { M with d := d })
                    case atStart => exact ⟨M.d, hp2, Nat.le_refl _, rfl, HBL.out.symm, hE, hS⟩
                    case round =>
                      clear hE hS
                      obtain ⟨d, hd5, hd6, rfl, HBE, hE, hS⟩ := hrel
                      have hg1 : 1 ≤ ({ M with d := d } : Mst).d := by show 1 ≤ d; omega
                      have hg2 : ({ M with d := d } : Mst).d ≤ 126 := by show d ≤ 126; omega
                      have hti : ({ M with d := d } : Mst).tiso = M.iso (d - 1) := rfl
                      cases hti2 : M.iso (d - 1) with
                      | true =>
                        have HEQ := Lib.hid (show d - 1 = bl by
                          have := HBE.out
                          obtain ⟨r, rfl⟩ : ∃ r, d = r + 1 := ⟨d - 1, by omega⟩
                          rw [Nat.add_sub_cancel] at hti2 ⊢
                          rw [Mst.below, if_pos hti2] at this
                          exact this)
                        have HT2 := Lib.hid (hti.trans hti2)
                        clear hti hti2
                        go_wp2_with fail
                        refine (lastIso_any _ hS hg1 hg2).mono ?_
                        rintro e w' ⟨rfl, nq, rfl⟩
                        rw [HT2.out]
                        go_wp2_with fail
                        refine (pop_any _ (hS.drewN nq) hg1 hg2).mono ?_
                        rintro e w2 ⟨rfl, hS2, hk2⟩
                        go_wp2_with fail
                        go_meet
                        rw [HC2.out]
                        refine ⟨rfl, rfl, by show Value.int .i64 ((M.vi : Int) - 1) = .int .i64 ((M.vi - 1 : Nat) : Int); congr 1; omega, (hE.drewN nq).step HD hk2, ?_⟩
                        refine hS2.congr ?_ (fun _ _ => rfl) (fun _ _ => rfl) (fun _ _ => rfl)
                        exact HEQ.out.symm
                      | false =>
                        have HEQ := Lib.hid (show bl < d - 1 ∧ Mst.below M.iso (d - 1) = bl by
                          have := HBE.out
                          obtain ⟨r, rfl⟩ : ∃ r, d = r + 1 := ⟨d - 1, by omega⟩
                          rw [Nat.add_sub_cancel] at hti2 ⊢
                          rw [Mst.below, if_neg (by rw [hti2]; decide)] at this
                          refine ⟨?_, this⟩
                          rcases Nat.lt_or_ge bl r with q | q
                          · exact q
                          · have hbc := Mst.below_cnt (iso := M.iso) M.d (by have := HOKM.out.vi; omega)
                            rw [← HBL.out] at hbc
                            obtain rfl : r = bl := by omega
                            rw [hbc.2.1] at hti2
                            exact absurd hti2 (by decide))
                        have HT2 := Lib.hid (hti.trans hti2)
                        clear hti hti2
                        go_wp2_with fail
                        refine (lastIso_any _ hS hg1 hg2).mono ?_
                        rintro e w' ⟨rfl, nq, rfl⟩
                        rw [HT2.out]
                        go_wp2_with fail
                        refine (pop_any _ (hS.drewN nq) hg1 hg2).mono ?_
                        rintro e w2 ⟨rfl, hS2, hk2⟩
                        go_wp2_with fail
                        go_roundg (d - 1)
                        case rel => exact ⟨d - 1, HEQ.out.1, by omega, rfl, HEQ.out.2, (hE.drewN nq).step HD hk2, hS2⟩
                        case measure => omega
            obtain ⟨rfl, rfl, rfl, hcut⟩ := hcut
            clear hE hS
            obtain ⟨hE, hS⟩ := hcut
            obtain ⟨WW, rfl⟩ : ∃ WW, WW = wc := ⟨_, rfl⟩
            have HFIN := Lib.hid (HLV2.out HXK.out)
            have HT22 := Lib.hid (tI_rem (fs := fsI n x) (base := base) HXK.out (by omega))
            obtain ⟨M2, hM2⟩ : ∃ M2, M2 = M.close := ⟨_, rfl⟩
            rw [← hM2] at hS hok2 HMC HFIN ⊢
            clear hM2
            have he1 := hok2.d1
            have he2 := hok2.d_le (by have := HBB.out; omega)
            clear hok2
            have c5 : WW.cell? ⟨p, 5, none⟩ = some (.slice (some ⟨R, 0, none⟩) n n) := hE.para.cell (by omega)
            have g1 := hE.levels.cell hkn
            have g2 := hE.levels.frozen k
            go_upto_region 53 with fail
            refine wp_region_quiet_tail 7 (by kernel_rfl) (by kernel_rfl) ?_
            simp only [List.take_succ_cons, List.take_zero, List.drop_succ_cons, List.drop_zero]
            repeat (quiet_step ((go_at_call 70; exact Calls.quiet_of (lastLevel_any _ (hS.drewN _) he1 he2))))
            refine wpQuiet_nil ?_
            rintro _ ⟨nq, rfl⟩
            go_wp2_with fail
            go_meet
            refine Nxt.of ((hE.drewN nq).setL HD k M2.top) (fun i _ _ => rfl) (by rw [ctK_at, HT22.out]) (fun i hi hr => by rw [if_neg (by omega)]; exact HCL.out i hi hr) (fun _ => by rw [if_pos rfl]; exact HFIN.out.symm) (fun _ => ?_)
            rw [HMC.out]
            exact ⟨(hS.drewN nq).setOther HD.RK.symm _, rfl, rfl, rfl⟩
        by_cases h3 : x k = 18
        ·
          as_aux_lemma =>
            have h := h3
            clear h1 h3
            have hxk := h
            clear h
            have hc : WW.cell? ⟨T, k, none⟩ = some (.int .u64 20) := by rw [hE.types.cell hkn, ctK_at, hxk, show cls 18 = 20 from by decide]
            have HXK := Lib.hid hxk
            have HMX := Lib.hid (show mst x (fsI n x) base (k + 1) = M.step 18 (fsI n x k) by rw [HMS.out, hxk])
            clear hxk
            have HMC : Hid (mst x (fsI n x) base (k + 1) = M.pop) := Lib.hid HMX.out
            clear HMX
            go_upto_region 55 with fail
            go_cut [] (fun wx => EX w B p K T R N6 capT n f0 f1 f2 f7 base (fun i => cls (x i)) (ctK x (fsI n x) base k) (fun i => if i = k then M.top else cl i) wx ∧ SRow wx K M)
            case first =>
              as_aux_lemma =>
                have c5 : WW.cell? ⟨p, 5, none⟩ = some (.slice (some ⟨R, 0, none⟩) n n) := hE.para.cell (by omega)
                have g1 := hE.levels.cell hkn
                have g2 := hE.levels.frozen k
                refine wp_region_quiet_tail 7 (by kernel_rfl) (by kernel_rfl) ?_
                simp only [List.take_succ_cons, List.take_zero, List.drop_succ_cons, List.drop_zero]
                repeat (quiet_step ((go_at_call 70; exact Calls.quiet_of (lastLevel_any _ (hS.drewN _) hd1 hd2))))
                refine wpQuiet_nil ?_
                rintro _ ⟨nq, rfl⟩
                go_wp2_with fail
                go_meet
                exact ⟨(hE.drewN nq).setL HD k M.top, (hS.drewN nq).setOther HD.RK.symm _⟩
            clear hE hS
            obtain ⟨hE, hS⟩ := hcut
            obtain ⟨WW, rfl⟩ : ∃ WW, WW = wc := ⟨_, rfl⟩
            clear hc
            have FIN : ∀ (wy : World) (m : Mst), EX w B p K T R N6 capT n f0 f1 f2 f7 base (fun i => cls (x i)) (ctK x (fsI n x) base k) (fun i => if i = k then M.top else cl i) wy → SRow wy K m → M.pop = m → Nxt w B p K T R N6 capT n f0 f1 f2 f7 base x (k + 1) (.int .i64 m.oi) (.int .i64 m.oe) (.int .i64 m.vi) wy := fun _ _ hE hS e => by
              refine Nxt.of hE (fun i _ _ => rfl) (by rw [ctK_at, tI_rem HXK.out (by omega)]) (fun i hi hr => by rw [if_neg (by omega)]; exact HCL.out i hi hr) (fun hr => absurd hr (by rw [HXK.out]; decide)) (fun _ => ?_)
              rw [HMC.out, e]
              exact ⟨hS, rfl, rfl, rfl⟩
            have HFIN := Lib.hid FIN
            clear FIN
            go_upto_region 56 with fail
            by_cases ho : 0 < M.oi
            · have HP : Hid (M.pop = M) := Lib.hid (by unfold Mst.pop; rw [if_pos ho])
              have hoz : (0 : Int) < (M.oi : Int) := by omega
              clear ho
              go_wp2_with fail
              go_meet
              exact HFIN.out _ _ hE hS HP.out
            · have hoz : ¬ (0 : Int) < (M.oi : Int) := by omega
              have HO0 := Lib.hid (show (0 : Int) = (M.oi : Int) by omega)
              by_cases hq : 0 < M.oe
              · have HP : Hid (M.pop = { M with oe := M.oe - 1 }) := Lib.hid (by unfold Mst.pop; rw [if_neg ho, if_pos hq])
                have hqz : (0 : Int) < (M.oe : Int) := by omega
                have hqz1 : (1 : Int) ≤ (M.oe : Int) := by omega
                have HN := Lib.hid (show ((M.oe - 1 : Nat) : Int) = (M.oe : Int) - 1 by omega)
                clear ho hq
                go_wp2_with fail
                go_meet
                have := HFIN.out _ { M with oe := M.oe - 1 } hE (hS.congr rfl (fun _ _ => rfl) (fun _ _ => rfl) (fun _ _ => rfl)) HP.out
                rw [← HN.out]
                first | exact this | (rw [HO0.out]; exact this)
              · have hqz : ¬ (0 : Int) < (M.oe : Int) := by omega
                have HE0 := Lib.hid (show (0 : Int) = (M.oe : Int) by omega)
                by_cases hi : M.tiso = false ∧ 1 < M.d
                · have HP : Hid (M.pop = { M with d := M.d - 1 }) := Lib.hid (by unfold Mst.pop; rw [if_neg ho, if_neg hq, if_pos hi])
                  obtain ⟨hi1, hi2⟩ := hi
                  have hi3 : (2 : Int) ≤ (M.d : Int) := by omega
                  have HI1 := Lib.hid hi1
                  clear ho hq hi1
                  go_wp2_with fail
                  refine (lastIso_any _ hS hd1 hd2).mono ?_
                  rintro e w' ⟨rfl, nq, rfl⟩
                  rw [HI1.out]
                  go_wp2_with fail
                  refine (depth_any _ (hS.drewN nq)).mono ?_
                  rintro e w' ⟨rfl, rfl⟩
                  go_wp2_with fail
                  refine (pop_any _ (hS.drewN nq) hd1 hd2).mono ?_
                  rintro e w2 ⟨rfl, hS2, hk2⟩
                  go_wp2_with fail
                  go_meet
                  have := HFIN.out _ { M with d := M.d - 1 } ((hE.drewN nq).step HD hk2) hS2 HP.out
                  exact this
                · have HP : Hid (M.pop = M) := Lib.hid (by unfold Mst.pop; rw [if_neg ho, if_neg hq, if_neg hi])
                  cases hti : M.tiso with
                  | true =>
                    have HI1 := Lib.hid hti
                    clear ho hq hi hti
                    go_wp2_with fail
                    refine (lastIso_any _ hS hd1 hd2).mono ?_
                    rintro e w' ⟨rfl, nq, rfl⟩
                    rw [HI1.out]
                    go_wp2_with fail
                    go_meet
                    exact HFIN.out _ _ (hE.drewN nq) (hS.drewN nq) HP.out
                  | false =>
                    have hi3 : ¬ (2 : Int) ≤ (M.d : Int) := fun e => hi ⟨hti, by omega⟩
                    have HI1 := Lib.hid hti
                    clear ho hq hi hti
                    go_wp2_with fail
                    refine (lastIso_any _ hS hd1 hd2).mono ?_
                    rintro e w' ⟨rfl, nq, rfl⟩
                    rw [HI1.out]
                    go_wp2_with fail
                    refine (depth_any _ (hS.drewN nq)).mono ?_
                    rintro e w' ⟨rfl, rfl⟩
                    go_wp2_with fail
                    go_meet
                    exact HFIN.out _ _ (hE.drewN nq) (hS.drewN nq) HP.out
        by_cases h4 : x k = 7
        ·
          as_aux_lemma =>
            have h := h4
            clear h1 h4
            have hxk := h
            clear h
            have hc : WW.cell? ⟨T, k, none⟩ = some (.int .u64 7) := by rw [hE.types.cell hkn, ctK_at, hxk, show cls 7 = 7 from by decide]
            have HXK := Lib.hid hxk
            have HMX := Lib.hid (show mst x (fsI n x) base (k + 1) = M.step 7 (fsI n x k) by rw [HMS.out, hxk])
            clear hxk
            have HNN := Lib.hid (HB.out k hkn HXK.out)
            clear HMX
            go_upto_region 62 with fail
            clear hc
            go_wp2_with fail
            refine (empty_any _ hS).mono ?_
            rintro e w2 ⟨rfl, hk2⟩
            have hE2 := hE.step HD hk2
            have c5 : w2.cell? ⟨p, 5, none⟩ = some (.slice (some ⟨R, 0, none⟩) n n) := hE2.para.cell (by omega)
            have c3 : w2.cell? ⟨p, 3, none⟩ = some (.int .i8 base) := hE2.para.cell (by omega)
            have g1 := hE2.levels.cell hkn
            have g2 := hE2.levels.frozen k
            clear hE hS hk2
            go_upto_region 66 with fail
            refine wp_region_quiet_tail 10 (by kernel_rfl) (by kernel_rfl) ?_
            simp only [List.take_succ_cons, List.take_zero, List.drop_succ_cons, List.drop_zero]
            repeat (quiet_step (fail))
            refine wpQuiet_nil ?_
            rintro _ ⟨nq, rfl⟩
            go_wp2_with fail
            go_meet
            refine Nxt.of ((hE2.drewN nq).setL HD k base) (fun i _ _ => rfl) (by rw [ctK_at, tI_rem HXK.out (by omega)]) (fun i hi hr => by rw [if_neg (by omega)]; exact HCL.out i hi hr) (fun _ => by rw [if_pos rfl, lvl_b HXK.out]) (fun hlt => ?_)
            have := HNN.out
            omega
        have HOTH := Lib.hid (oth_range h1 h2 h3 h4)
        have hot := oth_cls hcr (oth_range h1 h2 h3 h4)
        have HMC : Hid (mst x (fsI n x) base (k + 1) = M) := Lib.hid (by rw [HMS.out, oth_step (oth_range h1 h2 h3 h4)])
        have HXL := Lib.hid (HLV.out h2 h4)
        obtain ⟨c, hcd⟩ : ∃ c, c = cls (x k) := ⟨_, rfl⟩
        have hc : WW.cell? ⟨T, k, none⟩ = some (.int .u64 c) := by rw [hE.types.cell hkn, ctK_at, hcd]
        rw [← hcd] at hot
        have HCD := Lib.hid hcd
        clear hcd h1 h2 h3 h4
        obtain ⟨b1, b2, b3, b4, b5, b6, b7, b8, b9, b10⟩ := hot
        go_upto_region 7 with fail
        go_cut [] (fun wx => EX w B p K T R N6 capT n f0 f1 f2 f7 base (fun i => cls (x i)) (ctK x (fsI n x) base k) (fun i => if i = k then M.top else cl i) wx ∧ SRow wx K M)
        case first =>
          as_aux_lemma =>
            have c5 : WW.cell? ⟨p, 5, none⟩ = some (.slice (some ⟨R, 0, none⟩) n n) := hE.para.cell (by omega)
            have g1 := hE.levels.cell hkn
            have g2 := hE.levels.frozen k
            refine wp_region_quiet_tail 7 (by kernel_rfl) (by kernel_rfl) ?_
            simp only [List.take_succ_cons, List.take_zero, List.drop_succ_cons, List.drop_zero]
            repeat (quiet_step ((go_at_call 70; exact Calls.quiet_of (lastLevel_any _ (hS.drewN _) hd1 hd2))))
            refine wpQuiet_nil ?_
            rintro _ ⟨nq, rfl⟩
            go_wp2_with fail
            go_meet
            exact ⟨(hE.drewN nq).setL HD k M.top, (hS.drewN nq).setOther HD.RK.symm _⟩
        clear hE hS
        obtain ⟨hE, hS⟩ := hcut
        obtain ⟨WW, rfl⟩ : ∃ WW, WW = wc := ⟨_, rfl⟩
        clear hc b1 b2 b3 b4 b5 b6 b7 b8 b9 b10
        have FIN : ∀ (wy : World) (ct : Nat → Int), EX w B p K T R N6 capT n f0 f1 f2 f7 base (fun i => cls (x i)) ct (fun i => if i = k then M.top else cl i) wy → SRow wy K M → (∀ i, i ≠ k → ct i = (ctK x (fsI n x) base k) i) → ct k = cls (tI x (fsI n x) base k) → Nxt w B p K T R N6 capT n f0 f1 f2 f7 base x (k + 1) (.int .i64 M.oi) (.int .i64 M.oe) (.int .i64 M.vi) wy := fun _ _ hE hS e1 e2 => by
          refine Nxt.of hE (fun i _ hi => e1 i hi) e2 (fun i hi hr => by rw [if_neg (by omega)]; exact HCL.out i hi hr) (fun hr => by rw [if_pos rfl]; exact HXL.out.symm) (fun _ => ?_)
          rw [HMC.out]
          exact ⟨hS, rfl, rfl, rfl⟩
        have HFIN := Lib.hid FIN
        clear FIN
        have HT := Lib.hid (HTI.out HOTH.out.2)
        by_cases hov : M.tov = -1
        · have hovb : (ovc M.tov != 10) = false := by rw [hov]; decide
          have HTT := Lib.hid (HT.out.trans (if_pos hov))
          obtain ⟨ov, hovd⟩ : ∃ ov, ov = ovc M.tov := ⟨_, rfl⟩
          rw [← hovd] at hovb
          have HOV := Lib.hid hovd
          clear hov hovd HT
          go_wp2_with fail
          refine (lastOv_any _ hS hd1 hd2).mono ?_
          rintro e w' ⟨rfl, nq, rfl⟩
          rw [← HOV.out]
          go_wp2_with fail
          go_meet
          exact HFIN.out _ _ (hE.drewN nq) (hS.drewN nq) (fun _ _ => rfl) (by rw [ctK_at, HTT.out])
        · have hov2 := HOKM.out.tov_or
          have hovv : ovc M.tov = M.tov := by unfold ovc; rw [if_neg hov]
          have hovb : (ovc M.tov != 10) = true := by rw [hovv]; rcases hov2 with e | e | e <;> first | exact absurd e hov | (rw [e]; decide)
          have HTT := Lib.hid (show ovc M.tov = cls (tI x (fsI n x) base k) by
            rw [HT.out, if_neg hov, hovv]; rcases hov2 with e | e | e <;> first | exact absurd e hov | (rw [e]; decide))
          obtain ⟨ov, hovd⟩ : ∃ ov, ov = ovc M.tov := ⟨_, rfl⟩
          rw [← hovd] at hovb HTT
          have HOV := Lib.hid hovd
          clear hov hovd HT hov2 hovv
          go_wp2_with fail
          refine (lastOv_any _ hS hd1 hd2).mono ?_
          rintro e w' ⟨rfl, nq, rfl⟩
          rw [← HOV.out]
          have hE5 := hE.drewN nq
          have hS5 := hS.drewN nq
          generalize WW.drewN nq = w5 at hE5 hS5 ⊢
          have c5 : w5.cell? ⟨p, 4, none⟩ = some (.slice (some ⟨T, 0, none⟩) n capT) := hE5.para.cell (by omega)
          have g1 := hE5.types.cell hkn
          have g2 := hE5.types.frozen k
          go_upto_region 9 with fail
          refine wp_region_quiet_tail 7 (by kernel_rfl) (by kernel_rfl) ?_
          simp only [List.take_succ_cons, List.take_zero, List.drop_succ_cons, List.drop_zero]
          repeat (quiet_step ((go_at_call 71; exact Calls.quiet_of (lastOv_any _ (hS5.drewN _) hd1 hd2))))
          refine wpQuiet_nil ?_
          rintro _ ⟨nq2, rfl⟩
          go_wp2_with fail
          go_meet
          exact HFIN.out _ _ ((hE5.drewN nq2).setT HD k (ovc M.tov)) ((hS5.drewN nq2).setOther HD.TK.symm _) (fun i hi => if_neg hi) (by rw [if_pos rfl, ← HTT.out, HOV.out])
      case rest =>
        have HCUT : Hid _ := Lib.hid hcut
        clear hcut hE hS
        go_wp2_with fail
        go_roundg (n - (k + 1))
        case rel => exact ⟨k + 1, by omega, rfl, by go_num, HCUT.out⟩
        case measure => omega
    · obtain rfl : k = n := by omega
      go_wp2_with fail
      go_end0
      rw [← HK.out]
      exact ⟨rfl, cl, HCL.out, hE.congr (fun i hi => by unfold ctK; rw [if_pos hi]) (fun _ _ => rfl)⟩

end Go.Proofs.YtkocpijloiamcaaDoor
