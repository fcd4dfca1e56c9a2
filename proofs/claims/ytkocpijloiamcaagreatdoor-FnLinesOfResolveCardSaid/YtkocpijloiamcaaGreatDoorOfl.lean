/- spec.isSpace, spec.OfLine, spec.LineLevels. -/
import Derived.Test.YtkocpijloiamcaaGreatDoorOflP
import Derived.Test.YtkocpijloiamcaaGreatDoorGE
import Derived.Test.YtkocpijloiamcaaGreatDoorGC
import Derived.Test.YtkocpijloiamcaaGreatDoorLines
import Derived.Deep.LoopGhost
namespace Go.Proofs.YtkocpijloiamcaaGreatDoor
open Go.RowKit
set_option linter.unusedVariables false
set_option linter.unusedSimpArgs false

set_option maxHeartbeats 1000000 in
theorem isSpace_any (n : Int) (w : World) : Calls Tryz.prog 38 #[.int .i64 n] w fun e w' => e = .returned (.bool (spcS n)) ∧ w = w' := by
  by_cases h9 : n = 9
  · subst h9
    go_enter Tryz.func38, Tryz.ntmps38
    go_wp2_with fail
    go_ret
    exact ⟨rfl, rfl⟩
  have b9 : (n == 9) = false := beq_eq_false_iff_ne.2 h9
  cases hi : iniB n with
  | true =>
    have HI := Lib.hid hi
    have HS := Lib.hid (show spcS n = true by unfold iniB at hi; have := of_decide_eq_true hi; unfold spcS; exact decide_eq_true (by omega))
    clear hi h9
    go_enter Tryz.func38, Tryz.ntmps38
    go_wp2_with fail
    refine (isInitiator_any _ _).mono ?_
    rintro e w2 ⟨rfl, rfl⟩
    rw [HI.out]
    go_wp2_with fail
    go_ret
    exact ⟨ret_bool HS.out.symm, rfl⟩
  | false =>
    have HI := Lib.hid hi
    by_cases h22 : n = 22
    · subst h22
      clear hi h9
      go_enter Tryz.func38, Tryz.ntmps38
      go_wp2_with fail
      refine (isInitiator_any _ _).mono ?_
      rintro e w2 ⟨rfl, rfl⟩
      rw [HI.out]
      go_wp2_with fail
      go_ret
      exact ⟨rfl, rfl⟩
    · have b22 : (n == 22) = false := beq_eq_false_iff_ne.2 h22
      have HS := Lib.hid (show spcS n = false by unfold iniB at hi; have := of_decide_eq_false hi; unfold spcS; exact decide_eq_false (by omega))
      clear hi h9 h22
      go_enter Tryz.func38, Tryz.ntmps38
      go_wp2_with fail
      refine (isInitiator_any _ _).mono ?_
      rintro e w2 ⟨rfl, rfl⟩
      rw [HI.out]
      go_wp2_with fail
      go_ret
      exact ⟨ret_bool HS.out.symm, rfl⟩

set_option maxHeartbeats 4000000 in
theorem ofLine_any {ax al : Option Addr} {bx ox cx bl ol cl n fr tt : Nat} {x lv : Nat → Int} {base : Int} (w : World) (hn : n ≤ 2147483647) (hx : Sees w ax bx ox n cx (fun i => .int .i64 (x i))) (hl : Sees w al bl ol n cl (fun i => .int .i64 (lv i)))
    (hft : fr < tt) (htn : tt ≤ n) :
    Calls Tryz.prog 28 #[.slice ax n cx, .slice al n cl, .int .i64 base, .int .i64 fr, .int .i64 tt] w (RetSees w (tt - fr) (fun i => .int .i64 (olv x lv base tt (fr + i)))) := by
  obtain ⟨aoS, hsl, hseeS⟩ := cut_lh 22 3 Tryz.underlying22 Tryz.sizeInt hl fr tt (by omega) htn
  obtain ⟨m, hme⟩ : ∃ m, m = tt - fr := ⟨_, rfl⟩
  rw [← hme] at hsl hseeS
  rw [← hme]
  have hm1 : tt ≤ fr + m := by omega
  have hm2 : fr + m ≤ tt := by omega
  clear hme
  have g0 := Gr.empty w w.heap.size 3 (fun _ => .int .i64 0) (Nat.le_refl _)
  have hs0 : w.Since w.heap.size (w.alloc (.cells #[] 3)) := (World.Since.refl _ _).alloc (Nat.le_refl _) _
  have hS0 := hseeS.since hs0
  have HX := Lib.hid hx
  clear hx hl hseeS
  go_enter Tryz.func28, Tryz.ntmps28
  go_wp2_with (at_builtin; go_must (refine wpList_cat _ rfl _ _ 22 rfl w.heap.size 3 (.int .i64 0) 8 Tryz.underlying22 Tryz.infoInt rfl _ _ _ rfl g0 rfl hS0 (fun _ _ => rfl) (by omega) (by omega) (by simp) ?_))
  intro v1 w1 hg1 hgr1 _
  have hs1 : w.Since w.heap.size w1 := hs0.grown hgr1 (by simp) (fun k hk => (g0.ge k hk).1)
  have hg1' : Gr w1 w.heap.size 3 v1 m (fun i => .int .i64 (olD x lv base tt (tt - tt) (fr + i))) := by
    have hg0 : Gr w1 w.heap.size 3 v1 m (fun i => .int .i64 (lv (fr + i))) := by
      first
        | exact hg1
        | (rw [Nat.zero_add] at hg1; exact hg1.congr fun i _ => by rw [if_neg (by omega)]; rfl)
    exact hg0.congr fun i hi => by rw [Nat.sub_self, olD_zero (show fr + i < tt by omega)]
  obtain ⟨q, cap, rfl, hq⟩ := hg1'.form (by omega)
  have HG1 := Lib.hid hg1'
  have HS1 := Lib.hid hs1
  clear g0 hs0 hS0 hg1 hgr1 hg1' hs1 hsl
  go_wp2_with fail
  go_loopg [12, 13, 14] m (fun g e i _ wr => ∃ (r : Nat) (B : Bool), fr ≤ r ∧ r ≤ tt ∧ Hid (g = r - fr) ∧ e = .bool B ∧ i = .int .i64 ((r : Int) - 1) ∧ Hid (B = En x tt (tt - r)) ∧ Hid (Gr wr w.heap.size 3 (.slice (some ⟨q, 0, none⟩) m cap) m (fun i => .int .i64 (olD x lv base tt (tt - r) (fr + i)))) ∧ Hid (w.Since w.heap.size wr))
  case atStart => exact ⟨tt, true, by omega, Nat.le_refl _, (show m = tt - fr by omega), rfl, rfl, (show true = En x tt (tt - tt) by rw [Nat.sub_self]; rfl), HG1, HS1⟩
  case round =>
    clear HG1 HS1
    rename World => wo
    obtain ⟨r, B, hr1, hr2, HGM, rfl, rfl, HB, HG, HS⟩ := hrel
    by_cases hrf : r = fr
    · subst hrf
      have hlt : ¬ ((r : Int) ≤ (r : Int) - 1) := by omega
      have HE := Lib.hid (HG.out.congr (g := fun i => .int .i64 (olv x lv base tt (r + i))) (fun i hi => by rw [olD_end (by omega) hr2]))
      go_wp2_with fail
      go_ret
      exact HE.out.ret HS.out (Nat.le_refl _)
    · obtain ⟨k, rfl⟩ : ∃ k, r = k + 1 := ⟨r - 1, by omega⟩
      have hkz : ((k + 1 : Nat) : Int) - 1 = (k : Int) := by omega
      rw [hkz]
      have hge : (fr : Int) ≤ (k : Int) := by omega
      have hkn : k < n := by omega
      have hknz : (k : Int) < (n : Int) := by omega
      obtain ⟨rfl, hc⟩ := (HX.out.since HS.out).get hkn
      obtain ⟨j, hj⟩ : ∃ j, j = k - fr := ⟨_, rfl⟩
      have hjm : j < m := by omega
      have hjz : (j : Int) < (m : Int) := by omega
      have hjk : (k : Int) - (fr : Int) = (j : Int) := by omega
      have g1 := HG.out.cell hjm
      have g2 := HG.out.frozen j
      have HJ := Lib.hid hj
      have hkt : k < tt := by omega
      have HEn := Lib.hid (En_r (x := x) hkt)
      have HKeep := Lib.hid (olD_keep (x := x) (lv := lv) (base := base) hkt)
      have HSet := Lib.hid (olD_set (x := x) (lv := lv) (base := base) hkt)
      have HBE := Lib.hid (show En x tt (tt - (k + 1)) = B from HB.out.symm)
      obtain ⟨t, htk⟩ : ∃ t, t = x k := ⟨_, rfl⟩
      rw [← htk] at hc
      have HT := Lib.hid htk
      clear htk hj
      have set : (sepS t || (spcS t && B)) = true → Hid (Gr (wo.setCell ⟨q, j, none⟩ (.int .i64 base)) w.heap.size 3 (.slice (some ⟨q, 0, none⟩) m cap) m (fun i => .int .i64 (olD x lv base tt (tt - k) (fr + i)))) := fun h => by
        refine (HG.out.set j (.int .i64 base)).congr (fun i hi => ?_)
        rw [HSet.out (by rw [HBE.out, ← HT.out]; exact h) (fr + i)]
        have := HJ.out
        by_cases e : i = j
        · rw [if_pos e, if_pos (by omega)]
        · rw [if_neg e, if_neg (by omega)]
      have keep : (sepS t || (spcS t && B)) = false → Hid (Gr wo w.heap.size 3 (.slice (some ⟨q, 0, none⟩) m cap) m (fun i => .int .i64 (olD x lv base tt (tt - k) (fr + i)))) := fun h =>
        HG.out.congr (fun i hi => by rw [HKeep.out (by rw [HBE.out, ← HT.out]; exact h) (fr + i)])
      have ens : ∀ B', (sepS t || ((spcS t || remN t) && B)) = B' → Hid (B' = En x tt (tt - k)) := fun B' h => by
        show B' = _
        rw [HEn.out, HBE.out, ← HT.out]; exact h.symm
      have sinS : Hid (w.Since w.heap.size (wo.setCell ⟨q, j, none⟩ (.int .i64 base))) := HS.out.setCell (a := ⟨q, j, none⟩) hq _
      have SET := Lib.hid set
      have KEEP := Lib.hid keep
      have ENS := Lib.hid ens
      clear set keep ens
      have hmeas : Hid (k - fr < k + 1 - fr) := (show k - fr < k + 1 - fr by omega)
      by_cases h7 : t = 7
      · subst h7
        have H1 := SET.out rfl
        have H2 := ENS.out true rfl
        go_wp2_with fail
        go_roundg (k - fr)
        case rel => exact ⟨k, true, by omega, by omega, (show k - fr = k - fr from rfl), rfl, by go_num, H2, H1, sinS⟩
        case measure => have := HGM.out; have := hmeas.out; omega
      have b7 : (t == 7) = false := beq_eq_false_iff_ne.2 h7
      by_cases h8 : t = 8
      · subst h8
        have H1 := SET.out rfl
        have H2 := ENS.out true rfl
        go_wp2_with fail
        go_roundg (k - fr)
        case rel => exact ⟨k, true, by omega, by omega, (show k - fr = k - fr from rfl), rfl, by go_num, H2, H1, sinS⟩
        case measure => have := HGM.out; have := hmeas.out; omega
      have b8 : (t == 8) = false := beq_eq_false_iff_ne.2 h8
      have HSP := Lib.hid (show sepS t = false from decide_eq_false (by omega))
      clear h7 h8
      cases hs : spcS t with
      | true =>
        have HC := Lib.hid hs
        cases B with
        | true =>
          have H1 := SET.out (by rw [HSP.out, HC.out]; rfl)
          have H2 := ENS.out true (by rw [HSP.out, HC.out]; rfl)
          clear hs
          go_wp2_with fail
          refine (isSpace_any _ _).mono ?_
          rintro e w2 ⟨rfl, rfl⟩
          rw [HC.out]
          go_wp2_with fail
          go_roundg (k - fr)
          case rel => exact ⟨k, true, by omega, by omega, (show k - fr = k - fr from rfl), rfl, by go_num, H2, H1, sinS⟩
          case measure => have := HGM.out; have := hmeas.out; omega
        | false =>
          have H1 := KEEP.out (by rw [HSP.out, HC.out]; rfl)
          have H2 := ENS.out false (by rw [HSP.out, HC.out]; rfl)
          have HR := Lib.hid (show remN t = false by unfold spcS at hs; have := of_decide_eq_true hs; unfold remN; exact decide_eq_false (by omega))
          clear hs
          go_wp2_with fail
          refine (isSpace_any _ _).mono ?_
          rintro e w2 ⟨rfl, rfl⟩
          rw [HC.out]
          go_wp2_with fail
          refine (isRemoved_any _ _).mono ?_
          rintro e w2 ⟨rfl, rfl⟩
          rw [HR.out]
          go_wp2_with fail
          go_roundg (k - fr)
          case rel => exact ⟨k, false, by omega, by omega, (show k - fr = k - fr from rfl), rfl, by go_num, H2, H1, HS⟩
          case measure => have := HGM.out; have := hmeas.out; omega
      | false =>
        have HC := Lib.hid hs
        have H1 := KEEP.out (by rw [HSP.out, HC.out]; rfl)
        cases hr : remN t with
        | true =>
          have HR := Lib.hid hr
          have H2 := ENS.out B (by rw [HSP.out, HC.out, HR.out]; rfl)
          clear hs hr
          go_wp2_with fail
          refine (isSpace_any _ _).mono ?_
          rintro e w2 ⟨rfl, rfl⟩
          rw [HC.out]
          go_wp2_with fail
          refine (isRemoved_any _ _).mono ?_
          rintro e w2 ⟨rfl, rfl⟩
          rw [HR.out]
          go_wp2_with fail
          go_roundg (k - fr)
          case rel => exact ⟨k, B, by omega, by omega, (show k - fr = k - fr from rfl), rfl, by go_num, H2, H1, HS⟩
          case measure => have := HGM.out; have := hmeas.out; omega
        | false =>
          have HR := Lib.hid hr
          have H2 := ENS.out false (by rw [HSP.out, HC.out, HR.out]; rfl)
          clear hs hr
          go_wp2_with fail
          refine (isSpace_any _ _).mono ?_
          rintro e w2 ⟨rfl, rfl⟩
          rw [HC.out]
          go_wp2_with fail
          refine (isRemoved_any _ _).mono ?_
          rintro e w2 ⟨rfl, rfl⟩
          rw [HR.out]
          go_wp2_with fail
          go_roundg (k - fr)
          case rel => exact ⟨k, false, by omega, by omega, (show k - fr = k - fr from rfl), rfl, by go_num, H2, H1, HS⟩
          case measure => have := HGM.out; have := hmeas.out; omega

set_option maxHeartbeats 2000000 in
theorem lineLevels_any {ax al ay : Option Addr} {bx ox cx bl ol cl by_ oy nb cy n : Nat} {x lv : Nat → Int} {base : Int} {br : Nat → Nat} (w : World) (hn : n ≤ 2147483647) (hnb : nb ≤ 2147483647) (hx : Sees w ax bx ox n cx (fun i => .int .i64 (x i))) (hl : Sees w al bl ol n cl (fun i => .int .i64 (lv i)))
    (hy : Sees w ay by_ oy nb cy (fun i => .int .i64 (br i : Int))) (hbr : Brk br nb n) :
    Calls Tryz.prog 13 #[.slice ax n cx, .slice al n cl, .int .i64 base, .slice ay nb cy] w (RetSees w n (fun i => .int .i64 (llv x lv base br nb i))) := by
  have g1 := Gr.empty w w.heap.size 3 (fun i => .int .i64 (llv x lv base br 0 i)) (Nat.le_refl _)
  have hs1 : w.Since w.heap.size (w.alloc (.cells #[] 3)) := (World.Since.refl _ _).alloc (Nat.le_refl _) _
  have HX := Lib.hid hx
  have HL := Lib.hid hl
  have HY := Lib.hid hy
  have HB := Lib.hid hbr
  clear hx hl hy hbr
  go_enter Tryz.func13, Tryz.ntmps13
  go_wp2_with fail
  go_loopg [9, 10, 12, 16] nb (fun g v s _ i wr => ∃ k : Nat, k ≤ nb ∧ g = nb - k ∧ i = .int .i64 k ∧ s = .int .i64 (st br k : Int) ∧ Gr wr w.heap.size 3 v (st br k) (fun i => .int .i64 (llv x lv base br k i)) ∧ w.Since w.heap.size wr)
  case atStart => exact ⟨0, by omega, rfl, rfl, rfl, g1, hs1⟩
  case round =>
    rename World => wo
    obtain ⟨k, hk, rfl, rfl, rfl, hg, hs⟩ := hrel
    clear g1 hs1
    by_cases hlt : k < nb
    · obtain ⟨rfl, hc⟩ := (HY.out.since hs).get hlt
      have hst := HB.out.asc k hlt
      have hle := HB.out.le k hlt
      have hnext := Lib.hid (st_succ br k)
      have hll : ∀ i, llv x lv base br (k + 1) i = if st br k ≤ i ∧ i < br k then olv x lv base (br k) i else llv x lv base br k i := fun i => rfl
      obtain ⟨s, hse⟩ : ∃ s, s = st br k := ⟨_, rfl⟩
      obtain ⟨t, hte⟩ : ∃ t, t = br k := ⟨_, rfl⟩
      rw [← hse, ← hte] at hst hll
      rw [← hte] at hle hc hnext
      rw [← hse] at hg
      rw [← hse]
      have hlz : (k : Int) < (nb : Int) := by omega
      have HLL := Lib.hid hll
      clear hse hte hll
      have hxr := HX.out.since hs
      have hlr := HL.out.since hs
      go_wp2_with fail
      refine (ofLine_any _ hn hxr hlr hst hle).mono ?_
      rintro e w3 ⟨ao3, b3, o3, c3, rfl, hs3, hf3, hsi3⟩
      have hg3 := hg.since hsi3
      have hsw3 := since2 hs hsi3
      have hz3 := hsw3.size
      clear hg hs hxr hlr hsi3 hc
      go_wp2_with (at_builtin; go_must (refine wpList_cat _ rfl _ _ 22 rfl w.heap.size 3 (.int .i64 0) 8 Tryz.underlying22 Tryz.infoInt rfl _ _ _ rfl hg3 rfl hs3 (fun _ _ => rfl) (by omega) (by omega) hz3 ?_))
      intro v4 w4 hg4 hgr4 _
      have hs4 : w.Since w.heap.size w4 := hsw3.grown hgr4 hz3 (fun k hk => (hg3.ge k hk).1)
      have hg5 : Gr w4 w.heap.size 3 v4 t (fun i => .int .i64 (llv x lv base br (k + 1) i)) := by
        rw [show s + (t - s) = t by omega] at hg4
        exact hg4.congr fun i hi => by
          rw [HLL.out]
          by_cases q : i < s
          · rw [if_pos q, if_neg (by omega)]
          · rw [if_neg q, if_pos (by omega), show s + (i - s) = i by omega]
      clear hg3 hsw3 hs3 hg4 hgr4
      go_wp2_with fail
      go_roundg (nb - (k + 1))
      case rel => exact ⟨k + 1, by omega, rfl, by go_num, by rw [hnext.out], by rw [hnext.out]; exact hg5, hs4⟩
      case measure => omega
    · obtain rfl : k = nb := by omega
      have he := HB.out.st_end
      go_wp2_with fail
      go_ret
      rw [he] at hg
      exact hg.ret hs (Nat.le_refl _)

def sameWB (n : Nat) (a b lv : Nat → Int) : Bool := decide (∀ i, i < n → lv i ≠ -1 → a i = b i)

set_option maxHeartbeats 1000000 in
theorem sameWhere_any {a1 a2 a3 : Option Addr} {b1 o1 c1 b2 o2 c2 b3 o3 c3 n : Nat} {x y lv : Nat → Int} (w : World) (hn : n ≤ 4294967296) (hx : Sees w a1 b1 o1 n c1 (fun i => .int .i64 (x i))) (hy : Sees w a2 b2 o2 n c2 (fun i => .int .i64 (y i))) (hl : Sees w a3 b3 o3 n c3 (fun i => .int .i64 (lv i))) :
    Calls Tryz.prog 12 #[.slice a1 n c1, .slice a2 n c2, .slice a3 n c3] w fun e w' => e = .returned (.bool (sameWB n x y lv)) ∧ w.Since w.heap.size w' := by
  go_enter Tryz.func12, Tryz.ntmps12
  go_wp2_with fail
  go_loopg [7, 8, 23] n (fun g _ _ i wr => ∃ k : Nat, k ≤ n ∧ g = n - k ∧ i = .int .i64 k ∧ Hid (∀ j, j < k → lv j ≠ -1 → x j = y j) ∧ w.Since w.heap.size wr)
  case atStart => exact ⟨0, by omega, rfl, rfl, fun j hj => absurd hj (Nat.not_lt_zero _), World.Since.refl _ _⟩
  case round =>
    obtain ⟨k, hk, rfl, rfl, HA, hs⟩ := hrel
    by_cases hkn : k < n
    · have hkz : (k : Int) < (n : Int) := by omega
      obtain ⟨rfl, hcx⟩ := (hx.since hs).get hkn
      obtain ⟨rfl, hcy⟩ := (hy.since hs).get hkn
      obtain ⟨rfl, hcl⟩ := (hl.since hs).get hkn
      clear hx hy hl
      by_cases hr : lv k = -1
      · have hb : (lv k != -1) = false := by rw [hr]; rfl
        have HR := Lib.hid hr
        clear hr
        go_upto_region 6 with fail
        refine wp_region_quiet_lit (by kernel_rfl) (by kernel_rfl) ?_
        repeat ((with_reducible refine wpQuiet_step ?_); intro K hK; go_simp; (with_reducible refine hK _ ?_); clear hK K)
        with_reducible refine wpQuiet_nil ?_
        intro _ hw'; obtain ⟨nq, h⟩ := hw'; subst h
        go_wp2_with fail
        go_roundg (n - (k + 1))
        case rel => exact ⟨k + 1, by omega, rfl, by go_num, fun j hj hv => by rcases Nat.lt_succ_iff_lt_or_eq.1 hj with h | h; exact HA.out j h hv; subst h; exact absurd HR.out hv, since_drewN hs _⟩
        case measure => omega
      · have hb : (lv k != -1) = true := by simpa using hr
        have HR := Lib.hid hr
        clear hr
        by_cases hxy : x k = y k
        · have hb2 : (x k != y k) = false := by simp [hxy]
          have HX := Lib.hid hxy
          clear hxy
          go_upto_region 6 with fail
          go_quiet (fail)
          go_wp2_with fail
          go_roundg (n - (k + 1))
          case rel => exact ⟨k + 1, by omega, rfl, by go_num, fun j hj hv => by rcases Nat.lt_succ_iff_lt_or_eq.1 hj with h | h; exact HA.out j h hv; subst h; exact HX.out, since_drewN hs _⟩
          case measure => omega
        · have hb2 : (x k != y k) = true := by simpa using hxy
          have HX := Lib.hid hxy
          clear hxy
          go_upto_region 6 with fail
          go_quiet (fail)
          go_wp2_with fail
          go_ret
          exact ⟨ret_bool (by unfold sameWB; symm; rw [decide_eq_false_iff_not]; exact fun h => HX.out (h k hkn HR.out)), since_drewN hs _⟩
    · obtain rfl : k = n := by omega
      go_wp2_with fail
      go_ret
      exact ⟨ret_bool (by unfold sameWB; symm; rw [decide_eq_true_eq]; exact HA.out), hs⟩
end Go.Proofs.YtkocpijloiamcaaGreatDoor
