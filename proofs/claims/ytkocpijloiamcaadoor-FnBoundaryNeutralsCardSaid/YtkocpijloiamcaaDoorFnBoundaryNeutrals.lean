/- The law FnBoundaryNeutrals, its tied card: for every input the call returns true, and each argument and the table of classes read afterwards as before. The row's one condition, that the table starts as the program's text lays it, is tied to the text by the given tie. -/
import Derived.Test.YtkocpijloiamcaaDoorCards
import Derived.Test.YtkocpijloiamcaaDoorTie
import Derived.Test.YtkocpijloiamcaaDoorCase
import Derived.Test.YtkocpijloiamcaaDoorJnB2
import Derived.WalkKit
import Derived.ProofKit
import Derived.OpenShut
import Derived.ShutString
import Derived.ChangeOld
import Derived.ChangeVars
import Derived.WalkSmall
import Derived.Below
import Derived.Deep.DeepHandedRow
import Derived.Lib.LaidTab
namespace Go.Proofs.YtkocpijloiamcaaDoor.fnBoundaryNeutrals
open Go.ChangeShapes Go.WideShapes Go.ChangeAt Go.RowKit
open Go.ChangeMaps (open_string shut_string)
set_option linter.unusedVariables false

theorem own : ownKnob Tryd.prog.godebug = none := by kernel_rfl
theorem laidOut : laidOutB Tryd.prog = true := by kernel_rfl
/-- The table's name. -/
def tabName : String := Rows.fnBoundaryNeutralsSpec.vars.headD ""
theorem gTab : Tryd.prog.globalNamed tabName = some 0 := by kernel_rfl
theorem gTabType : (Tryd.prog.globals[0]?).map (·.type) = some 84 := by kernel_rfl
theorem cellsT : Tryd.prog.cellsOf 84 = 23 := by kernel_rfl
theorem cellsC : Tryd.prog.cellsOf 67 = 1 := by kernel_rfl
def tabZ : List Int := [0, 1, 2, 3, 4, 5, 6, 7, 8, 9, 10, 11, 12, 13, 16, 17, 18, 19, 20, 21, 22, 23, 24]

/-- What the row's list gives. -/
theorem table {W : World} (h : laidMetH Tryd.prog Rows.fnBoundaryNeutralsRow.laid W) : Lib.TabIs Tryd.prog W tabName .u64 tabZ :=
  Lib.tabIs_of_head (rest := []) gTab gTabType Tryd.underlying84 Tryd.underlying67 cellsC cellsT h
theorem tab {W : World} (h : laidMetH Tryd.prog Rows.fnBoundaryNeutralsRow.laid W) : Tab W := fun i hi => by
  have h1 := (table h).cell gTab i (by simpa [tabZ] using hi)
  rw [h1]
  congr 2
  have : ∀ j : Fin 23, tabZ.getD j.val 0 = cls (j.val : Int) := by decide
  exact this ⟨i, hi⟩

/-- What the walk is told of a slice of integers that came in. -/
def IsRow (k : IntKind) (w : World) (a : Option Addr) (len cap : Nat) (zs : List Int) : Prop :=
  (a = none ∧ len = 0 ∧ cap = 0 ∧ zs = []) ∨
  ∃ x, a = some x ∧ len ≤ cap ∧ cap ≤ maxLen ∧ zs.length = cap ∧ (∀ i, i < zs.length → w.cell? (x.add i) = some (.int k (zs.getD i 0))) ∧ ∀ n ∈ zs, (Lit.int k n).wf = true

set_option maxHeartbeats 4000000 in
set_option maxRecDepth 100000 in
theorem walk (a0 : Option Addr) (len0 cap0 : Nat) (z0 : List Int) (a1 : Option Addr) (len1 cap1 : Nat) (z1 : List Int) (a2 : Option Addr) (len2 cap2 : Nat) (z2 : List Int) (a3 : Int) (w : World) (w0 : IsRow .i64 w a0 len0 cap0 z0) (w1 : IsRow .i64 w a1 len1 cap1 z1) (w2 : IsRow .i64 w a2 len2 cap2 z2) (w3 : (Lit.int .i64 a3).wf = true) (ht : Tab w) :
    Calls Tryd.prog 4 #[.slice a0 len0 cap0, .slice a1 len1 cap1, .slice a2 len2 cap2, .int .i64 a3] w fun e w' => e = .returned (.bool true) ∧ Below w.heap.size w w' := by
  obtain ⟨b0, o0, hr0⟩ := sees_of_row w0
  obtain ⟨x, hx⟩ : ∃ x : Nat → Int, Sees w a0 b0 o0 len0 cap0 (fun i => .int .i64 (x i)) := ⟨_, hr0⟩
  obtain ⟨b1, o1, hr1⟩ := sees_of_row w1
  obtain ⟨kd, hkd⟩ : ∃ x : Nat → Int, Sees w a1 b1 o1 len1 cap1 (fun i => .int .i64 (x i)) := ⟨_, hr1⟩
  obtain ⟨b2, o2, hr2⟩ := sees_of_row w2
  obtain ⟨vl, hvl⟩ : ∃ x : Nat → Int, Sees w a2 b2 o2 len2 cap2 (fun i => .int .i64 (x i)) := ⟨_, hr2⟩
  clear hr0 w0 hr1 w1 hr2 w2
  by_cases hn0 : len0 ≤ 2147483647
  case neg =>
    have hb : (2147483647 : Int) < (len0 : Int) := by omega
    go_enter Tryd.func4, Tryd.ntmps4
    go_wp2_with fail
    go_ret
    exact ⟨rfl, Below.refl _ _⟩
  by_cases hn1 : len1 ≤ 2147483647
  case neg =>
    have hb : (2147483647 : Int) < (len1 : Int) := by omega
    go_enter Tryd.func4, Tryd.ntmps4
    go_wp2_with fail
    go_ret
    exact ⟨rfl, Below.refl _ _⟩
  by_cases hn2 : len2 ≤ 2147483647
  case neg =>
    have hb : (2147483647 : Int) < (len2 : Int) := by omega
    go_enter Tryd.func4, Tryd.ntmps4
    go_wp2_with fail
    go_ret
    exact ⟨rfl, Below.refl _ _⟩
  go_enter Tryd.func4, Tryd.ntmps4
  go_wp2_with fail
  refine (isCase_any _ hn0 hn1 hn2 hx hkd hvl).mono ?_
  rintro e w1 ⟨B, rfl, rfl, HB⟩
  cases B with
  | false =>
    go_wp2_with fail
    go_ret
    exact ⟨rfl, Below.refl _ _⟩
  | true =>
  obtain ⟨hpos, hok, hb7, rfl, rfl, hkk, hvv, hgg⟩ := HB rfl
  clear HB
  have HOK := Lib.hid hok
  have HB7 := Lib.hid hb7
  have HKK := Lib.hid hkk
  have HVV := Lib.hid hvv
  have HGG := Lib.hid hgg
  clear hok hb7 hkk hvv hgg
  have hg0 := Gr.empty w w.heap.size 3 (cellsOf (kl x 0)) (Nat.le_refl _)
  have hs0 : w.Since w.heap.size (w.alloc (.cells #[] 3)) := (World.Since.refl _ _).alloc (Nat.le_refl _) _
  have HX := Lib.hid hx
  have HK := Lib.hid hkd
  have HV := Lib.hid hvl
  have HT := Lib.hid ht
  clear hx hkd hvl ht
  go_wp2_with fail
  go_loopg [9, 10, 11, 45] len2 (fun g v _ _ i wr => ∃ k : Nat, k ≤ len2 ∧ g = len2 - k ∧ i = .int .i64 k ∧ Hid (Gr wr w.heap.size 3 v (kp x k) (cellsOf (kl x k))) ∧ Hid (w.Since w.heap.size wr))
  case atStart => exact ⟨0, Nat.zero_le _, rfl, rfl, hg0, hs0⟩
  case round =>
    clear hg0 hs0
    obtain ⟨k, hk, rfl, rfl, HG, HS⟩ := hrel
    by_cases hkn : k < len2
    · have hkz : (k : Int) < (len2 : Int) := by omega
      obtain ⟨rfl, hc⟩ := (HX.out.since HS.out).get hkn
      have hle := HX.out.le
      have hsz := HS.out.size
      have hkp := kp_le (x := x) k
      obtain ⟨X, hX⟩ : ∃ X, X = x k := ⟨_, rfl⟩
      rw [← hX] at hc
      by_cases e11 : X = 11
      · have b11 : (X != 11) = false := by rw [e11]; rfl
        have HG2 := Lib.hid (show Gr wr w.heap.size 3 _ (kp x (k + 1)) (cellsOf (kl x (k + 1))) by rw [kp_bn (by rw [← hX]; exact e11), kl, if_pos (by rw [← hX]; exact e11)]; exact HG.out)
        clear hX e11
        go_wp2_with fail
        go_roundg (len2 - (k + 1))
        case rel => exact ⟨k + 1, by omega, rfl, by go_num, HG2, HS⟩
        case measure => omega
      · have b11 : (X != 11) = true := bne_iff_ne.2 e11
        have hg := HG.out
        have HU := Lib.hid (kp_up (x := x) (k := k) (by rw [← hX]; exact e11))
        have HKL := Lib.hid (show kl x (k + 1) = kl x k ++ [k] by rw [kl, if_neg (by rw [← hX]; exact e11)])
        clear hX e11
        obtain ⟨KP, hKP⟩ : ∃ KP, KP = kp x k := ⟨_, rfl⟩
        have HKP := Lib.hid hKP
        rw [← hKP] at hg hkp
        clear hKP
        go_wp2_with (at_builtin; go_must (refine wpList_push wr rfl _ _ 22 rfl w.heap.size 3 (.int .i64 0) 8 Tryd.underlying22 Tryd.infoInt rfl _ _ _ _ (by rfl) hg (by rfl) rfl (by omega) (by omega) hsz ?_))
        intro v' w5 hg2 hgr2 hat
        have HS2 := Lib.hid (show w.Since w.heap.size w5 from (HS.out.alloc hsz _).grown hgr2 (by simp; omega) (fun k hk => (hg.ge k hk).1))
        have HG2 := Lib.hid (show Gr w5 w.heap.size 3 v' (kp x (k + 1)) (cellsOf (kl x (k + 1))) by
          rw [HU.out, ← HKP.out]
          exact hg2.congr (fun i _ => by rw [HKL.out, cellsOf_snoc, kl_len, ← HKP.out]))
        clear hg hg2 hgr2 hat hc
        go_wp2_with fail
        go_roundg (len2 - (k + 1))
        case rel => exact ⟨k + 1, by omega, rfl, by go_num, HG2, HS2⟩
        case measure => omega
    · obtain rfl : k = len2 := by omega
      obtain ⟨m, hm⟩ : ∃ m, m = kp x k := ⟨_, rfl⟩
      have hmk := kp_le (x := x) k
      have HG := HG
      rw [← hm] at HG hmk
      obtain ⟨ak, ck', rfl⟩ := HG.out.len
      by_cases hm0 : m = 0
      · subst hm0
        clear hm
        go_wp2_with fail
        go_ret
        exact ⟨rfl, below_of_since HS.out⟩
      have hm0b : ((m : Int) == 0) = false := beq_eq_false_iff_ne.2 (by omega)
      obtain ⟨q7, c7, hq7, hq7b⟩ := HG.out.form (by omega)
      simp only [Value.slice.injEq, true_and] at hq7
      obtain ⟨rfl, rfl⟩ := hq7
      have HP := Lib.hid ((HG.out.sees' (by omega)).congr (g := fun i => .int .i64 ((phi x k i : Nat) : Int)) (fun i hi => by
        show Value.int .i64 (((kl x k).getD i 0 : Nat) : Int) = _
        unfold phi
        rw [if_pos (by rw [← hm]; exact hi)]))
      have hph := fun j (hj : j < m) => phi_lt (x := x) (n := k) (j := j) (by rw [← hm]; exact hj)
      have HPH := Lib.hid hph
      have HM := Lib.hid hm
      have HOK' := Lib.hid (show ∀ i, i < m → clsOk ((fun j => x (phi x k j)) i) from fun i hi => HOK.out _ (hph i hi).1)
      have HB7' := Lib.hid (show ∀ i, i < m → (fun j => x (phi x k j)) i = 7 → m ≤ i + 1 from fun i hi e => by rw [hm]; exact phi_b7 HB7.out i (by rw [← hm]; exact hi) e)
      have HKK' := Lib.hid (show ∀ i, i < m → (fun j => kd (phi x k j)) i = 0 ∨ (fun j => kd (phi x k j)) i = 1 ∨ (fun j => kd (phi x k j)) i = 2 from fun i hi => HKK.out _ (hph i hi).1)
      have HVV' := Lib.hid (show ∀ i, i < m → 0 ≤ (fun j => vl (phi x k j)) i ∧ (fun j => vl (phi x k j)) i ≤ 1114111 from fun i hi => HVV.out _ (hph i hi).1)
      clear HG hph hm
      go_wp2_with fail
      refine (implResolve_any (x := x) (kd := kd) (vl := vl) (g := a3) _ (HT.out.since HS.out) hn2 hpos HGG.out HOK.out HB7.out HKK.out HVV.out (HX.out.since HS.out) (HK.out.since HS.out) (HV.out.since HS.out)).mono ?_
      rintro e wA ⟨ft, fl, hD, A1, B1, O1, C1, A2, B2, O2, C2, rfl, hT1, hL1, _, _, hsA⟩
      have HSA := Lib.hid (since2 HS.out hsA)
      have HPA := Lib.hid (HP.out.since hsA)
      have HD := Lib.hid hD
      have HL1 := Lib.hid hL1
      have HBO := Lib.hid (baseP_or (x := x) (N := k) HGG.out)
      obtain ⟨base, hbase⟩ : ∃ base, base = baseP x k a3 := ⟨_, rfl⟩
      rw [← hbase] at HD HBO ⊢
      have HBS := Lib.hid hbase
      clear hD hL1 hT1 hsA hbase HP
      go_wp2_with fail
      refine (takeA_any (f := x) (g := phi x k) _ (by omega) (by omega) (fun i hi => (HPH.out i hi).1) (HX.out.since HSA.out) HPA.out).mono ?_
      rintro e wB ⟨A3, B3, O3, C3, rfl, hX3, _, hsB⟩
      have HSB := Lib.hid (since2 HSA.out hsB)
      have HPB := Lib.hid (HPA.out.since hsB)
      have HLB := Lib.hid (HL1.out.since hsB)
      have HX3 := Lib.hid hX3
      clear hX3 hsB HPA HL1
      go_wp2_with fail
      refine (takeA_any (f := kd) (g := phi x k) _ (by omega) (by omega) (fun i hi => (HPH.out i hi).1) (HK.out.since HSB.out) HPB.out).mono ?_
      rintro e wC ⟨A4, B4, O4, C4, rfl, hK4, _, hsC⟩
      have HSC := Lib.hid (since2 HSB.out hsC)
      have HPC := Lib.hid (HPB.out.since hsC)
      have HLC := Lib.hid (HLB.out.since hsC)
      have HX4 := Lib.hid (HX3.out.since hsC)
      have HK4 := Lib.hid hK4
      clear hK4 hsC HPB HLB HX3
      go_wp2_with fail
      refine (takeA_any (f := vl) (g := phi x k) _ (by omega) (by omega) (fun i hi => (HPH.out i hi).1) (HV.out.since HSC.out) HPC.out).mono ?_
      rintro e wD ⟨A5, B5, O5, C5, rfl, hV5, _, hsD⟩
      have HSD := Lib.hid (since2 HSC.out hsD)
      have HPD := Lib.hid (HPC.out.since hsD)
      have HLD := Lib.hid (HLC.out.since hsD)
      have HX5 := Lib.hid (HX4.out.since hsD)
      have HK5 := Lib.hid (HK4.out.since hsD)
      have HRS := Lib.hid (implResolve_any (N := m) (x := fun j => x (phi x k j)) (kd := fun j => kd (phi x k j)) (vl := fun j => vl (phi x k j)) (g := a3) wD (HT.out.since HSD.out) (by omega) (by omega) HGG.out HOK'.out HB7'.out HKK'.out HVV'.out HX5.out HK5.out hV5)
      clear hV5 hsD HPC HLC HX4 HK4
      go_wp2_with fail
      refine HRS.out.mono ?_
      rintro e wE ⟨ft2, fl2, hD2, A6, B6, O6, C6, A7, B7, O7, C7, rfl, hT6, hL7, _, _, hsE⟩
      have hbb : baseP (fun j => x (phi x k j)) m a3 = base := by rw [HBS.out, HM.out]; exact baseP_less
      rw [hbb] at hD2 ⊢
      have HE := Lib.hid (show ∀ j, j < m → remN (x (phi x k j)) = false → fl2 j = fl (phi x k j) from fun j hj hr => by
        obtain ⟨h1, h2, h3⟩ := HPH.out j hj
        have hm := HM.out
        have hD2' := hD2
        rw [hm] at hD2'
        have := boundary_ok (x := x) (y := fun j => x (phi x k j)) (kd := kd) (vl := vl) (kd' := fun j => kd (phi x k j)) (vl' := fun j => vl (phi x k j)) HBO.out less_phi HB7.out (fun i hi e => phi_b7 HB7.out i hi e)
          (fun i hi e => ⟨by show kd (phi x k (kp x i)) = kd i; rw [phi_kp hi e], by show vl (phi x k (kp x i)) = vl i; rw [phi_kp hi e]⟩)
          ⟨by show x (phi x k (kp x k)) = x k; rw [phi_end], by show kd (phi x k (kp x k)) = kd k; rw [phi_end], by show vl (phi x k (kp x k)) = vl k; rw [phi_end]⟩ HD.out hD2' h1 hr
        rw [h3] at this
        exact this)
      have HSE := Lib.hid (since2 HSD.out hsE)
      have HP' := Lib.hid (HPD.out.since hsE)
      have HL1' := Lib.hid (HLD.out.since hsE)
      have HX' := Lib.hid (HX5.out.since hsE)
      have HL2' := Lib.hid hL7
      clear hD2 hT6 hL7 hsE hbb HD HRS HX HK HV HT HSA HSB HSC HSD HS HPD HLD HX5 HK5 HOK HOK' HB7 HB7' HKK HKK' HVV HVV' HBS HBO HGG HM
      have hnn : ((k : Int) != (k : Int)) = false := by simp
      have hmm : ((m : Int) != (m : Int)) = false := by simp
      go_wp2_with fail
      go_loopg [21, 22, 109] m (fun g _ _ i wr => ∃ t : Nat, t ≤ m ∧ g = m - t ∧ i = .int .i64 t ∧ Hid (Drawn wE wr))
      case atStart => exact ⟨0, Nat.zero_le _, rfl, rfl, Drawn.refl _⟩
      case round =>
        rename World => wo
        obtain ⟨t, ht, rfl, rfl, HDR⟩ := hrel
        by_cases htn : t < m
        · have htz : (t : Int) < (m : Int) := by omega
          obtain ⟨hp1, hp2, hp3⟩ := HPH.out t htn
          obtain ⟨_, g0⟩ := HP'.out.get htn
          obtain ⟨rfl, g1⟩ := HX'.out.get htn
          obtain ⟨rfl, g2⟩ := HL2'.out.get htn
          obtain ⟨rfl, g3⟩ := HL1'.out.get hp1
          have l0 := HP'.out.le
          have l1 := HX'.out.le
          have l2 := HL2'.out.le
          have l3 := HL1'.out.le
          rw [← HDR.out.cell] at g0 g1 g2 g3
          rw [Nat.zero_add] at g0
          have hE := HE.out t htn
          obtain ⟨p, hp⟩ : ∃ p, p = phi x k t := ⟨_, rfl⟩
          (try simp only at g1)
          rw [← hp] at g0 g1 g3 hE hp1
          have hp1z : (p : Int) < (k : Int) := by omega
          obtain ⟨X, hX⟩ : ∃ X, X = x p := ⟨_, rfl⟩
          obtain ⟨V, hV⟩ : ∃ V, V = fl p := ⟨_, rfl⟩
          obtain ⟨U, hU⟩ : ∃ U, U = fl2 t := ⟨_, rfl⟩
          rw [← hX] at g1 hE
          rw [← hV] at g3 hE
          rw [← hU] at g2 hE
          clear hX hV hU hp hp2 hp3
          have HDN := Lib.hid (fun q => HDR.out.drewN q)
          have HIR := Lib.hid (fun q => isRemoved_any X (wo.drewN q))
          have HEE := Lib.hid hE
          clear hE
          cases hr : remN X with
          | true =>
            have HRX := Lib.hid hr
            clear hr
            go_wp2_with fail
            go_big_quiet ((go_at_call 17; exact quiet_same (congrArg Value.bool HRX.out) (HIR.out _)))
            go_wp2_with fail
            go_roundg (m - (t + 1))
            case rel => exact ⟨t + 1, by omega, rfl, by go_num, HDN.out _⟩
            case measure => omega
          | false =>
            have hUV := HEE.out hr
            have HRX := Lib.hid hr
            subst hUV
            have hvv : (U != U) = false := by simp
            clear hr HEE
            go_wp2_with fail
            go_big_quiet ((go_at_call 17; exact quiet_same (congrArg Value.bool HRX.out) (HIR.out _)))
            go_wp2_with fail
            go_roundg (m - (t + 1))
            case rel => exact ⟨t + 1, by omega, rfl, by go_num, HDN.out _⟩
            case measure => omega
        · obtain rfl : t = m := by omega
          go_wp2_with fail
          go_ret
          obtain ⟨q, hq⟩ := HDR.out
          exact ⟨rfl, by rw [hq]; exact below_of_since (since_drewN HSE.out q)⟩

/-! ### THE ROW's STEP -/
set_option maxRecDepth 100000 in
theorem contract (H : Type) (enc : TypeId × Value → H) (W : World) (base : Nat) (args : Array Value) (ds gs : List (DataW H)) (before : List MemPlace)
    (hval : ∀ (j : Nat) t v, Tryd.f4.params[j]? = some t → args[j]? = some v → Value.okWide Tryd.prog W .any base t v)
    (hW : DataW.Whole enc Tryd.prog Tryd.f4.params.toList Rows.fnBoundaryNeutralsSpec.vars false W args.toList ds gs before) (hL : laidMetH Tryd.prog Rows.fnBoundaryNeutralsRow.laid W) :
    Calls Tryd.prog 4 args W fun e W' => ∃ v, e = .returned v ∧ Rows.fnBoundaryNeutralsSpec.post enc Tryd.prog Tryd.f4 false true false false W args v W' := by
  have hW' := hW
  obtain ⟨p, q, hA0, hV, rfl, hfz, hnd⟩ := hW
  have hA : DataW.TrodAll enc Tryd.prog W 0 (fun _ => true) true Tryd.f4.params.toList args.toList ds p := hA0
  rw [Tryd.params4] at hA hval
  obtain ⟨v0, vs0, d0, ds0, p0, q0, hargs, rfl, rfl, h0, r0⟩ := trodAll_cons hA
  obtain ⟨v1, vs1, d1, ds1, p1, q1, rfl, rfl, rfl, h1, r1⟩ := trodAll_cons r0
  obtain ⟨v2, vs2, d2, ds2, p2, q2, rfl, rfl, rfl, h2, r2⟩ := trodAll_cons r1
  obtain ⟨v3, vs3, d3, ds3, p3, q3, rfl, rfl, rfl, h3, r3⟩ := trodAll_cons r2
  obtain ⟨rfl, rfl, rfl⟩ := trodAll_nil r3
  obtain rfl : args = #[v0, v1, v2, v3] := by cases args; simp_all
  obtain ⟨a0, len0, cap0, rfl⟩ := okWide_slice Tryd.underlying22 (hval 0 22 v0 rfl rfl)
  have k0 := h0
  have lt0 : ∀ x ∈ p0, x.block < W.heap.size := by obtain ⟨m, hm⟩ := k0; exact DataW.trod_lt m _ _ _ hm
  obtain ⟨z0, w0⟩ : ∃ zs, IsRow .i64 W a0 len0 cap0 zs := by
    obtain ⟨fuel, hf⟩ := h0
    rcases open_ints Tryd.underlying22 Tryd.underlying3 (by kernel_rfl) hf with ⟨hcs, _⟩ | ⟨x, l, c, zs, hcs, _, hl, hm, hz, _, hcell, hwz⟩
    · simp [Value.cells] at hcs
      obtain ⟨rfl, rfl, rfl⟩ := hcs
      exact ⟨[], .inl ⟨rfl, rfl, rfl, rfl⟩⟩
    · simp [Value.cells] at hcs
      obtain ⟨rfl, rfl, rfl⟩ := hcs
      exact ⟨zs, .inr ⟨_, rfl, hl, hm, by simpa using hz, hcell, hwz⟩⟩
  obtain ⟨a1, len1, cap1, rfl⟩ := okWide_slice Tryd.underlying22 (hval 1 22 v1 rfl rfl)
  have k1 := h1
  have lt1 : ∀ x ∈ p1, x.block < W.heap.size := by obtain ⟨m, hm⟩ := k1; exact DataW.trod_lt m _ _ _ hm
  obtain ⟨z1, w1⟩ : ∃ zs, IsRow .i64 W a1 len1 cap1 zs := by
    obtain ⟨fuel, hf⟩ := h1
    rcases open_ints Tryd.underlying22 Tryd.underlying3 (by kernel_rfl) hf with ⟨hcs, _⟩ | ⟨x, l, c, zs, hcs, _, hl, hm, hz, _, hcell, hwz⟩
    · simp [Value.cells] at hcs
      obtain ⟨rfl, rfl, rfl⟩ := hcs
      exact ⟨[], .inl ⟨rfl, rfl, rfl, rfl⟩⟩
    · simp [Value.cells] at hcs
      obtain ⟨rfl, rfl, rfl⟩ := hcs
      exact ⟨zs, .inr ⟨_, rfl, hl, hm, by simpa using hz, hcell, hwz⟩⟩
  obtain ⟨a2, len2, cap2, rfl⟩ := okWide_slice Tryd.underlying22 (hval 2 22 v2 rfl rfl)
  have k2 := h2
  have lt2 : ∀ x ∈ p2, x.block < W.heap.size := by obtain ⟨m, hm⟩ := k2; exact DataW.trod_lt m _ _ _ hm
  obtain ⟨z2, w2⟩ : ∃ zs, IsRow .i64 W a2 len2 cap2 zs := by
    obtain ⟨fuel, hf⟩ := h2
    rcases open_ints Tryd.underlying22 Tryd.underlying3 (by kernel_rfl) hf with ⟨hcs, _⟩ | ⟨x, l, c, zs, hcs, _, hl, hm, hz, _, hcell, hwz⟩
    · simp [Value.cells] at hcs
      obtain ⟨rfl, rfl, rfl⟩ := hcs
      exact ⟨[], .inl ⟨rfl, rfl, rfl, rfl⟩⟩
    · simp [Value.cells] at hcs
      obtain ⟨rfl, rfl, rfl⟩ := hcs
      exact ⟨zs, .inr ⟨_, rfl, hl, hm, by simpa using hz, hcell, hwz⟩⟩
  obtain ⟨a3, rfl, rfl, rfl, w3⟩ := open_int Tryd.underlying3 (hval 3 3 v3 rfl rfl) h3
  obtain ⟨g, tv, cs, fuel, dv, pv, rfl, hg1, hg2, hg3, hg4, rfl⟩ := trodVars_one hV
  obtain rfl : g = 0 := Option.some.inj (hg1.symm.trans gTab)
  obtain rfl : tv = 84 := Option.some.inj (hg2.symm.trans gTabType)
  have ltv : ∀ x ∈ pv, x.block < W.heap.size := DataW.trod_lt fuel _ _ _ hg4
  have hT := tab hL
  clear hA0
  refine (walk a0 len0 cap0 z0 a1 len1 cap1 z1 a2 len2 cap2 z2 a3 W w0 w1 w2 w3 hT).mono fun e W' ⟨he, bel⟩ => ?_
  subst he
  have hg4' := DataW.trod_stays (sp' := fun b => decide (b < W.heap.size)) (w' := W') (kids_book laidOut (by kernel_rfl)) (book_sized (by kernel_rfl)) (fun h => by cases h) ⟨of_decide_eq_true (by kernel_rfl), book_self 84⟩ hg4 (fun x hx => bel.same (ltv x hx)) (fun x hx => by simpa using ltv x hx)
  exact ⟨_, rfl, _, _, _, [], _, _, hW', trodAll_mk1 (shut_bool Tryd.underlying4 _), (trodAll_cons_mk (Below.trod laidOut (by kernel_rfl) (of_decide_eq_true (by kernel_rfl)) k0 bel lt0) (trodAll_cons_mk (Below.trod laidOut (by kernel_rfl) (of_decide_eq_true (by kernel_rfl)) k1 bel lt1) (trodAll_cons_mk (Below.trod laidOut (by kernel_rfl) (of_decide_eq_true (by kernel_rfl)) k2 bel lt2) (trodAll_cons_mk (shut_int Tryd.underlying3 w3) trodAll_mk0)))), trodVars_mk1 hg1 hg2 (var?_below bel hg1 hT.lt hg3) hg4', bel.frame _, fun h => by cases h⟩

/-- A world for the witness: the table holding what its initialiser lays. -/
noncomputable def laidWorld (os : Os) : World :=
  { World.holding Tryd.prog os ⟨#[], #[], []⟩ with heap := (World.holding Tryd.prog os ⟨#[], #[], []⟩).heap.modify 0 fun
      | .cells _ t frozen => .cells (tabZ.map fun z => Value.int .u64 z).toArray t frozen
      | o => o }
theorem laid_met (os : Os) : laidMet Tryd.prog Rows.fnBoundaryNeutralsRow.laid ((laidWorld os).forCall (fun _ _ => 0) ⟨#[], #[.slice none 0 0, .slice none 0 0, .slice none 0 0, .int .i64 0], []⟩).memory :=
  laidMet_of_run' 8 (by kernel_rfl) (by kernel_rfl)
theorem reads (os : Os) {H : Type} (enc : TypeId × Value → H) : ∃ places, DataW.whole enc Tryd.prog ((laidWorld os).forCall (fun _ _ => 0) ⟨#[], #[.slice none 0 0, .slice none 0 0, .slice none 0 0, .int .i64 0], []⟩).memory Tryd.f4.params.toList Rows.fnBoundaryNeutralsSpec.vars false (#[.slice none 0 0, .slice none 0 0, .slice none 0 0, .int .i64 0] : Array Value).toList 8 = some ([.nil, .nil, .nil, .lit (.int .i64 0)], [Rows.laid_loop_example_pub_g01449_impl_classes], places) :=
  ⟨MemPlace.row ⟨0, 0, none⟩ 23, by kernel_rfl⟩

set_option maxRecDepth 100000 in
theorem lifted (os : Os) (started : os.Started) (H : Type) (enc : TypeId × Value → H) (F : Stop.Interp) :
    ReturnsInHanded {} Tryd.checked os 4 .any ((OpenSpec.ofChange Rows.fnBoundaryNeutralsSpec).preRow enc Tryd.prog Tryd.f4 Rows.fnBoundaryNeutralsRow.domain false Rows.fnBoundaryNeutralsRow.laid) (((OpenSpec.ofChange Rows.fnBoundaryNeutralsSpec).at F).post enc Tryd.prog Tryd.f4 false true false false) := by
  obtain ⟨places, hx⟩ := reads os enc
  refine returnsInHanded_of_row (C := Tryd.checked) (s := OpenSpec.ofChange Rows.fnBoundaryNeutralsSpec) own started (by kernel_rfl) Tryd.func4
    (witness_row_at (enc := enc) (C := Tryd.checked) false (laidWorld os) #[.slice none 0 0, .slice none 0 0, .slice none 0 0, .int .i64 0] rfl (by kernel_rfl) (by kernel_rfl) (by kernel_rfl)
      (OpenSpec.preRow_of_cond 8 hx (by kernel_rfl) (fun k hk => by cases hk) (by kernel_rfl) (laid_met os))) ?_
  intro W base args ds gs before hval hW _ _ _ hL _ _
  exact contract H enc W base args ds gs before hval hW hL

theorem said : Rows.FnBoundaryNeutralsSaid :=
  OpenClaim.holds_of_cond 4 Tryd.f4 rfl rfl rfl rfl rfl rfl rfl ⟨rfl, rfl, rfl, rfl, rfl⟩ rfl rfl rfl rfl rfl (by kernel_rfl) Tryd.func4 (by kernel_rfl)
    (of_decide_eq_true (by kernel_rfl)) (by unfold Func.isWrapper; first | (rw [if_pos (by decide +kernel)]; kernel_rfl) | (rw [if_neg (by decide +kernel)]; exact ⟨rfl, rfl⟩))
    (fun os started H enc _ F => by rw [OpenClaim.pre_eq_preRow]; exact lifted os started H enc F)

theorem plain (f : FuncId) (fn : Func) (hf : Tryd.pinned.checked.prog.funcNamed Rows.fnBoundaryNeutralsRow.func = some f) (hfn : Tryd.pinned.checked.prog.funcs[f]? = some fn) :
    true = Tryd.pinned.checked.prog.looks [] ∧ ∀ (j : Nat) t, fn.params[j]? = some t → Tryd.pinned.checked.prog.wantsStandIn t = false := by
  obtain rfl : f = 4 := Option.some.inj ((show Tryd.prog.funcNamed Rows.fnBoundaryNeutralsRow.func = some 4 by kernel_rfl).symm.trans hf) |>.symm
  obtain rfl : fn = Tryd.f4 := (Option.some.inj (Tryd.func4.symm.trans hfn)).symm
  refine ⟨by kernel_rfl, fun j t ht => ?_⟩
  rw [Tryd.params4] at ht
  have ht2 : t = 22 ∨ t = 22 ∨ t = 22 ∨ t = 3 := by simpa using Array.mem_of_getElem? ht
  rcases ht2 with rfl | rfl | rfl | rfl
  · exact (show Tryd.prog.wantsStandIn 22 = false by kernel_rfl)
  · exact (show Tryd.prog.wantsStandIn 22 = false by kernel_rfl)
  · exact (show Tryd.prog.wantsStandIn 22 = false by kernel_rfl)
  · exact (show Tryd.prog.wantsStandIn 3 = false by kernel_rfl)

/-- THE CARD. -/
theorem proved : Rows.FnBoundaryNeutralsCardSaid :=
  Claim7.holds_tied_plain_at .later [] _ _ _ _ said (fun _ h => by cases h) (by kernel_rfl) (fun _ h => by cases h) fnBoundaryNeutrals_row_tie rfl ⟨rfl, rfl⟩ (by kernel_rfl) rfl plain (by kernel_rfl)
#print axioms proved
end Go.Proofs.YtkocpijloiamcaaDoor.fnBoundaryNeutrals
