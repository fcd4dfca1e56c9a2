/- The law FnMirrored, its tied card: for every input the call returns true, and each argument and the table of classes read afterwards as before. The row's one condition, that the table starts as the program's text lays it, is tied to the text by the given tie. -/
import Derived.Test.YtkocpijloiamcaaDoorCards
import Derived.Test.YtkocpijloiamcaaDoorTie
import Derived.Test.YtkocpijloiamcaaDoorCase
import Derived.Test.YtkocpijloiamcaaDoorJnM2
import Derived.Test.YtkocpijloiamcaaDoorFmt
import Derived.WalkKit
import Derived.ProofKit
import Derived.OpenShut
import Derived.ShutString
import Derived.ChangeOld
import Derived.ChangeVars
import Derived.WalkSmall
import Derived.Below
import Derived.Deep.DeepHandedRow
import Derived.Lib.LaidTab
namespace Go.Proofs.YtkocpijloiamcaaDoor.fnMirrored
open Go.ChangeShapes Go.WideShapes Go.ChangeAt Go.RowKit
open Go.ChangeMaps (open_string shut_string)
set_option linter.unusedVariables false

theorem own : ownKnob Tryd.prog.godebug = none := by kernel_rfl
theorem laidOut : laidOutB Tryd.prog = true := by kernel_rfl
/-- The table's name. -/
def tabName : String := Rows.fnMirroredSpec.vars.headD ""
theorem gTab : Tryd.prog.globalNamed tabName = some 0 := by kernel_rfl
theorem gTabType : (Tryd.prog.globals[0]?).map (·.type) = some 84 := by kernel_rfl
theorem cellsT : Tryd.prog.cellsOf 84 = 23 := by kernel_rfl
theorem cellsC : Tryd.prog.cellsOf 67 = 1 := by kernel_rfl
def tabZ : List Int := [0, 1, 2, 3, 4, 5, 6, 7, 8, 9, 10, 11, 12, 13, 16, 17, 18, 19, 20, 21, 22, 23, 24]

/-- What the row's list gives. -/
theorem table {W : World} (h : laidMetH Tryd.prog Rows.fnMirroredRow.laid W) : Lib.TabIs Tryd.prog W tabName .u64 tabZ :=
  Lib.tabIs_of_head (rest := []) gTab gTabType Tryd.underlying84 Tryd.underlying67 cellsC cellsT h
theorem tab {W : World} (h : laidMetH Tryd.prog Rows.fnMirroredRow.laid W) : Tab W := fun i hi => by
  have h1 := (table h).cell gTab i (by simpa [tabZ] using hi)
  rw [h1]
  congr 2
  have : ∀ j : Fin 23, tabZ.getD j.val 0 = cls (j.val : Int) := by decide
  exact this ⟨i, hi⟩

/-- What the walk is told of a slice of integers that came in. -/
def IsRow (k : IntKind) (w : World) (a : Option Addr) (len cap : Nat) (zs : List Int) : Prop :=
  (a = none ∧ len = 0 ∧ cap = 0 ∧ zs = []) ∨
  ∃ x, a = some x ∧ len ≤ cap ∧ cap ≤ maxLen ∧ zs.length = cap ∧ (∀ i, i < zs.length → w.cell? (x.add i) = some (.int k (zs.getD i 0))) ∧ ∀ n ∈ zs, (Lit.int k n).wf = true

set_option maxHeartbeats 4000000 in
set_option maxRecDepth 100000 in
theorem walk (a0 : Option Addr) (len0 cap0 : Nat) (z0 : List Int) (a1 : Option Addr) (len1 cap1 : Nat) (z1 : List Int) (a2 : Option Addr) (len2 cap2 : Nat) (z2 : List Int) (w : World) (w0 : IsRow .i64 w a0 len0 cap0 z0) (w1 : IsRow .i64 w a1 len1 cap1 z1) (w2 : IsRow .i64 w a2 len2 cap2 z2) (ht : Tab w) :
    Calls Tryd.prog 7 #[.slice a0 len0 cap0, .slice a1 len1 cap1, .slice a2 len2 cap2] w fun e w' => e = .returned (.bool true) ∧ Below w.heap.size w w' := by
  obtain ⟨b0, o0, hr0⟩ := sees_of_row w0
  obtain ⟨x, hx⟩ : ∃ x : Nat → Int, Sees w a0 b0 o0 len0 cap0 (fun i => .int .i64 (x i)) := ⟨_, hr0⟩
  obtain ⟨b1, o1, hr1⟩ := sees_of_row w1
  obtain ⟨kd, hkd⟩ : ∃ x : Nat → Int, Sees w a1 b1 o1 len1 cap1 (fun i => .int .i64 (x i)) := ⟨_, hr1⟩
  obtain ⟨b2, o2, hr2⟩ := sees_of_row w2
  obtain ⟨vl, hvl⟩ : ∃ x : Nat → Int, Sees w a2 b2 o2 len2 cap2 (fun i => .int .i64 (x i)) := ⟨_, hr2⟩
  clear hr0 w0 hr1 w1 hr2 w2
  by_cases hn0 : len0 ≤ 2147483647
  case neg =>
    have hb : (2147483647 : Int) < (len0 : Int) := by omega
    go_enter Tryd.func7, Tryd.ntmps7
    go_wp2_with fail
    go_ret
    exact ⟨rfl, Below.refl _ _⟩
  by_cases hn1 : len1 ≤ 2147483647
  case neg =>
    have hb : (2147483647 : Int) < (len1 : Int) := by omega
    go_enter Tryd.func7, Tryd.ntmps7
    go_wp2_with fail
    go_ret
    exact ⟨rfl, Below.refl _ _⟩
  by_cases hn2 : len2 ≤ 2147483647
  case neg =>
    have hb : (2147483647 : Int) < (len2 : Int) := by omega
    go_enter Tryd.func7, Tryd.ntmps7
    go_wp2_with fail
    go_ret
    exact ⟨rfl, Below.refl _ _⟩
  go_enter Tryd.func7, Tryd.ntmps7
  go_wp2_with fail
  refine (isCase_any _ hn0 hn1 hn2 hx hkd hvl).mono ?_
  rintro e w1 ⟨B, rfl, rfl, HB⟩
  cases B with
  | false =>
    go_wp2_with fail
    go_ret
    exact ⟨rfl, Below.refl _ _⟩
  | true =>
  obtain ⟨hpos, hok, hb7, rfl, rfl, hkk, hvv, hgg⟩ := HB rfl
  clear HB
  have HOK := Lib.hid hok
  have HB7 := Lib.hid hb7
  have HKK := Lib.hid hkk
  have HVV := Lib.hid hvv
  have HGG := Lib.hid hgg
  clear hok hb7 hkk hvv hgg
  go_wp2_with fail
  refine (formats_any _ (by omega) hx).mono ?_
  rintro e w1 ⟨rfl, rfl⟩
  by_cases hf : fmtN x len2 ≤ 60
  case neg =>
    obtain ⟨P, hP⟩ : ∃ P, P = fmtN x len2 := ⟨_, rfl⟩
    rw [← hP] at hf ⊢
    have hf' : (60 : Int) < (P : Int) := by omega
    clear hP hf hx hkd hvl
    go_wp2_with fail
    go_ret
    exact ⟨rfl, Below.refl _ _⟩
  have HF := Lib.hid hf
  obtain ⟨P, hP⟩ : ∃ P, P = fmtN x len2 := ⟨_, rfl⟩
  rw [← hP] at hf ⊢
  have hf' : ¬ ((60 : Int) < (P : Int)) := by omega
  clear hP hf
  have hg0 := Gr.empty w w.heap.size 3 (fun i => .int .i64 (mirN (x i))) (Nat.le_refl _)
  have hs0 : w.Since w.heap.size (w.alloc (.cells #[] 3)) := (World.Since.refl _ _).alloc (Nat.le_refl _) _
  have HX := Lib.hid hx
  have HK := Lib.hid hkd
  have HV := Lib.hid hvl
  have HT := Lib.hid ht
  clear hx hkd hvl ht
  go_wp2_with fail
  go_loopg [7, 9, 46] len2 (fun g v _ i wr => ∃ k : Nat, k ≤ len2 ∧ g = len2 - k ∧ i = .int .i64 k ∧ Hid (Gr wr w.heap.size 3 v k (fun i => .int .i64 (mirN (x i)))) ∧ Hid (w.Since w.heap.size wr) ∧ Hid (∀ j, j < k → hasB (x j) = true))
  case atStart => exact ⟨0, Nat.zero_le _, rfl, rfl, hg0, hs0, fun j hj => absurd hj (Nat.not_lt_zero _)⟩
  case round =>
    clear hg0 hs0
    obtain ⟨k, hk, rfl, rfl, HG, HS, HH⟩ := hrel
    by_cases hkn : k < len2
    · have hkz : (k : Int) < (len2 : Int) := by omega
      obtain ⟨rfl, hc⟩ := (HX.out.since HS.out).get hkn
      have hle := HX.out.le
      have hsz := HS.out.size
      obtain ⟨X, hX⟩ : ∃ X, X = x k := ⟨_, rfl⟩
      rw [← hX] at hc
      have HXE := Lib.hid hX
      clear hX
      go_wp2_with fail
      refine (hasSides_any _ _).mono ?_
      rintro e w4 ⟨rfl, rfl⟩
      cases hb : hasB X with
      | false =>
        go_wp2_with fail
        go_ret
        exact ⟨rfl, below_of_since HS.out⟩
      | true =>
        have HH2 : Hid (∀ j, j < k + 1 → hasB (x j) = true) := fun j hj => by
          by_cases e : j = k
          · subst e; rw [← HXE.out]; exact hb
          · exact HH.out j (by omega)
        clear hb
        go_wp2_with fail
        refine (mirroredW_any _ _).mono ?_
        rintro e w4 ⟨rfl, rfl⟩
        have hg := HG.out
        obtain ⟨MX, hMX⟩ : ∃ MX, MX = mirN X := ⟨_, rfl⟩
        have HMX := Lib.hid hMX
        rw [← hMX]
        clear hMX
        go_wp2_with (at_builtin; go_must (refine wpList_push wr rfl _ _ 22 rfl w.heap.size 3 (.int .i64 0) 8 Tryd.underlying22 Tryd.infoInt rfl _ _ _ _ (by rfl) hg (by rfl) rfl (by omega) (by omega) hsz ?_))
        intro v' w5 hg2 hgr2 hat
        have HS2 := Lib.hid (show w.Since w.heap.size w5 from (HS.out.alloc hsz _).grown hgr2 (by simp; omega) (fun k hk => (hg.ge k hk).1))
        have HG2 := Lib.hid (hg2.congr (g := fun i => .int .i64 (mirN (x i))) (fun i _ => by
          by_cases e : i = k
          · rw [if_pos e, e, HMX.out, HXE.out]
          · rw [if_neg e]))
        clear hg hg2 hgr2 hat hc
        go_wp2_with fail
        go_roundg (len2 - (k + 1))
        case rel => exact ⟨k + 1, by omega, rfl, by go_num, HG2, HS2, HH2⟩
        case measure => omega
    · obtain rfl : k = len2 := by omega
      have hH : ∀ i, i < k → hasN (x i) := fun i hi => hasN_of (HH.out i hi)
      have HHN := Lib.hid hH
      obtain ⟨q7, c7, rfl, hq7⟩ := HG.out.form hpos
      have hy := (HG.out.sees' hpos).congr (g := fun i => .int .i64 ((fun i => mirN (x i)) i)) (fun i _ => rfl)
      have HY := Lib.hid hy
      have HOK' := Lib.hid (fun i (hi : i < k) => mir_ok (HOK.out i hi))
      have HB7' := Lib.hid (show ∀ i, i < k → mirN (x i) = 7 → k ≤ i + 1 from fun i hi e => HB7.out i hi ((mir_eq (by omega)).1 e))
      clear hH hy HH HG
      go_wp2_with fail
      refine (implResolve_any (x := x) (kd := kd) (vl := vl) (g := 0) _ (HT.out.since HS.out) hn2 hpos (by omega) HOK.out HB7.out HKK.out HVV.out (HX.out.since HS.out) (HK.out.since HS.out) (HV.out.since HS.out)).mono ?_
      rintro e wA ⟨ft, fl, hD, A1, B1, O1, C1, A2, B2, O2, C2, rfl, hT1, hL1, _, _, hsA⟩
      have HSA := Lib.hid (since2 HS.out hsA)
      have HSO := Lib.hid hsA
      have HD := Lib.hid hD
      have HL1 := Lib.hid hL1
      have hZ0 : baseP x k 0 = 0 := if_neg (by omega)
      rw [hZ0] at HD ⊢
      clear hD hL1 hT1 hsA hZ0
      go_wp2_with fail
      refine (implResolve_any (x := fun i => mirN (x i)) (kd := kd) (vl := vl) (g := 1) _ (HT.out.since HSA.out) hn2 hpos (by omega) HOK'.out HB7'.out HKK.out HVV.out (HY.out.since HSO.out) (HK.out.since HSA.out) (HV.out.since HSA.out)).mono ?_
      rintro e wB ⟨ft2, fl2, hD2, A3, B3, O3, C3, A4, B4, O4, C4, rfl, hT2, hL2, _, _, hsB⟩
      have HSB := Lib.hid (since2 HSA.out hsB)
      have hZ1 : baseP (fun i => mirN (x i)) k 1 = 1 := if_neg (by omega)
      rw [hZ1] at hD2 ⊢
      have hR2 := fun i hi => (hD2.range (.inr rfl) HB7'.out HOK'.out i hi).2
      have hR1 := fun i hi => (HD.out.range (.inl rfl) HB7.out HOK.out i hi).2
      have HM := Lib.hid (fun i (hi : i < k) (hr : remN (x i) = false) => mirrored_ok (x' := fun i => mirN (x i)) (fun _ => rfl) HOK.out HB7.out HHN.out HF.out HD.out hD2 hi hr)
      have HR := Lib.hid (fun i (hi : i < k) => And.intro (hR1 i hi) (hR2 i hi))
      have HL1' := Lib.hid (HL1.out.since hsB)
      have HL2' := Lib.hid hL2
      have HX' := Lib.hid (HX.out.since HSB.out)
      clear hD2 hL2 hT2 hsB hZ1 hR1 hR2 HD HL1 HX HK HV HT HY HSO HSA HS HOK HOK' HB7 HB7' HKK HVV HHN
      have hnn : ((k : Int) != (k : Int)) = false := by simp
      go_wp2_with fail
      go_loopg [18, 19, 99] k (fun g _ _ i wr => ∃ m : Nat, m ≤ k ∧ g = k - m ∧ i = .int .i64 m ∧ Hid (Drawn wB wr))
      case atStart => exact ⟨0, Nat.zero_le _, rfl, rfl, Drawn.refl _⟩
      case round =>
        rename World => wo
        obtain ⟨m, hm, rfl, rfl, HDR⟩ := hrel
        by_cases hmn : m < k
        · have hmz : (m : Int) < (k : Int) := by omega
          obtain ⟨rfl, g0⟩ := HX'.out.get hmn
          obtain ⟨rfl, g1⟩ := HL1'.out.get hmn
          obtain ⟨rfl, g2⟩ := HL2'.out.get hmn
          have l0 := HX'.out.le
          have l1 := HL1'.out.le
          have l2 := HL2'.out.le
          rw [← HDR.out.cell] at g0 g1 g2
          have hM := HM.out m hmn
          obtain ⟨⟨r1, r2⟩, ⟨r3, r4⟩⟩ := HR.out m hmn
          obtain ⟨X, hX⟩ : ∃ X, X = x m := ⟨_, rfl⟩
          obtain ⟨V, hV⟩ : ∃ V, V = fl m := ⟨_, rfl⟩
          obtain ⟨U, hU⟩ : ∃ U, U = fl2 m := ⟨_, rfl⟩
          rw [← hX] at g0 hM
          rw [← hV] at g1 hM r1 r2
          rw [← hU] at g2 hM r3 r4
          clear hX hV hU
          have HDN := Lib.hid (fun q => HDR.out.drewN q)
          have HIR := Lib.hid (fun q => isRemoved_any X (wo.drewN q))
          have HMM := Lib.hid hM
          clear hM
          cases hr : remN X with
          | true =>
            have HRX := Lib.hid hr
            clear hr
            go_wp2_with fail
            go_big_quiet ((go_at_call 17; exact quiet_same (congrArg Value.bool HRX.out) (HIR.out _)))
            go_wp2_with fail
            go_roundg (k - (m + 1))
            case rel => exact ⟨m + 1, by omega, rfl, by go_num, HDN.out _⟩
            case measure => omega
          | false =>
            have hUV := HMM.out hr
            have HRX := Lib.hid hr
            subst hUV
            have hw : IntKind.i64.wrap (V + 1) = V + 1 := by simp [IntKind.wrap, IntKind.bits, IntKind.signed]; omega
            have hvv : (V + 1 != V + 1) = false := by simp
            clear hr HMM
            go_wp2_with fail
            go_big_quiet ((go_at_call 17; exact quiet_same (congrArg Value.bool HRX.out) (HIR.out _)))
            go_wp2_with fail
            go_roundg (k - (m + 1))
            case rel => exact ⟨m + 1, by omega, rfl, by go_num, HDN.out _⟩
            case measure => omega
        · obtain rfl : m = k := by omega
          go_wp2_with fail
          go_ret
          obtain ⟨q, hq⟩ := HDR.out
          exact ⟨rfl, by rw [hq]; exact below_of_since (since_drewN HSB.out q)⟩

/-! ### THE ROW's STEP -/
set_option maxRecDepth 100000 in
theorem contract (H : Type) (enc : TypeId × Value → H) (W : World) (base : Nat) (args : Array Value) (ds gs : List (DataW H)) (before : List MemPlace)
    (hval : ∀ (j : Nat) t v, Tryd.f7.params[j]? = some t → args[j]? = some v → Value.okWide Tryd.prog W .any base t v)
    (hW : DataW.Whole enc Tryd.prog Tryd.f7.params.toList Rows.fnMirroredSpec.vars false W args.toList ds gs before) (hL : laidMetH Tryd.prog Rows.fnMirroredRow.laid W) :
    Calls Tryd.prog 7 args W fun e W' => ∃ v, e = .returned v ∧ Rows.fnMirroredSpec.post enc Tryd.prog Tryd.f7 false true false false W args v W' := by
  have hW' := hW
  obtain ⟨p, q, hA0, hV, rfl, hfz, hnd⟩ := hW
  have hA : DataW.TrodAll enc Tryd.prog W 0 (fun _ => true) true Tryd.f7.params.toList args.toList ds p := hA0
  rw [Tryd.params7] at hA hval
  obtain ⟨v0, vs0, d0, ds0, p0, q0, hargs, rfl, rfl, h0, r0⟩ := trodAll_cons hA
  obtain ⟨v1, vs1, d1, ds1, p1, q1, rfl, rfl, rfl, h1, r1⟩ := trodAll_cons r0
  obtain ⟨v2, vs2, d2, ds2, p2, q2, rfl, rfl, rfl, h2, r2⟩ := trodAll_cons r1
  obtain ⟨rfl, rfl, rfl⟩ := trodAll_nil r2
  obtain rfl : args = #[v0, v1, v2] := by cases args; simp_all
  obtain ⟨a0, len0, cap0, rfl⟩ := okWide_slice Tryd.underlying22 (hval 0 22 v0 rfl rfl)
  have k0 := h0
  have lt0 : ∀ x ∈ p0, x.block < W.heap.size := by obtain ⟨m, hm⟩ := k0; exact DataW.trod_lt m _ _ _ hm
  obtain ⟨z0, w0⟩ : ∃ zs, IsRow .i64 W a0 len0 cap0 zs := by
    obtain ⟨fuel, hf⟩ := h0
    rcases open_ints Tryd.underlying22 Tryd.underlying3 (by kernel_rfl) hf with ⟨hcs, _⟩ | ⟨x, l, c, zs, hcs, _, hl, hm, hz, _, hcell, hwz⟩
    · simp [Value.cells] at hcs
      obtain ⟨rfl, rfl, rfl⟩ := hcs
      exact ⟨[], .inl ⟨rfl, rfl, rfl, rfl⟩⟩
    · simp [Value.cells] at hcs
      obtain ⟨rfl, rfl, rfl⟩ := hcs
      exact ⟨zs, .inr ⟨_, rfl, hl, hm, by simpa using hz, hcell, hwz⟩⟩
  obtain ⟨a1, len1, cap1, rfl⟩ := okWide_slice Tryd.underlying22 (hval 1 22 v1 rfl rfl)
  have k1 := h1
  have lt1 : ∀ x ∈ p1, x.block < W.heap.size := by obtain ⟨m, hm⟩ := k1; exact DataW.trod_lt m _ _ _ hm
  obtain ⟨z1, w1⟩ : ∃ zs, IsRow .i64 W a1 len1 cap1 zs := by
    obtain ⟨fuel, hf⟩ := h1
    rcases open_ints Tryd.underlying22 Tryd.underlying3 (by kernel_rfl) hf with ⟨hcs, _⟩ | ⟨x, l, c, zs, hcs, _, hl, hm, hz, _, hcell, hwz⟩
    · simp [Value.cells] at hcs
      obtain ⟨rfl, rfl, rfl⟩ := hcs
      exact ⟨[], .inl ⟨rfl, rfl, rfl, rfl⟩⟩
    · simp [Value.cells] at hcs
      obtain ⟨rfl, rfl, rfl⟩ := hcs
      exact ⟨zs, .inr ⟨_, rfl, hl, hm, by simpa using hz, hcell, hwz⟩⟩
  obtain ⟨a2, len2, cap2, rfl⟩ := okWide_slice Tryd.underlying22 (hval 2 22 v2 rfl rfl)
  have k2 := h2
  have lt2 : ∀ x ∈ p2, x.block < W.heap.size := by obtain ⟨m, hm⟩ := k2; exact DataW.trod_lt m _ _ _ hm
  obtain ⟨z2, w2⟩ : ∃ zs, IsRow .i64 W a2 len2 cap2 zs := by
    obtain ⟨fuel, hf⟩ := h2
    rcases open_ints Tryd.underlying22 Tryd.underlying3 (by kernel_rfl) hf with ⟨hcs, _⟩ | ⟨x, l, c, zs, hcs, _, hl, hm, hz, _, hcell, hwz⟩
    · simp [Value.cells] at hcs
      obtain ⟨rfl, rfl, rfl⟩ := hcs
      exact ⟨[], .inl ⟨rfl, rfl, rfl, rfl⟩⟩
    · simp [Value.cells] at hcs
      obtain ⟨rfl, rfl, rfl⟩ := hcs
      exact ⟨zs, .inr ⟨_, rfl, hl, hm, by simpa using hz, hcell, hwz⟩⟩
  obtain ⟨g, tv, cs, fuel, dv, pv, rfl, hg1, hg2, hg3, hg4, rfl⟩ := trodVars_one hV
  obtain rfl : g = 0 := Option.some.inj (hg1.symm.trans gTab)
  obtain rfl : tv = 84 := Option.some.inj (hg2.symm.trans gTabType)
  have ltv : ∀ x ∈ pv, x.block < W.heap.size := DataW.trod_lt fuel _ _ _ hg4
  have hT := tab hL
  clear hA0
  refine (walk a0 len0 cap0 z0 a1 len1 cap1 z1 a2 len2 cap2 z2 W w0 w1 w2 hT).mono fun e W' ⟨he, bel⟩ => ?_
  subst he
  have hg4' := DataW.trod_stays (sp' := fun b => decide (b < W.heap.size)) (w' := W') (kids_book laidOut (by kernel_rfl)) (book_sized (by kernel_rfl)) (fun h => by cases h) ⟨of_decide_eq_true (by kernel_rfl), book_self 84⟩ hg4 (fun x hx => bel.same (ltv x hx)) (fun x hx => by simpa using ltv x hx)
  exact ⟨_, rfl, _, _, _, [], _, _, hW', trodAll_mk1 (shut_bool Tryd.underlying4 _), (trodAll_cons_mk (Below.trod laidOut (by kernel_rfl) (of_decide_eq_true (by kernel_rfl)) k0 bel lt0) (trodAll_cons_mk (Below.trod laidOut (by kernel_rfl) (of_decide_eq_true (by kernel_rfl)) k1 bel lt1) (trodAll_cons_mk (Below.trod laidOut (by kernel_rfl) (of_decide_eq_true (by kernel_rfl)) k2 bel lt2) trodAll_mk0))), trodVars_mk1 hg1 hg2 (var?_below bel hg1 hT.lt hg3) hg4', bel.frame _, fun h => by cases h⟩

/-- A world for the witness: the table holding what its initialiser lays. -/
noncomputable def laidWorld (os : Os) : World :=
  { World.holding Tryd.prog os ⟨#[], #[], []⟩ with heap := (World.holding Tryd.prog os ⟨#[], #[], []⟩).heap.modify 0 fun
      | .cells _ t frozen => .cells (tabZ.map fun z => Value.int .u64 z).toArray t frozen
      | o => o }
theorem laid_met (os : Os) : laidMet Tryd.prog Rows.fnMirroredRow.laid ((laidWorld os).forCall (fun _ _ => 0) ⟨#[], #[.slice none 0 0, .slice none 0 0, .slice none 0 0], []⟩).memory :=
  laidMet_of_run' 8 (by kernel_rfl) (by kernel_rfl)
theorem reads (os : Os) {H : Type} (enc : TypeId × Value → H) : ∃ places, DataW.whole enc Tryd.prog ((laidWorld os).forCall (fun _ _ => 0) ⟨#[], #[.slice none 0 0, .slice none 0 0, .slice none 0 0], []⟩).memory Tryd.f7.params.toList Rows.fnMirroredSpec.vars false (#[.slice none 0 0, .slice none 0 0, .slice none 0 0] : Array Value).toList 8 = some ([.nil, .nil, .nil], [Rows.laid_loop_example_pub_g01449_impl_classes], places) :=
  ⟨MemPlace.row ⟨0, 0, none⟩ 23, by kernel_rfl⟩

set_option maxRecDepth 100000 in
theorem lifted (os : Os) (started : os.Started) (H : Type) (enc : TypeId × Value → H) (F : Stop.Interp) :
    ReturnsInHanded {} Tryd.checked os 7 .any ((OpenSpec.ofChange Rows.fnMirroredSpec).preRow enc Tryd.prog Tryd.f7 Rows.fnMirroredRow.domain false Rows.fnMirroredRow.laid) (((OpenSpec.ofChange Rows.fnMirroredSpec).at F).post enc Tryd.prog Tryd.f7 false true false false) := by
  obtain ⟨places, hx⟩ := reads os enc
  refine returnsInHanded_of_row (C := Tryd.checked) (s := OpenSpec.ofChange Rows.fnMirroredSpec) own started (by kernel_rfl) Tryd.func7
    (witness_row_at (enc := enc) (C := Tryd.checked) false (laidWorld os) #[.slice none 0 0, .slice none 0 0, .slice none 0 0] rfl (by kernel_rfl) (by kernel_rfl) (by kernel_rfl)
      (OpenSpec.preRow_of_cond 8 hx (by kernel_rfl) (fun k hk => by cases hk) (by kernel_rfl) (laid_met os))) ?_
  intro W base args ds gs before hval hW _ _ _ hL _ _
  exact contract H enc W base args ds gs before hval hW hL

theorem said : Rows.FnMirroredSaid :=
  OpenClaim.holds_of_cond 7 Tryd.f7 rfl rfl rfl rfl rfl rfl rfl ⟨rfl, rfl, rfl, rfl, rfl⟩ rfl rfl rfl rfl rfl (by kernel_rfl) Tryd.func7 (by kernel_rfl)
    (of_decide_eq_true (by kernel_rfl)) (by unfold Func.isWrapper; first | (rw [if_pos (by decide +kernel)]; kernel_rfl) | (rw [if_neg (by decide +kernel)]; exact ⟨rfl, rfl⟩))
    (fun os started H enc _ F => by rw [OpenClaim.pre_eq_preRow]; exact lifted os started H enc F)

theorem plain (f : FuncId) (fn : Func) (hf : Tryd.pinned.checked.prog.funcNamed Rows.fnMirroredRow.func = some f) (hfn : Tryd.pinned.checked.prog.funcs[f]? = some fn) :
    true = Tryd.pinned.checked.prog.looks [] ∧ ∀ (j : Nat) t, fn.params[j]? = some t → Tryd.pinned.checked.prog.wantsStandIn t = false := by
  obtain rfl : f = 7 := Option.some.inj ((show Tryd.prog.funcNamed Rows.fnMirroredRow.func = some 7 by kernel_rfl).symm.trans hf) |>.symm
  obtain rfl : fn = Tryd.f7 := (Option.some.inj (Tryd.func7.symm.trans hfn)).symm
  refine ⟨by kernel_rfl, fun j t ht => ?_⟩
  rw [Tryd.params7] at ht
  obtain rfl : t = 22 := by simpa using Array.mem_of_getElem? ht
  exact (show Tryd.prog.wantsStandIn 22 = false by kernel_rfl)

/-- THE CARD. -/
theorem proved : Rows.FnMirroredCardSaid :=
  Claim7.holds_tied_plain_at .later [] _ _ _ _ said (fun _ h => by cases h) (by kernel_rfl) (fun _ h => by cases h) fnMirrored_row_tie rfl ⟨rfl, rfl⟩ (by kernel_rfl) rfl plain (by kernel_rfl)
#print axioms proved
end Go.Proofs.YtkocpijloiamcaaDoor.fnMirrored
