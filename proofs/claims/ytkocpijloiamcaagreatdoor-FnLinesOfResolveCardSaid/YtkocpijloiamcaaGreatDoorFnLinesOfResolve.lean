/- The law FnLinesOfResolve, its tied card: for every input the call returns true, and each argument and the table of classes read afterwards as before. The row's one condition, that the table starts as the program's text lays it, is tied to the text by the given tie. -/
import Derived.Test.YtkocpijloiamcaaGreatDoorCards
import Derived.Test.YtkocpijloiamcaaGreatDoorTie
import Derived.Test.YtkocpijloiamcaaGreatDoorLns
import Derived.Test.YtkocpijloiamcaaGreatDoorCase
import Derived.Test.YtkocpijloiamcaaGreatDoorEmbI
import Derived.Test.YtkocpijloiamcaaGreatDoorLines
import Derived.Test.YtkocpijloiamcaaGreatDoorOfl
import Derived.Test.YtkocpijloiamcaaGreatDoorRsg
import Derived.WalkKit
import Derived.ProofKit
import Derived.OpenShut
import Derived.ShutString
import Derived.ChangeOld
import Derived.ChangeVars
import Derived.WalkSmall
import Derived.Below
import Derived.Deep.DeepHandedRow
import Derived.Lib.LaidTab
namespace Go.Proofs.YtkocpijloiamcaaGreatDoor.fnLinesOfResolve
open Go.ChangeShapes Go.WideShapes Go.ChangeAt Go.RowKit
open Go.ChangeMaps (open_string shut_string)
set_option linter.unusedVariables false

theorem own : ownKnob Tryz.prog.godebug = none := by kernel_rfl
theorem laidOut : laidOutB Tryz.prog = true := by kernel_rfl
/-- The table's name. -/
def tabName : String := Rows.fnLinesOfResolveSpec.vars.headD ""
theorem gTab : Tryz.prog.globalNamed tabName = some 0 := by kernel_rfl
theorem gTabType : (Tryz.prog.globals[0]?).map (·.type) = some 84 := by kernel_rfl
theorem cellsT : Tryz.prog.cellsOf 84 = 23 := by kernel_rfl
theorem cellsC : Tryz.prog.cellsOf 68 = 1 := by kernel_rfl
def tabZ : List Int := [0, 1, 2, 3, 4, 5, 6, 7, 8, 9, 10, 11, 12, 13, 16, 17, 18, 19, 20, 21, 22, 23, 24]

/-- What the row's list gives. -/
theorem table {W : World} (h : laidMetH Tryz.prog Rows.fnLinesOfResolveRow.laid W) : Lib.TabIs Tryz.prog W tabName .u64 tabZ :=
  Lib.tabIs_of_head (rest := []) gTab gTabType Tryz.underlying84 Tryz.underlying68 cellsC cellsT h
theorem tab {W : World} (h : laidMetH Tryz.prog Rows.fnLinesOfResolveRow.laid W) : Tab W := fun i hi => by
  have h1 := (table h).cell gTab i (by simpa [tabZ] using hi)
  rw [h1]
  congr 2
  have : ∀ j : Fin 23, tabZ.getD j.val 0 = cls (j.val : Int) := by decide
  exact this ⟨i, hi⟩

/-- What the walk is told of a slice of integers that came in. -/
def IsRow (k : IntKind) (w : World) (a : Option Addr) (len cap : Nat) (zs : List Int) : Prop :=
  (a = none ∧ len = 0 ∧ cap = 0 ∧ zs = []) ∨
  ∃ x, a = some x ∧ len ≤ cap ∧ cap ≤ maxLen ∧ zs.length = cap ∧ (∀ i, i < zs.length → w.cell? (x.add i) = some (.int k (zs.getD i 0))) ∧ ∀ n ∈ zs, (Lit.int k n).wf = true

set_option maxHeartbeats 4000000 in
set_option maxRecDepth 100000 in
theorem walk (a0 : Option Addr) (len0 cap0 : Nat) (z0 : List Int) (a1 : Option Addr) (len1 cap1 : Nat) (z1 : List Int) (a2 : Option Addr) (len2 cap2 : Nat) (z2 : List Int) (a3 : Int) (a4 : Option Addr) (len4 cap4 : Nat) (z4 : List Int) (w : World) (w0 : IsRow .i64 w a0 len0 cap0 z0) (w1 : IsRow .i64 w a1 len1 cap1 z1) (w2 : IsRow .i64 w a2 len2 cap2 z2) (w3 : (Lit.int .i64 a3).wf = true) (w4 : IsRow .i64 w a4 len4 cap4 z4) (ht : Tab w) :
    Calls Tryz.prog 4 #[.slice a0 len0 cap0, .slice a1 len1 cap1, .slice a2 len2 cap2, .int .i64 a3, .slice a4 len4 cap4] w fun e w' => e = .returned (.bool true) ∧ Below w.heap.size w w' := by
  obtain ⟨b0, o0, hr0⟩ := sees_of_row w0
  obtain ⟨x, hx⟩ : ∃ x : Nat → Int, Sees w a0 b0 o0 len0 cap0 (fun i => .int .i64 (x i)) := ⟨_, hr0⟩
  obtain ⟨b1, o1, hr1⟩ := sees_of_row w1
  obtain ⟨kd, hkd⟩ : ∃ x : Nat → Int, Sees w a1 b1 o1 len1 cap1 (fun i => .int .i64 (x i)) := ⟨_, hr1⟩
  obtain ⟨b2, o2, hr2⟩ := sees_of_row w2
  obtain ⟨vl, hvl⟩ : ∃ x : Nat → Int, Sees w a2 b2 o2 len2 cap2 (fun i => .int .i64 (x i)) := ⟨_, hr2⟩
  obtain ⟨b4, o4, hr4⟩ := sees_of_row w4
  obtain ⟨y, hy⟩ : ∃ x : Nat → Int, Sees w a4 b4 o4 len4 cap4 (fun i => .int .i64 (x i)) := ⟨_, hr4⟩
  clear hr0 w0 hr1 w1 hr2 w2 hr4 w4
  by_cases hn0 : len0 ≤ 2147483647
  case neg =>
    have hb : (2147483647 : Int) < (len0 : Int) := by omega
    go_enter Tryz.func4, Tryz.ntmps4
    go_wp2_with fail
    go_ret
    exact ⟨rfl, Below.refl _ _⟩
  by_cases hn1 : len1 ≤ 2147483647
  case neg =>
    have hb : (2147483647 : Int) < (len1 : Int) := by omega
    go_enter Tryz.func4, Tryz.ntmps4
    go_wp2_with fail
    go_ret
    exact ⟨rfl, Below.refl _ _⟩
  by_cases hn2 : len2 ≤ 2147483647
  case neg =>
    have hb : (2147483647 : Int) < (len2 : Int) := by omega
    go_enter Tryz.func4, Tryz.ntmps4
    go_wp2_with fail
    go_ret
    exact ⟨rfl, Below.refl _ _⟩
  by_cases hn4 : len4 ≤ 2147483647
  case neg =>
    have hb : (2147483647 : Int) < (len4 : Int) := by omega
    go_enter Tryz.func4, Tryz.ntmps4
    go_wp2_with fail
    go_ret
    exact ⟨rfl, Below.refl _ _⟩
  go_enter Tryz.func4, Tryz.ntmps4
  go_wp2_with fail
  refine (isCase_any _ hn0 hn1 hn2 hx hkd hvl).mono ?_
  rintro e w1 ⟨B, rfl, rfl, HB⟩
  cases B with
  | false =>
    go_wp2_with fail
    go_ret
    exact ⟨rfl, Below.refl _ _⟩
  | true =>
  obtain ⟨hpos, hok, hb7, rfl, rfl, hkk, hvv, hgg⟩ := HB rfl
  clear HB
  have HOK := Lib.hid hok
  have HB7 := Lib.hid hb7
  have HKK := Lib.hid hkk
  have HVV := Lib.hid hvv
  have HGG := Lib.hid hgg
  clear hok hb7 hkk hvv hgg
  go_wp2_with fail
  refine (areBreaks_any _ _ (by omega) hy).mono ?_
  rintro e w1 ⟨rfl, rfl⟩
  cases hK : breaksB len4 y (len2 : Int) with
  | false =>
    clear hK
    go_wp2_with fail
    go_ret
    exact ⟨rfl, Below.refl _ _⟩
  | true =>
  obtain ⟨br, hbr, hye⟩ := brk_of hK
  have hyb := hy.congr (g := fun i => .int .i64 (br i : Int)) (fun i hi => by rw [hye i hi])
  have HBR := Lib.hid hbr
  have hbo := baseP_or (x := x) (N := len2) HGG.out
  clear hye hy hK hbr
  have HY := Lib.hid hyb
  have HX := Lib.hid hx
  have HK := Lib.hid hkd
  have HV := Lib.hid hvl
  have HT := Lib.hid ht
  clear hyb
  go_wp2_with fail
  refine (implResolve_gr (x := x) (kd := kd) (vl := vl) (g := a3) _ ht (by omega) (.inl hn2) hpos HGG.out HOK.out HB7.out HKK.out HVV.out hx hkd hvl).mono ?_
  rintro e wA ⟨ft, fl, hD, A1, B1, O1, C1, A2, C2, rfl, hT1, hG, hs2⟩
  obtain ⟨q, cap, heq, hq⟩ := hG.form hpos
  injection heq with e1 _ e2
  subst e1
  subst e2
  obtain ⟨base, hbase⟩ : ∃ base, base = baseP x len2 a3 := ⟨_, rfl⟩
  rw [← hbase] at hD hbo ⊢
  have HBP := Lib.hid hbase
  have HBO := Lib.hid hbo
  have HD := Lib.hid hD
  have HG1 := Lib.hid (hG.congr (g := fun i => .int .i64 (rlv x fl 0 i)) (fun i _ => by rw [rlv_zero]))
  have HS2 := Lib.hid hs2
  clear ht hx hkd hvl hs2 hD hG hT1 hbase hbo
  have hnn : ((len2 : Int) != (len2 : Int)) = false := by simp
  go_wp2_with fail
  go_loopg [15, 16, 72] len2 (fun g _ _ i wr => ∃ k : Nat, k ≤ len2 ∧ g = len2 - k ∧ i = .int .i64 k ∧ Hid (Gr wr w.heap.size 3 (.slice (some ⟨q, 0, none⟩) len2 C2) len2 (fun i => .int .i64 (rlv x fl k i))) ∧ Hid (w.Since w.heap.size wr))
  case atStart => exact ⟨0, Nat.zero_le _, rfl, rfl, HG1, HS2⟩
  case round =>
    rename World => wo
    clear HG1 HS2
    obtain ⟨k, hk, rfl, rfl, HG, HS⟩ := hrel
    by_cases hkn : k < len2
    · have hkz : (k : Int) < (len2 : Int) := by omega
      obtain ⟨rfl, hc⟩ := (HX.out.since HS.out).get hkn
      have g1 := HG.out.cell hkn
      have g2 := HG.out.frozen k
      obtain ⟨t, htk⟩ : ∃ t, t = x k := ⟨_, rfl⟩
      rw [← htk] at hc
      have hst : remN t = true → Hid (Gr (wo.setCell ⟨q, k, none⟩ (.int .i64 (-1))) w.heap.size 3 (.slice (some ⟨q, 0, none⟩) len2 C2) len2 (fun i => .int .i64 (rlv x fl (k + 1) i))) := fun h =>
        (HG.out.set k (.int .i64 (-1))).congr (fun i _ => by rw [rlv_set (by rw [← htk]; exact h) i]; split <;> rfl)
      have hkp : remN t = false → Hid (Gr wo w.heap.size 3 (.slice (some ⟨q, 0, none⟩) len2 C2) len2 (fun i => .int .i64 (rlv x fl (k + 1) i))) := fun h =>
        HG.out.congr (fun i _ => by rw [rlv_keep (by rw [← htk]; exact h) i])
      have HST := Lib.hid hst
      have HKP := Lib.hid hkp
      clear htk hst hkp
      cases hr : remN t with
      | true =>
        have H1 := HST.out hr
        have HR := Lib.hid hr
        have H2 : Hid (w.Since w.heap.size (wo.setCell ⟨q, k, none⟩ (.int .i64 (-1)))) := HS.out.setCell (a := ⟨q, k, none⟩) hq _
        clear hr
        go_wp2_with fail
        refine (isRemoved_any _ _).mono ?_
        rintro e w2 ⟨rfl, rfl⟩
        rw [HR.out]
        go_wp2_with fail
        go_roundg (len2 - (k + 1))
        case rel => exact ⟨k + 1, by omega, rfl, by go_num, H1, H2⟩
        case measure => omega
      | false =>
        have H1 := HKP.out hr
        have HR := Lib.hid hr
        clear hr
        go_wp2_with fail
        refine (isRemoved_any _ _).mono ?_
        rintro e w2 ⟨rfl, rfl⟩
        rw [HR.out]
        go_wp2_with fail
        go_roundg (len2 - (k + 1))
        case rel => exact ⟨k + 1, by omega, rfl, by go_num, H1, HS⟩
        case measure => omega
    · obtain rfl : k = len2 := by omega
      go_wp2_with fail
      refine (implLines_any (x := x) (kd := kd) (vl := vl) (g := a3) _ (HT.out.since HS.out) hn2 hpos hn4 HGG.out HOK.out HB7.out HKK.out HVV.out (HX.out.since HS.out) (HK.out.since HS.out) (HV.out.since HS.out) (HY.out.since HS.out) HBR.out).mono ?_
      rintro e wL ⟨ft2, fl2, hD2, A3, B3, O3, C3, A4, B4, O4, C4, rfl, hL, hO, hsL⟩
      rw [← HBP.out] at hD2 hL
      have hU := HD.out.uniq HBO.out HB7.out hD2
      have hlev := (HG.out.since hsL).sees' hpos
      have HSL := Lib.hid (since2 HS.out hsL)
      have HEQ := Lib.hid (fun i (hi : i < k) => (hU i hi).2)
      have HL := Lib.hid hL
      have HLEV := Lib.hid hlev
      clear hD2 hU hsL hO hL hlev
      go_wp2_with fail
      refine (lineLevels_any (x := x) (lv := rlv x fl k) (br := br) _ hn2 hn4 (HX.out.since HSL.out) HLEV.out (HY.out.since HSL.out) HBR.out).mono ?_
      rintro e wM ⟨A5, B5, O5, C5, rfl, hM, _, hsM⟩
      have hL6 := HL.out.since hsM
      have hV6 := HLEV.out.since hsM
      have HSM := Lib.hid (since2 HSL.out hsM)
      have HSW := Lib.hid (show sameWB k (g2 x fl2 base br k len4) (llv x (rlv x fl k) base br len4) (rlv x fl k) = true from decide_eq_true (fun i hi hne => by
        obtain ⟨r1, r2⟩ := rlv_of hi hne
        exact (line_levels HOK.out HBR.out hi r1 (r2.trans (HEQ.out i hi))).symm))
      clear hsM
      go_wp2_with fail
      refine (sameWhere_any _ (by omega) hL6 hM hV6).mono ?_
      rintro e wN ⟨rfl, hsN⟩
      rw [HSW.out]
      have HSN := Lib.hid (since2 HSM.out hsN)
      clear hL6 hM hV6 hsN
      go_wp2_with fail
      go_ret
      exact ⟨rfl, below_of_since HSN.out⟩

/-! ### THE ROW's STEP -/
set_option maxRecDepth 100000 in
theorem contract (H : Type) (enc : TypeId × Value → H) (W : World) (base : Nat) (args : Array Value) (ds gs : List (DataW H)) (before : List MemPlace)
    (hval : ∀ (j : Nat) t v, Tryz.f4.params[j]? = some t → args[j]? = some v → Value.okWide Tryz.prog W .any base t v)
    (hW : DataW.Whole enc Tryz.prog Tryz.f4.params.toList Rows.fnLinesOfResolveSpec.vars false W args.toList ds gs before) (hL : laidMetH Tryz.prog Rows.fnLinesOfResolveRow.laid W) :
    Calls Tryz.prog 4 args W fun e W' => ∃ v, e = .returned v ∧ Rows.fnLinesOfResolveSpec.post enc Tryz.prog Tryz.f4 false true false false W args v W' := by
  have hW' := hW
  obtain ⟨p, q, hA0, hV, rfl, hfz, hnd⟩ := hW
  have hA : DataW.TrodAll enc Tryz.prog W 0 (fun _ => true) true Tryz.f4.params.toList args.toList ds p := hA0
  rw [Tryz.params4] at hA hval
  obtain ⟨v0, vs0, d0, ds0, p0, q0, hargs, rfl, rfl, h0, r0⟩ := trodAll_cons hA
  obtain ⟨v1, vs1, d1, ds1, p1, q1, rfl, rfl, rfl, h1, r1⟩ := trodAll_cons r0
  obtain ⟨v2, vs2, d2, ds2, p2, q2, rfl, rfl, rfl, h2, r2⟩ := trodAll_cons r1
  obtain ⟨v3, vs3, d3, ds3, p3, q3, rfl, rfl, rfl, h3, r3⟩ := trodAll_cons r2
  obtain ⟨v4, vs4, d4, ds4, p4, q4, rfl, rfl, rfl, h4, r4⟩ := trodAll_cons r3
  obtain ⟨rfl, rfl, rfl⟩ := trodAll_nil r4
  obtain rfl : args = #[v0, v1, v2, v3, v4] := by cases args; simp_all
  obtain ⟨a0, len0, cap0, rfl⟩ := okWide_slice Tryz.underlying22 (hval 0 22 v0 rfl rfl)
  have k0 := h0
  have lt0 : ∀ x ∈ p0, x.block < W.heap.size := by obtain ⟨m, hm⟩ := k0; exact DataW.trod_lt m _ _ _ hm
  obtain ⟨z0, w0⟩ : ∃ zs, IsRow .i64 W a0 len0 cap0 zs := by
    obtain ⟨fuel, hf⟩ := h0
    rcases open_ints Tryz.underlying22 Tryz.underlying3 (by kernel_rfl) hf with ⟨hcs, _⟩ | ⟨x, l, c, zs, hcs, _, hl, hm, hz, _, hcell, hwz⟩
    · simp [Value.cells] at hcs
      obtain ⟨rfl, rfl, rfl⟩ := hcs
      exact ⟨[], .inl ⟨rfl, rfl, rfl, rfl⟩⟩
    · simp [Value.cells] at hcs
      obtain ⟨rfl, rfl, rfl⟩ := hcs
      exact ⟨zs, .inr ⟨_, rfl, hl, hm, by simpa using hz, hcell, hwz⟩⟩
  obtain ⟨a1, len1, cap1, rfl⟩ := okWide_slice Tryz.underlying22 (hval 1 22 v1 rfl rfl)
  have k1 := h1
  have lt1 : ∀ x ∈ p1, x.block < W.heap.size := by obtain ⟨m, hm⟩ := k1; exact DataW.trod_lt m _ _ _ hm
  obtain ⟨z1, w1⟩ : ∃ zs, IsRow .i64 W a1 len1 cap1 zs := by
    obtain ⟨fuel, hf⟩ := h1
    rcases open_ints Tryz.underlying22 Tryz.underlying3 (by kernel_rfl) hf with ⟨hcs, _⟩ | ⟨x, l, c, zs, hcs, _, hl, hm, hz, _, hcell, hwz⟩
    · simp [Value.cells] at hcs
      obtain ⟨rfl, rfl, rfl⟩ := hcs
      exact ⟨[], .inl ⟨rfl, rfl, rfl, rfl⟩⟩
    · simp [Value.cells] at hcs
      obtain ⟨rfl, rfl, rfl⟩ := hcs
      exact ⟨zs, .inr ⟨_, rfl, hl, hm, by simpa using hz, hcell, hwz⟩⟩
  obtain ⟨a2, len2, cap2, rfl⟩ := okWide_slice Tryz.underlying22 (hval 2 22 v2 rfl rfl)
  have k2 := h2
  have lt2 : ∀ x ∈ p2, x.block < W.heap.size := by obtain ⟨m, hm⟩ := k2; exact DataW.trod_lt m _ _ _ hm
  obtain ⟨z2, w2⟩ : ∃ zs, IsRow .i64 W a2 len2 cap2 zs := by
    obtain ⟨fuel, hf⟩ := h2
    rcases open_ints Tryz.underlying22 Tryz.underlying3 (by kernel_rfl) hf with ⟨hcs, _⟩ | ⟨x, l, c, zs, hcs, _, hl, hm, hz, _, hcell, hwz⟩
    · simp [Value.cells] at hcs
      obtain ⟨rfl, rfl, rfl⟩ := hcs
      exact ⟨[], .inl ⟨rfl, rfl, rfl, rfl⟩⟩
    · simp [Value.cells] at hcs
      obtain ⟨rfl, rfl, rfl⟩ := hcs
      exact ⟨zs, .inr ⟨_, rfl, hl, hm, by simpa using hz, hcell, hwz⟩⟩
  obtain ⟨a3, rfl, rfl, rfl, w3⟩ := open_int Tryz.underlying3 (hval 3 3 v3 rfl rfl) h3
  obtain ⟨a4, len4, cap4, rfl⟩ := okWide_slice Tryz.underlying22 (hval 4 22 v4 rfl rfl)
  have k4 := h4
  have lt4 : ∀ x ∈ p4, x.block < W.heap.size := by obtain ⟨m, hm⟩ := k4; exact DataW.trod_lt m _ _ _ hm
  obtain ⟨z4, w4⟩ : ∃ zs, IsRow .i64 W a4 len4 cap4 zs := by
    obtain ⟨fuel, hf⟩ := h4
    rcases open_ints Tryz.underlying22 Tryz.underlying3 (by kernel_rfl) hf with ⟨hcs, _⟩ | ⟨x, l, c, zs, hcs, _, hl, hm, hz, _, hcell, hwz⟩
    · simp [Value.cells] at hcs
      obtain ⟨rfl, rfl, rfl⟩ := hcs
      exact ⟨[], .inl ⟨rfl, rfl, rfl, rfl⟩⟩
    · simp [Value.cells] at hcs
      obtain ⟨rfl, rfl, rfl⟩ := hcs
      exact ⟨zs, .inr ⟨_, rfl, hl, hm, by simpa using hz, hcell, hwz⟩⟩
  obtain ⟨g, tv, cs, fuel, dv, pv, rfl, hg1, hg2, hg3, hg4, rfl⟩ := trodVars_one hV
  obtain rfl : g = 0 := Option.some.inj (hg1.symm.trans gTab)
  obtain rfl : tv = 84 := Option.some.inj (hg2.symm.trans gTabType)
  have ltv : ∀ x ∈ pv, x.block < W.heap.size := DataW.trod_lt fuel _ _ _ hg4
  have hT := tab hL
  clear hA0
  refine (walk a0 len0 cap0 z0 a1 len1 cap1 z1 a2 len2 cap2 z2 a3 a4 len4 cap4 z4 W w0 w1 w2 w3 w4 hT).mono fun e W' ⟨he, bel⟩ => ?_
  subst he
  have hg4' := DataW.trod_stays (sp' := fun b => decide (b < W.heap.size)) (w' := W') (kids_book laidOut (by kernel_rfl)) (book_sized (by kernel_rfl)) (fun h => by cases h) ⟨of_decide_eq_true (by kernel_rfl), book_self 84⟩ hg4 (fun x hx => bel.same (ltv x hx)) (fun x hx => by simpa using ltv x hx)
  exact ⟨_, rfl, _, _, _, [], _, _, hW', trodAll_mk1 (shut_bool Tryz.underlying4 _), (trodAll_cons_mk (Below.trod laidOut (by kernel_rfl) (of_decide_eq_true (by kernel_rfl)) k0 bel lt0) (trodAll_cons_mk (Below.trod laidOut (by kernel_rfl) (of_decide_eq_true (by kernel_rfl)) k1 bel lt1) (trodAll_cons_mk (Below.trod laidOut (by kernel_rfl) (of_decide_eq_true (by kernel_rfl)) k2 bel lt2) (trodAll_cons_mk (shut_int Tryz.underlying3 w3) (trodAll_cons_mk (Below.trod laidOut (by kernel_rfl) (of_decide_eq_true (by kernel_rfl)) k4 bel lt4) trodAll_mk0))))), trodVars_mk1 hg1 hg2 (var?_below bel hg1 hT.lt hg3) hg4', bel.frame _, fun h => by cases h⟩

/-- A world for the witness: the table holding what its initialiser lays. -/
noncomputable def laidWorld (os : Os) : World :=
  { World.holding Tryz.prog os ⟨#[], #[], []⟩ with heap := (World.holding Tryz.prog os ⟨#[], #[], []⟩).heap.modify 0 fun
      | .cells _ t frozen => .cells (tabZ.map fun z => Value.int .u64 z).toArray t frozen
      | o => o }
theorem laid_met (os : Os) : laidMet Tryz.prog Rows.fnLinesOfResolveRow.laid ((laidWorld os).forCall (fun _ _ => 0) ⟨#[], #[.slice none 0 0, .slice none 0 0, .slice none 0 0, .int .i64 0, .slice none 0 0], []⟩).memory :=
  laidMet_of_run' 8 (by kernel_rfl) (by kernel_rfl)
theorem reads (os : Os) {H : Type} (enc : TypeId × Value → H) : ∃ places, DataW.whole enc Tryz.prog ((laidWorld os).forCall (fun _ _ => 0) ⟨#[], #[.slice none 0 0, .slice none 0 0, .slice none 0 0, .int .i64 0, .slice none 0 0], []⟩).memory Tryz.f4.params.toList Rows.fnLinesOfResolveSpec.vars false (#[.slice none 0 0, .slice none 0 0, .slice none 0 0, .int .i64 0, .slice none 0 0] : Array Value).toList 8 = some ([.nil, .nil, .nil, .lit (.int .i64 0), .nil], [Rows.laid_loop_example_pub_g01449_impl_classes], places) :=
  ⟨MemPlace.row ⟨0, 0, none⟩ 23, by kernel_rfl⟩

set_option maxRecDepth 100000 in
theorem lifted (os : Os) (started : os.Started) (H : Type) (enc : TypeId × Value → H) (F : Stop.Interp) :
    ReturnsInHanded {} Tryz.checked os 4 .any ((OpenSpec.ofChange Rows.fnLinesOfResolveSpec).preRow enc Tryz.prog Tryz.f4 Rows.fnLinesOfResolveRow.domain false Rows.fnLinesOfResolveRow.laid) (((OpenSpec.ofChange Rows.fnLinesOfResolveSpec).at F).post enc Tryz.prog Tryz.f4 false true false false) := by
  obtain ⟨places, hx⟩ := reads os enc
  refine returnsInHanded_of_row (C := Tryz.checked) (s := OpenSpec.ofChange Rows.fnLinesOfResolveSpec) own started (by kernel_rfl) Tryz.func4
    (witness_row_at (enc := enc) (C := Tryz.checked) false (laidWorld os) #[.slice none 0 0, .slice none 0 0, .slice none 0 0, .int .i64 0, .slice none 0 0] rfl (by kernel_rfl) (by kernel_rfl) (by kernel_rfl)
      (OpenSpec.preRow_of_cond 8 hx (by kernel_rfl) (fun k hk => by cases hk) (by kernel_rfl) (laid_met os))) ?_
  intro W base args ds gs before hval hW _ _ _ hL _ _
  exact contract H enc W base args ds gs before hval hW hL

theorem said : Rows.FnLinesOfResolveSaid :=
  OpenClaim.holds_of_cond 4 Tryz.f4 rfl rfl rfl rfl rfl rfl rfl ⟨rfl, rfl, rfl, rfl, rfl⟩ rfl rfl rfl rfl rfl (by kernel_rfl) Tryz.func4 (by kernel_rfl)
    (of_decide_eq_true (by kernel_rfl)) (by unfold Func.isWrapper; first | (rw [if_pos (by decide +kernel)]; kernel_rfl) | (rw [if_neg (by decide +kernel)]; exact ⟨rfl, rfl⟩))
    (fun os started H enc _ F => by rw [OpenClaim.pre_eq_preRow]; exact lifted os started H enc F)

theorem plain (f : FuncId) (fn : Func) (hf : Tryz.pinned.checked.prog.funcNamed Rows.fnLinesOfResolveRow.func = some f) (hfn : Tryz.pinned.checked.prog.funcs[f]? = some fn) :
    true = Tryz.pinned.checked.prog.looks [] ∧ ∀ (j : Nat) t, fn.params[j]? = some t → Tryz.pinned.checked.prog.wantsStandIn t = false := by
  obtain rfl : f = 4 := Option.some.inj ((show Tryz.prog.funcNamed Rows.fnLinesOfResolveRow.func = some 4 by kernel_rfl).symm.trans hf) |>.symm
  obtain rfl : fn = Tryz.f4 := (Option.some.inj (Tryz.func4.symm.trans hfn)).symm
  refine ⟨by kernel_rfl, fun j t ht => ?_⟩
  rw [Tryz.params4] at ht
  have ht2 : t = 22 ∨ t = 22 ∨ t = 22 ∨ t = 3 ∨ t = 22 := by simpa using Array.mem_of_getElem? ht
  rcases ht2 with rfl | rfl | rfl | rfl | rfl
  · exact (show Tryz.prog.wantsStandIn 22 = false by kernel_rfl)
  · exact (show Tryz.prog.wantsStandIn 22 = false by kernel_rfl)
  · exact (show Tryz.prog.wantsStandIn 22 = false by kernel_rfl)
  · exact (show Tryz.prog.wantsStandIn 3 = false by kernel_rfl)
  · exact (show Tryz.prog.wantsStandIn 22 = false by kernel_rfl)

/-- THE CARD. -/
theorem proved : Rows.FnLinesOfResolveCardSaid :=
  Claim7.holds_tied_plain_at .later [] _ _ _ _ said (fun _ h => by cases h) (by kernel_rfl) (fun _ h => by cases h) fnLinesOfResolve_row_tie rfl ⟨rfl, rfl⟩ (by kernel_rfl) rfl plain (by kernel_rfl)
#print axioms proved
end Go.Proofs.YtkocpijloiamcaaGreatDoor.fnLinesOfResolve
