/- The law FnPlainRow, its tied card: for every input the call returns true, and each argument and the table of classes read afterwards as before. The row's one condition, that the table starts as the program's text lays it, is tied to the text by the given tie. -/
import Derived.Test.YtkocpijloiamcaaDoorCards
import Derived.Test.YtkocpijloiamcaaDoorTie
import Derived.Test.YtkocpijloiamcaaDoorRow
import Derived.Test.YtkocpijloiamcaaDoorLns
import Derived.Test.YtkocpijloiamcaaDoorJn1
import Derived.Test.YtkocpijloiamcaaDoorThr
import Derived.WalkKit
import Derived.ProofKit
import Derived.OpenShut
import Derived.ShutString
import Derived.ChangeOld
import Derived.ChangeVars
import Derived.WalkSmall
import Derived.Below
import Derived.Deep.DeepHandedRow
import Derived.Lib.LaidTab
namespace Go.Proofs.YtkocpijloiamcaaDoor.fnPlainRow
open Go.ChangeShapes Go.WideShapes Go.ChangeAt Go.RowKit
open Go.ChangeMaps (open_string shut_string)
set_option linter.unusedVariables false

theorem own : ownKnob Tryd.prog.godebug = none := by kernel_rfl
theorem laidOut : laidOutB Tryd.prog = true := by kernel_rfl
/-- The table's name. -/
def tabName : String := Rows.fnPlainRowSpec.vars.headD ""
theorem gTab : Tryd.prog.globalNamed tabName = some 0 := by kernel_rfl
theorem gTabType : (Tryd.prog.globals[0]?).map (·.type) = some 84 := by kernel_rfl
theorem cellsT : Tryd.prog.cellsOf 84 = 23 := by kernel_rfl
theorem cellsC : Tryd.prog.cellsOf 67 = 1 := by kernel_rfl
def tabZ : List Int := [0, 1, 2, 3, 4, 5, 6, 7, 8, 9, 10, 11, 12, 13, 16, 17, 18, 19, 20, 21, 22, 23, 24]

/-- What the row's list gives. -/
theorem table {W : World} (h : laidMetH Tryd.prog Rows.fnPlainRowRow.laid W) : Lib.TabIs Tryd.prog W tabName .u64 tabZ :=
  Lib.tabIs_of_head (rest := []) gTab gTabType Tryd.underlying84 Tryd.underlying67 cellsC cellsT h
theorem tab {W : World} (h : laidMetH Tryd.prog Rows.fnPlainRowRow.laid W) : Tab W := fun i hi => by
  have h1 := (table h).cell gTab i (by simpa [tabZ] using hi)
  rw [h1]
  congr 2
  have : ∀ j : Fin 23, tabZ.getD j.val 0 = cls (j.val : Int) := by decide
  exact this ⟨i, hi⟩

/-- What the walk is told of a slice of integers that came in. -/
def IsRow (k : IntKind) (w : World) (a : Option Addr) (len cap : Nat) (zs : List Int) : Prop :=
  (a = none ∧ len = 0 ∧ cap = 0 ∧ zs = []) ∨
  ∃ x, a = some x ∧ len ≤ cap ∧ cap ≤ maxLen ∧ zs.length = cap ∧ (∀ i, i < zs.length → w.cell? (x.add i) = some (.int k (zs.getD i 0))) ∧ ∀ n ∈ zs, (Lit.int k n).wf = true

set_option maxHeartbeats 16000000 in
set_option maxRecDepth 100000 in
theorem walk (a0 : Option Addr) (len0 cap0 : Nat) (z0 : List Int) (a1 : Int) (w : World) (w0 : IsRow .i64 w a0 len0 cap0 z0) (w1 : (Lit.int .i64 a1).wf = true) (ht : Tab w) :
    Calls Tryd.prog 3 #[.slice a0 len0 cap0, .int .i64 a1] w fun e w' => e = .returned (.bool true) ∧ Below w.heap.size w w' := by
  obtain ⟨b0, o0, hr0⟩ := sees_of_row w0
  obtain ⟨x, hx⟩ : ∃ x : Nat → Int, Sees w a0 b0 o0 len0 cap0 (fun i => .int .i64 (x i)) := ⟨_, hr0⟩
  clear hr0 w0 w1
  by_cases hn0 : len0 ≤ 2147483647
  case neg =>
    have hb : (2147483647 : Int) < (len0 : Int) := by omega
    go_enter Tryd.func3, Tryd.ntmps3
    go_wp2_with fail
    go_ret
    exact ⟨rfl, Below.refl _ _⟩
  have HX := Lib.hid hx
  have HT := Lib.hid ht
  clear ht
  have hmk := run_make_row' (P := Tryd.prog) 22 3 (.int .i64 0) 8 Tryd.underlying22 Tryd.infoInt rfl .i64 .i64 len0 (by omega) (by omega)
  have HMK := Lib.hid hmk
  clear hmk
  go_enter Tryd.func3, Tryd.ntmps3
  go_wp2_with fail
  refine (isBase_q _ _).mono ?_
  rintro e w1 ⟨rfl, rfl⟩
  cases hB : baseQ a1 with
  | false =>
    clear hB
    go_wp2_with fail
    go_ret
    exact ⟨rfl, Below.refl _ _⟩
  | true =>
  have hb01 := baseQ_iff.1 hB
  clear hB
  go_wp2_with fail
  refine (isParagraph_any _ (by omega) hx).mono ?_
  rintro e w1 ⟨rfl, rfl⟩
  cases hP : paraB len0 x with
  | false =>
    clear hP
    go_wp2_with fail
    go_ret
    exact ⟨rfl, Below.refl _ _⟩
  | true =>
  obtain ⟨hpos, hpp⟩ : 0 < len0 ∧ ∀ i, i < len0 → 0 ≤ x i ∧ x i < 23 ∧ (x i = 7 → len0 ≤ i + 1) := of_decide_eq_true hP
  have HPP := Lib.hid hpp
  clear hP hpp
  go_wp2_with fail
  refine (direction_any _ (by omega) (by omega)).mono ?_
  rintro e w1 ⟨rfl, rfl⟩
  rw [show a1 % 2 = a1 by omega]
  go_wp2_with fail
  go_loop [7, 29] (fun _ i => ∃ k : Nat, k ≤ len0 ∧ i = .int .i64 k ∧ (∀ j, j < k → x j = a1 ∨ (7 ≤ x j ∧ x j ≤ 10) ∨ x j = 12)) (fun _ i => len0 - (intOf i).toNat)
  case atStart => exact ⟨0, by omega, rfl, fun j hj => absurd hj (Nat.not_lt_zero _)⟩
  case round =>
    obtain ⟨k, hk, rfl, hq⟩ := hrel
    by_cases hlt : k < len0
    case neg =>
      obtain rfl : k = len0 := by omega
      have HQ := Lib.hid hq
      clear hq hlt
      go_wp2_with fail
      go_upto_region 13 with fail
      go_cut [9, 10, 11] (fun v9 v10 v11 wx => ∃ a5 b5 o5 c5 a6 b6 o6 c6, v9 = .slice a5 k c5 ∧ v10 = .slice a6 k c6 ∧ v11 = .bool true ∧ Sees wx a5 b5 o5 k c5 (fun _ => .int .i64 a1) ∧ Sees wx a6 b6 o6 k c6 (fun i => .int .i64 (wantQ a1 k i)) ∧ w.Since w.heap.size wx)
      case first =>
        have hmk := HMK.out
        have HA : ∀ (W : World) (p q r : Nat), W.rowIs p 3 k (fun _ => .int .i64 0) → W.rowIs q 3 k (fun _ => .int .i64 0) → W.rowIs r 3 1 (fun _ => .int .i64 (k : Int)) → w.Since w.heap.size W →
            Calls Tryd.prog 13 #[.slice a0 k cap0, .slice (some ⟨p, 0, none⟩) k k, .slice (some ⟨q, 0, none⟩) k k, .int .i64 a1, .slice (some ⟨r, 0, none⟩) 1 1] W (fun e wx => ∃ a5 b5 o5 c5 a6 b6 o6 c6, e = .returned (.tuple #[.slice a5 k c5, .slice a6 k c6, .bool true]) ∧
              Sees wx a5 b5 o5 k c5 (fun _ => .int .i64 a1) ∧ Sees wx a6 b6 o6 k c6 (fun i => .int .i64 (wantQ a1 k i)) ∧ w.Since w.heap.size wx) := by
          intro W p q r hp hq hr hs
          have hok : ∀ i, i < k → clsOk (x i) := fun i hi => ⟨(HPP.out i hi).1, (HPP.out i hi).2.1⟩
          have hB7 : ∀ i, i < k → x i = 7 → k ≤ i + 1 := fun i hi => (HPP.out i hi).2.2
          have hbr : Brk (fun _ => k) 1 k := ⟨by omega, fun i hi => by
            have : i = 0 := by omega
            subst this; exact hpos, fun i _ => Nat.le_refl _, rfl⟩
          have hbp : baseP x k a1 = a1 := if_neg (by omega)
          refine (implLines_any (x := x) (kd := fun _ => 0) (vl := fun _ => 0) (br := fun _ => k) (g := a1) W (HT.out.since hs) hn0 hpos (by omega) (by omega) hok hB7 (fun _ _ => .inl rfl) (fun _ _ => by omega) (HX.out.since hs) (Sees.ofRow hp) (Sees.ofRow hq) (Sees.ofRow hr) hbr).mono ?_
          rintro e w' ⟨ft, fl, hD, A1, B1, O1, C1, A2, B2, O2, C2, rfl, hL, hO, hs2⟩
          rw [hbp] at hD hL hO
          have hg : ∀ i, i < k → g2 x fl a1 (fun _ => k) k 1 i = a1 := fun i hi => by
            rcases g2_or x fl a1 (fun _ => k) k 1 i with e | e
            · exact e
            · rw [e]; exact row_flat hb01 hB7 (fun _ => rfl) hD (fun j hj => HQ.out j hj) hi
          refine ⟨A1, B1, O1, C1, A2, B2, O2, C2, rfl, hL.congr (fun i hi => by rw [hg i hi]), hO.congr (fun i hi => ?_), since2 hs hs2⟩
          show Value.int .i64 ((mo _ _ 1 i : Nat) : Int) = .int .i64 (wantQ a1 k i)
          rw [row_order hb01 hg hi]
          rfl
        have HC1 := Lib.hid (HA _ _ _ _ (row3 w (fun w => zeros w k) (fun w => zeros w k) (fun w => single w (.int .i64 (k : Int)))).1 (row3 w (fun w => zeros w k) (fun w => zeros w k) (fun w => single w (.int .i64 (k : Int)))).2.1 (row3 w (fun w => zeros w k) (fun w => zeros w k) (fun w => single w (.int .i64 (k : Int)))).2.2.1 (row3 w (fun w => zeros w k) (fun w => zeros w k) (fun w => single w (.int .i64 (k : Int)))).2.2.2)
        have HC2 := Lib.hid (HA _ _ _ _ (row3 w (fun w => zeros w k) (fun w => zeros w k) (fun w => single w (.int .i64 (k : Int)))).2.1 (row3 w (fun w => zeros w k) (fun w => zeros w k) (fun w => single w (.int .i64 (k : Int)))).1 (row3 w (fun w => zeros w k) (fun w => zeros w k) (fun w => single w (.int .i64 (k : Int)))).2.2.1 (row3 w (fun w => zeros w k) (fun w => zeros w k) (fun w => single w (.int .i64 (k : Int)))).2.2.2)
        have HC3 := Lib.hid (HA _ _ _ _ (row3 w (fun w => zeros w k) (fun w => single w (.int .i64 (k : Int))) (fun w => zeros w k)).1 (row3 w (fun w => zeros w k) (fun w => single w (.int .i64 (k : Int))) (fun w => zeros w k)).2.2.1 (row3 w (fun w => zeros w k) (fun w => single w (.int .i64 (k : Int))) (fun w => zeros w k)).2.1 (row3 w (fun w => zeros w k) (fun w => single w (.int .i64 (k : Int))) (fun w => zeros w k)).2.2.2)
        have HC4 := Lib.hid (HA _ _ _ _ (row3 w (fun w => zeros w k) (fun w => single w (.int .i64 (k : Int))) (fun w => zeros w k)).2.2.1 (row3 w (fun w => zeros w k) (fun w => single w (.int .i64 (k : Int))) (fun w => zeros w k)).1 (row3 w (fun w => zeros w k) (fun w => single w (.int .i64 (k : Int))) (fun w => zeros w k)).2.1 (row3 w (fun w => zeros w k) (fun w => single w (.int .i64 (k : Int))) (fun w => zeros w k)).2.2.2)
        have HC5 := Lib.hid (HA _ _ _ _ (row3 w (fun w => single w (.int .i64 (k : Int))) (fun w => zeros w k) (fun w => zeros w k)).2.1 (row3 w (fun w => single w (.int .i64 (k : Int))) (fun w => zeros w k) (fun w => zeros w k)).2.2.1 (row3 w (fun w => single w (.int .i64 (k : Int))) (fun w => zeros w k) (fun w => zeros w k)).1 (row3 w (fun w => single w (.int .i64 (k : Int))) (fun w => zeros w k) (fun w => zeros w k)).2.2.2)
        have HC6 := Lib.hid (HA _ _ _ _ (row3 w (fun w => single w (.int .i64 (k : Int))) (fun w => zeros w k) (fun w => zeros w k)).2.2.1 (row3 w (fun w => single w (.int .i64 (k : Int))) (fun w => zeros w k) (fun w => zeros w k)).2.1 (row3 w (fun w => single w (.int .i64 (k : Int))) (fun w => zeros w k) (fun w => zeros w k)).1 (row3 w (fun w => single w (.int .i64 (k : Int))) (fun w => zeros w k) (fun w => zeros w k)).2.2.2)
        clear HA
        clear hx hpos
        go_region_with (go_at_call 13; (first | with_reducible refine HC1.out.mono ?_ | with_reducible refine HC2.out.mono ?_ | with_reducible refine HC3.out.mono ?_ | with_reducible refine HC4.out.mono ?_ | with_reducible refine HC5.out.mono ?_ | with_reducible refine HC6.out.mono ?_); rintro e wx ⟨a5, b5, o5, c5, a6, b6, o6, c6, rfl, hs5, hs6, hss⟩)
        all_goals
          go_wp2_with fail
          go_meet
          exact ⟨a5, b5, o5, c5, a6, b6, o6, c6, rfl, rfl, rfl, hs5, hs6, hss⟩
      case rest =>
        obtain ⟨a5, b5, o5, c5, a6, b6, o6, c6, rfl, rfl, rfl, hs5, hs6, hss⟩ := hcut
        have HSS := Lib.hid hss
        have HS5 := Lib.hid hs5
        have HS6 := Lib.hid hs6
        clear hss hs5 hs6 hx
        have hnn : ((k : Int) != (k : Int)) = false := by simp
        go_wp2_with fail
        go_loopg [12, 13, 88] k (fun g _ _ i wr => ∃ j : Nat, j ≤ k ∧ g = k - j ∧ i = .int .i64 j ∧ wc = wr)
        case atStart => exact ⟨0, Nat.zero_le _, rfl, rfl, rfl⟩
        case round =>
          obtain ⟨j, hj, rfl, rfl, rfl⟩ := hrel
          by_cases hjk : j < k
          · have hjz : (j : Int) < (k : Int) := by omega
            obtain ⟨rfl, g5⟩ := HS5.out.get hjk
            obtain ⟨rfl, g6⟩ := HS6.out.get hjk
            rcases hb01 with rfl | rfl
            · rw [show wantQ 0 k j = (j : Int) from by unfold wantQ; rw [if_neg (by decide)]] at g6
              have hjj : ((j : Int) != (j : Int)) = false := by simp
              go_wp2_with fail
              go_roundg (k - (j + 1))
              case rel => exact ⟨j + 1, by omega, rfl, by go_num, rfl⟩
              case measure => omega
            · rw [show wantQ 1 k j = (k : Int) - 1 - (j : Int) from by unfold wantQ; rw [if_pos rfl]; omega] at g6
              have hjj : ((k : Int) - 1 - (j : Int) != (k : Int) - 1 - (j : Int)) = false := by simp
              go_wp2_with fail
              go_roundg (k - (j + 1))
              case rel => exact ⟨j + 1, by omega, rfl, by go_num, rfl⟩
              case measure => omega
          · obtain rfl : j = k := by omega
            go_wp2_with fail
            go_ret
            exact ⟨rfl, below_of_since HSS.out⟩
    obtain ⟨rfl, hc⟩ := hx.get hlt
    have h9 : ((9 : Int) != a1) = true := by rcases hb01 with rfl | rfl <;> decide
    have h10 : ((10 : Int) != a1) = true := by rcases hb01 with rfl | rfl <;> decide
    have HQ := Lib.hid hq
    clear hq
    have go : ∀ v, x k = v → (v = a1 ∨ (7 ≤ v ∧ v ≤ 10) ∨ v = 12) → ∀ j, j < k + 1 → x j = a1 ∨ (7 ≤ x j ∧ x j ≤ 10) ∨ x j = 12 := fun v hv h j hj => by
      rcases Nat.lt_or_ge j k with q | q
      · exact HQ.out j q
      · obtain rfl : j = k := by omega
        rw [hv]; exact h
    obtain ⟨V, hV⟩ : ∃ V, V = x k := ⟨_, rfl⟩
    rw [← hV] at hc
    have HV := Lib.hid hV
    have h8 : ((8 : Int) != a1) = true := by rcases hb01 with rfl | rfl <;> decide
    have h7 : ((7 : Int) != a1) = true := by rcases hb01 with rfl | rfl <;> decide
    have h12 : ((12 : Int) != a1) = true := by rcases hb01 with rfl | rfl <;> decide
    clear hV
    by_cases ea : V = a1
    · subst ea
      have hvv : (V != V) = false := by simp
      go_wp2_with fail
      go_round
      case rel => exact ⟨k + 1, by omega, by go_num, go V HV.out.symm (.inl rfl)⟩
      case measure => simp [intOf]; omega
    by_cases e9 : V = 9
    · subst e9
      go_wp2_with fail
      go_round
      case rel => exact ⟨k + 1, by omega, by go_num, go 9 HV.out.symm (.inr (.inl (by omega)))⟩
      case measure => simp [intOf]; omega
    by_cases e10 : V = 10
    · subst e10
      go_wp2_with fail
      go_round
      case rel => exact ⟨k + 1, by omega, by go_num, go 10 HV.out.symm (.inr (.inl (by omega)))⟩
      case measure => simp [intOf]; omega
    by_cases e8 : V = 8
    · subst e8
      go_wp2_with fail
      go_round
      case rel => exact ⟨k + 1, by omega, by go_num, go 8 HV.out.symm (.inr (.inl (by omega)))⟩
      case measure => simp [intOf]; omega
    by_cases e7 : V = 7
    · subst e7
      go_wp2_with fail
      go_round
      case rel => exact ⟨k + 1, by omega, by go_num, go 7 HV.out.symm (.inr (.inl (by omega)))⟩
      case measure => simp [intOf]; omega
    by_cases e12 : V = 12
    · subst e12
      go_wp2_with fail
      go_round
      case rel => exact ⟨k + 1, by omega, by go_num, go 12 HV.out.symm (.inr (.inr rfl))⟩
      case measure => simp [intOf]; omega
    have n0 : (V != a1) = true := bne_iff_ne.2 ea
    have n9 : (V != 9) = true := bne_iff_ne.2 e9
    have n10 : (V != 10) = true := bne_iff_ne.2 e10
    have n8 : (V != 8) = true := bne_iff_ne.2 e8
    have n7 : (V != 7) = true := bne_iff_ne.2 e7
    have n12 : (V != 12) = true := bne_iff_ne.2 e12
    clear ea e9 e10 e8 e7 e12
    go_wp2_with fail
    go_ret
    exact ⟨rfl, Below.refl _ _⟩

/-! ### THE ROW's STEP -/
set_option maxRecDepth 100000 in
theorem contract (H : Type) (enc : TypeId × Value → H) (W : World) (base : Nat) (args : Array Value) (ds gs : List (DataW H)) (before : List MemPlace)
    (hval : ∀ (j : Nat) t v, Tryd.f3.params[j]? = some t → args[j]? = some v → Value.okWide Tryd.prog W .any base t v)
    (hW : DataW.Whole enc Tryd.prog Tryd.f3.params.toList Rows.fnPlainRowSpec.vars false W args.toList ds gs before) (hL : laidMetH Tryd.prog Rows.fnPlainRowRow.laid W) :
    Calls Tryd.prog 3 args W fun e W' => ∃ v, e = .returned v ∧ Rows.fnPlainRowSpec.post enc Tryd.prog Tryd.f3 false true false false W args v W' := by
  have hW' := hW
  obtain ⟨p, q, hA0, hV, rfl, hfz, hnd⟩ := hW
  have hA : DataW.TrodAll enc Tryd.prog W 0 (fun _ => true) true Tryd.f3.params.toList args.toList ds p := hA0
  rw [Tryd.params3] at hA hval
  obtain ⟨v0, vs0, d0, ds0, p0, q0, hargs, rfl, rfl, h0, r0⟩ := trodAll_cons hA
  obtain ⟨v1, vs1, d1, ds1, p1, q1, rfl, rfl, rfl, h1, r1⟩ := trodAll_cons r0
  obtain ⟨rfl, rfl, rfl⟩ := trodAll_nil r1
  obtain rfl : args = #[v0, v1] := by cases args; simp_all
  obtain ⟨a0, len0, cap0, rfl⟩ := okWide_slice Tryd.underlying22 (hval 0 22 v0 rfl rfl)
  have k0 := h0
  have lt0 : ∀ x ∈ p0, x.block < W.heap.size := by obtain ⟨m, hm⟩ := k0; exact DataW.trod_lt m _ _ _ hm
  obtain ⟨z0, w0⟩ : ∃ zs, IsRow .i64 W a0 len0 cap0 zs := by
    obtain ⟨fuel, hf⟩ := h0
    rcases open_ints Tryd.underlying22 Tryd.underlying3 (by kernel_rfl) hf with ⟨hcs, _⟩ | ⟨x, l, c, zs, hcs, _, hl, hm, hz, _, hcell, hwz⟩
    · simp [Value.cells] at hcs
      obtain ⟨rfl, rfl, rfl⟩ := hcs
      exact ⟨[], .inl ⟨rfl, rfl, rfl, rfl⟩⟩
    · simp [Value.cells] at hcs
      obtain ⟨rfl, rfl, rfl⟩ := hcs
      exact ⟨zs, .inr ⟨_, rfl, hl, hm, by simpa using hz, hcell, hwz⟩⟩
  obtain ⟨a1, rfl, rfl, rfl, w1⟩ := open_int Tryd.underlying3 (hval 1 3 v1 rfl rfl) h1
  obtain ⟨g, tv, cs, fuel, dv, pv, rfl, hg1, hg2, hg3, hg4, rfl⟩ := trodVars_one hV
  obtain rfl : g = 0 := Option.some.inj (hg1.symm.trans gTab)
  obtain rfl : tv = 84 := Option.some.inj (hg2.symm.trans gTabType)
  have ltv : ∀ x ∈ pv, x.block < W.heap.size := DataW.trod_lt fuel _ _ _ hg4
  have hT := tab hL
  clear hA0
  refine (walk a0 len0 cap0 z0 a1 W w0 w1 hT).mono fun e W' ⟨he, bel⟩ => ?_
  subst he
  have hg4' := DataW.trod_stays (sp' := fun b => decide (b < W.heap.size)) (w' := W') (kids_book laidOut (by kernel_rfl)) (book_sized (by kernel_rfl)) (fun h => by cases h) ⟨of_decide_eq_true (by kernel_rfl), book_self 84⟩ hg4 (fun x hx => bel.same (ltv x hx)) (fun x hx => by simpa using ltv x hx)
  exact ⟨_, rfl, _, _, _, [], _, _, hW', trodAll_mk1 (shut_bool Tryd.underlying4 _), (trodAll_cons_mk (Below.trod laidOut (by kernel_rfl) (of_decide_eq_true (by kernel_rfl)) k0 bel lt0) (trodAll_cons_mk (shut_int Tryd.underlying3 w1) trodAll_mk0)), trodVars_mk1 hg1 hg2 (var?_below bel hg1 hT.lt hg3) hg4', bel.frame _, fun h => by cases h⟩

/-- A world for the witness: the table holding what its initialiser lays. -/
noncomputable def laidWorld (os : Os) : World :=
  { World.holding Tryd.prog os ⟨#[], #[], []⟩ with heap := (World.holding Tryd.prog os ⟨#[], #[], []⟩).heap.modify 0 fun
      | .cells _ t frozen => .cells (tabZ.map fun z => Value.int .u64 z).toArray t frozen
      | o => o }
theorem laid_met (os : Os) : laidMet Tryd.prog Rows.fnPlainRowRow.laid ((laidWorld os).forCall (fun _ _ => 0) ⟨#[], #[.slice none 0 0, .int .i64 0], []⟩).memory :=
  laidMet_of_run' 8 (by kernel_rfl) (by kernel_rfl)
theorem reads (os : Os) {H : Type} (enc : TypeId × Value → H) : ∃ places, DataW.whole enc Tryd.prog ((laidWorld os).forCall (fun _ _ => 0) ⟨#[], #[.slice none 0 0, .int .i64 0], []⟩).memory Tryd.f3.params.toList Rows.fnPlainRowSpec.vars false (#[.slice none 0 0, .int .i64 0] : Array Value).toList 8 = some ([.nil, .lit (.int .i64 0)], [Rows.laid_loop_example_pub_g01449_impl_classes], places) :=
  ⟨MemPlace.row ⟨0, 0, none⟩ 23, by kernel_rfl⟩

set_option maxRecDepth 100000 in
theorem lifted (os : Os) (started : os.Started) (H : Type) (enc : TypeId × Value → H) (F : Stop.Interp) :
    ReturnsInHanded {} Tryd.checked os 3 .any ((OpenSpec.ofChange Rows.fnPlainRowSpec).preRow enc Tryd.prog Tryd.f3 Rows.fnPlainRowRow.domain false Rows.fnPlainRowRow.laid) (((OpenSpec.ofChange Rows.fnPlainRowSpec).at F).post enc Tryd.prog Tryd.f3 false true false false) := by
  obtain ⟨places, hx⟩ := reads os enc
  refine returnsInHanded_of_row (C := Tryd.checked) (s := OpenSpec.ofChange Rows.fnPlainRowSpec) own started (by kernel_rfl) Tryd.func3
    (witness_row_at (enc := enc) (C := Tryd.checked) false (laidWorld os) #[.slice none 0 0, .int .i64 0] rfl (by kernel_rfl) (by kernel_rfl) (by kernel_rfl)
      (OpenSpec.preRow_of_cond 8 hx (by kernel_rfl) (fun k hk => by cases hk) (by kernel_rfl) (laid_met os))) ?_
  intro W base args ds gs before hval hW _ _ _ hL _ _
  exact contract H enc W base args ds gs before hval hW hL

theorem said : Rows.FnPlainRowSaid :=
  OpenClaim.holds_of_cond 3 Tryd.f3 rfl rfl rfl rfl rfl rfl rfl ⟨rfl, rfl, rfl, rfl, rfl⟩ rfl rfl rfl rfl rfl (by kernel_rfl) Tryd.func3 (by kernel_rfl)
    (of_decide_eq_true (by kernel_rfl)) (by unfold Func.isWrapper; first | (rw [if_pos (by decide +kernel)]; kernel_rfl) | (rw [if_neg (by decide +kernel)]; exact ⟨rfl, rfl⟩))
    (fun os started H enc _ F => by rw [OpenClaim.pre_eq_preRow]; exact lifted os started H enc F)

theorem plain (f : FuncId) (fn : Func) (hf : Tryd.pinned.checked.prog.funcNamed Rows.fnPlainRowRow.func = some f) (hfn : Tryd.pinned.checked.prog.funcs[f]? = some fn) :
    true = Tryd.pinned.checked.prog.looks [] ∧ ∀ (j : Nat) t, fn.params[j]? = some t → Tryd.pinned.checked.prog.wantsStandIn t = false := by
  obtain rfl : f = 3 := Option.some.inj ((show Tryd.prog.funcNamed Rows.fnPlainRowRow.func = some 3 by kernel_rfl).symm.trans hf) |>.symm
  obtain rfl : fn = Tryd.f3 := (Option.some.inj (Tryd.func3.symm.trans hfn)).symm
  refine ⟨by kernel_rfl, fun j t ht => ?_⟩
  rw [Tryd.params3] at ht
  have ht2 : t = 22 ∨ t = 3 := by simpa using Array.mem_of_getElem? ht
  rcases ht2 with rfl | rfl
  · exact (show Tryd.prog.wantsStandIn 22 = false by kernel_rfl)
  · exact (show Tryd.prog.wantsStandIn 3 = false by kernel_rfl)

/-- THE CARD. -/
theorem proved : Rows.FnPlainRowCardSaid :=
  Claim7.holds_tied_plain_at .later [] _ _ _ _ said (fun _ h => by cases h) (by kernel_rfl) (fun _ h => by cases h) fnPlainRow_row_tie rfl ⟨rfl, rfl⟩ (by kernel_rfl) rfl plain (by kernel_rfl)
#print axioms proved
end Go.Proofs.YtkocpijloiamcaaDoor.fnPlainRow
