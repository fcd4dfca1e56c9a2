/- The law FnIsolatesMatch, its tied card: for every input the call returns true, and each argument and the table of classes read afterwards as before. The row's one condition, that the table starts as the program's text lays it, is tied to the text by the given tie. -/
import Derived.Test.YtckffgcmeajbdaaDoorCards
import Derived.Test.YtckffgcmeajbdaaDoorTie
import Derived.Test.YtckffgcmeajbdaaDoorIso
import Derived.Test.YtckffgcmeajbdaaDoorCls
import Derived.Test.YtckffgcmeajbdaaDoorBase
import Derived.Test.YtckffgcmeajbdaaDoorInfo
import Derived.Test.YtckffgcmeajbdaaDoorRet
import Derived.Test.YtckffgcmeajbdaaDoorQuiet
import Derived.Test.YtckffgcmeajbdaaDoorCopy
import Derived.Test.YtckffgcmeajbdaaDoorClsWalks
import Derived.Test.YtckffgcmeajbdaaDoorDmi
import Derived.Test.YtckffgcmeajbdaaDoorIsoImpl
import Derived.Test.YtckffgcmeajbdaaDoorIsoSpec
import Derived.Test.YtckffgcmeajbdaaDoorIso2
import Derived.WalkKit
import Derived.ProofKit
import Derived.OpenShut
import Derived.ShutString
import Derived.ChangeOld
import Derived.ChangeVars
import Derived.WalkSmall
import Derived.Below
import Derived.Deep.DeepHandedRow
import Derived.Lib.LaidTab
namespace Go.Proofs.YtckffgcmeajbdaaDoor.fnIsolatesMatch
open Go.ChangeShapes Go.WideShapes Go.ChangeAt Go.RowKit
open Go.ChangeMaps (open_string shut_string)
set_option linter.unusedVariables false

theorem own : ownKnob Tryd.prog.godebug = none := by kernel_rfl
theorem laidOut : laidOutB Tryd.prog = true := by kernel_rfl
/-- The table's name. -/
def tabName : String := Rows.fnIsolatesMatchSpec.vars.headD ""
theorem gTab : Tryd.prog.globalNamed tabName = some 0 := by kernel_rfl
theorem gTabType : (Tryd.prog.globals[0]?).map (·.type) = some 63 := by kernel_rfl
theorem cellsT : Tryd.prog.cellsOf 63 = 23 := by kernel_rfl
theorem cellsC : Tryd.prog.cellsOf 53 = 1 := by kernel_rfl
def tabZ : List Int := [0, 1, 2, 3, 4, 5, 6, 7, 8, 9, 10, 11, 12, 13, 16, 17, 18, 19, 20, 21, 22, 23, 24]

/-- What the row's list gives. -/
theorem table {W : World} (h : laidMetH Tryd.prog Rows.fnIsolatesMatchRow.laid W) : Lib.TabIs Tryd.prog W tabName .u64 tabZ :=
  Lib.tabIs_of_head (rest := []) gTab gTabType Tryd.underlying63 Tryd.underlying53 cellsC cellsT h
theorem tab {W : World} (h : laidMetH Tryd.prog Rows.fnIsolatesMatchRow.laid W) : Tab W := fun i hi => by
  have h1 := (table h).cell gTab i (by simpa [tabZ] using hi)
  rw [h1]
  congr 2
  have : ∀ j : Fin 23, tabZ.getD j.val 0 = cls (j.val : Int) := by decide
  exact this ⟨i, hi⟩

/-- What the walk is told of a slice of integers that came in. -/
def IsRow (k : IntKind) (w : World) (a : Option Addr) (len cap : Nat) (zs : List Int) : Prop :=
  (a = none ∧ len = 0 ∧ cap = 0 ∧ zs = []) ∨
  ∃ x, a = some x ∧ len ≤ cap ∧ cap ≤ maxLen ∧ zs.length = cap ∧ (∀ i, i < zs.length → w.cell? (x.add i) = some (.int k (zs.getD i 0))) ∧ ∀ n ∈ zs, (Lit.int k n).wf = true

set_option maxHeartbeats 4000000 in
set_option maxRecDepth 100000 in
theorem walk (a0 : Option Addr) (len0 cap0 : Nat) (z0 : List Int) (w : World) (w0 : IsRow .i64 w a0 len0 cap0 z0) (ht : Tab w) :
    Calls Tryd.prog 4 #[.slice a0 len0 cap0] w fun e w' => e = .returned (.bool true) ∧ Below w.heap.size w w' := by
  obtain ⟨b0, o0, hx0⟩ := sees_of_row w0
  obtain ⟨x, hx⟩ : ∃ x : Nat → Int, Sees w a0 b0 o0 len0 cap0 (fun i => .int .i64 (x i)) := ⟨_, hx0⟩
  clear hx0 w0
  by_cases hn : len0 ≤ 2147483647
  case neg =>
    have hb : (2147483647 : Int) < (len0 : Int) := by omega
    go_enter Tryd.func4, Tryd.ntmps4
    go_wp2_with fail
    go_ret
    exact ⟨rfl, Below.refl _ _⟩
  by_cases hp : paraB len0 x = true
  case neg =>
    have hp' : paraB len0 x = false := by simpa using hp
    clear hp
    go_enter Tryd.func4, Tryd.ntmps4
    go_wp2_with fail
    refine (isParagraph_any _ (by omega) hx).mono ?_
    rintro e w1 ⟨rfl, rfl⟩
    go_wp2_with fail
    go_ret
    exact ⟨rfl, Below.refl _ _⟩
  have hok : ∀ i, i < len0 → clsOk (x i) := fun i hi => by have := (of_decide_eq_true hp : 0 < len0 ∧ ∀ i, i < len0 → 0 ≤ x i ∧ x i < 23 ∧ (x i = 7 → len0 ≤ i + 1)).2 i hi; exact ⟨this.1, this.2.1⟩
  have H1 : ∀ i, i < len0 → iniC (fun i => cls (x i)) i = iniN x i := fun i hi => cls_ini (hok i hi)
  have H2 : ∀ i, i < len0 → pdiC (fun i => cls (x i)) i = pdiN x i := fun i hi => by
    show (cls (x i) == 24) = (x i == 22)
    rw [cls_pdi (hok i hi)]; unfold pdiB; rw [Bool.eq_iff_iff]; simp
  have HH1 := Lib.hid H1
  have HH2 := Lib.hid H2
  clear hok H1 H2
  go_enter Tryd.func4, Tryd.ntmps4
  go_wp2_with fail
  refine (isParagraph_any _ (by omega) hx).mono ?_
  rintro e w1 ⟨rfl, rfl⟩
  go_wp2_with fail
  refine (implIsolates_any _ ht (by omega) hx).mono ?_
  rintro e w1 ⟨a1, b1, o1, c1, a2, b2, o2, c2, rfl, hs1, hs2, hsi1⟩
  have hs1' := hs1.congr (g := fun i => .int .i64 (mt (iniN x) (pdiN x) len0 i)) (fun i hi => by rw [mt_congr HH1.out HH2.out hi])
  have hs2' := hs2.congr (g := fun i => .int .i64 (bg (iniN x) (pdiN x) len0 len0 i)) (fun i hi => by rw [bg_congr HH1.out HH2.out len0 (Nat.le_refl _)])
  have hx1 := hx.since hsi1
  clear hs1 hs2 hx ht
  go_wp2_with fail
  go_loopg [36] len0 (fun g i wr => ∃ k : Nat, k ≤ len0 ∧ g = len0 - k ∧ i = .int .i64 k ∧ w1.Since w1.heap.size wr)
  case atStart => exact ⟨0, by omega, rfl, rfl, World.Since.refl _ _⟩
  case round =>
    obtain ⟨k, hk, rfl, rfl, hs⟩ := hrel
    by_cases hkn : k < len0
    · have hkz : (k : Int) < (len0 : Int) := by omega
      obtain ⟨rfl, hc⟩ := (hx1.since hs).get hkn
      obtain ⟨rfl, hce⟩ := (hs1'.since hs).get hkn
      obtain ⟨rfl, hcb⟩ := (hs2'.since hs).get hkn
      by_cases hi : iniB (x k) = true
      · have hp2 : (x k == 22) = false := by unfold iniB at hi; rw [decide_eq_true_eq] at hi; exact beq_eq_false_iff_ne.2 (by omega)
        have hp3 : ¬ x k = 22 := by simpa using hp2
        have hp4 : (x k != 22) = true := by simpa using hp3
        have hb : bg (iniN x) (pdiN x) len0 len0 k < 0 := by
          by_cases h : 0 ≤ bg (iniN x) (pdiN x) len0 len0 k
          · obtain ⟨m, h1, h2, h3, h4, h5⟩ := bg_some (Nat.le_refl _) h
            have := mat_pdi (ini := iniN x) (pdi := pdiN x) h1 (by omega)
            rw [h3] at this
            exact absurd (this.symm.trans hp2) (by decide)
          · omega
        have hmle := mat_le (ini := iniN x) (pdi := pdiN x) hkn
        have hmgt := mat_gt (ini := iniN x) (pdi := pdiN x) hkn
        have hmtq : mt (iniN x) (pdiN x) len0 k = (mat (iniN x) (pdiN x) len0 k : Int) := mt_ini (ini := iniN x) hi
        have hnest : ∀ j, k < j → j < mat (iniN x) (pdiN x) len0 k → mat (iniN x) (pdiN x) len0 k < len0 → mt (iniN x) (pdiN x) len0 j < (mat (iniN x) (pdiN x) len0 k : Int) := by
          intro j h1 h2 h3
          by_cases hj : iniN x j = true
          · rw [mt_ini hj]; have := (mat_nested h1 h2 (by omega) hj).2 h3; omega
          · rw [mt_not (by simpa using hj)]; omega
        have hat : mat (iniN x) (pdiN x) len0 k < len0 → pdiN x (mat (iniN x) (pdiN x) len0 k) = true ∧ bg (iniN x) (pdiN x) len0 len0 (mat (iniN x) (pdiN x) len0 k) = k := fun h => ⟨mat_pdi hkn h, bg_of hi h hkn len0 hkn (Nat.le_refl _)⟩
        rw [hmtq] at hce
        obtain ⟨m, hm⟩ : ∃ m, m = mat (iniN x) (pdiN x) len0 k := ⟨_, rfl⟩
        rw [← hm] at hmle hmgt hnest hat hce hmtq
        obtain ⟨bb, hbb⟩ : ∃ bb, bb = bg (iniN x) (pdiN x) len0 len0 k := ⟨_, rfl⟩
        rw [← hbb] at hb hcb
        have HN := Lib.hid hnest
        have HAT := Lib.hid hat
        have HMT := Lib.hid hmtq
        clear hm hbb hmtq hnest hat
        by_cases hmn : m < len0
        · obtain ⟨hpd, hbm⟩ := HAT.out hmn
          have hpd' : x m = 22 := by simpa [pdiN] using hpd
          have hcm := ((hx1.since hs).get hmn).2
          have hcbm := ((hs2'.since hs).get hmn).2
          rw [hbm] at hcbm
          rw [hpd'] at hcm
          have hne : ((m : Int) == (len0 : Int)) = false := beq_eq_false_iff_ne.2 (by omega)
          clear hpd hbm hpd' HAT
          go_wp2_with fail
          go_quiet ((go_at_call 14; exact quiet_same (congrArg Value.bool hi) (isInitiator_any _ _)))
          clear hp2 hp3 hp4 hi
          go_wp2_with fail
          have hs2 := since_drewN hs nq
          clear hcm hcbm hc hcb hs
          go_loopg [10] (m - (k + 1)) (fun g j wr2 => ∃ q : Nat, k + 1 ≤ q ∧ q ≤ m ∧ g = m - q ∧ j = .int .i64 q ∧ w1.Since w1.heap.size wr2)
          case atStart => exact ⟨k + 1, by omega, by omega, rfl, by go_num, hs2⟩
          case round =>
            clear hs2 hce
            obtain ⟨q, hq0, hq1, rfl, rfl, hs⟩ := hrel
            have hce := ((hs1'.since hs).get hkn).2
            rw [HMT.out] at hce
            by_cases hqm : q < m
            · have hqz : (q : Int) < (m : Int) := by omega
              have hqn : (q : Int) < (len0 : Int) := by omega
              have hceq := ((hs1'.since hs).get (show q < len0 by omega)).2
              have hlt := HN.out q (by omega) hqm hmn
              obtain ⟨eq, heq⟩ : ∃ eq, eq = mt (iniN x) (pdiN x) len0 q := ⟨_, rfl⟩
              rw [← heq] at hceq hlt
              clear heq
              have hle : ¬ (m : Int) ≤ eq := by omega
              go_wp2_with fail
              go_quiet (fail)
              go_wp2_with fail
              go_roundg (m - (q + 1))
              case rel => exact ⟨q + 1, by omega, by omega, rfl, by go_num, since_drewN hs nq⟩
              case measure => omega
            · have hqz : ¬ (q : Int) < (m : Int) := by omega
              go_wp2_with fail
              go_roundg (len0 - (k + 1))
              case rel => exact ⟨k + 1, by omega, rfl, by go_num, hs⟩
              case measure => omega
        · obtain rfl : m = len0 := by omega
          go_wp2_with fail
          go_quiet ((go_at_call 14; exact quiet_same (congrArg Value.bool hi) (isInitiator_any _ _)))
          go_wp2_with fail
          go_roundg (m - (k + 1))
          case rel => exact ⟨k + 1, by omega, rfl, by go_num, since_drewN hs nq⟩
          case measure => omega
      · have hi' : iniB (x k) = false := by simpa using hi
        have hmtq : mt (iniN x) (pdiN x) len0 k = -1 := mt_not (ini := iniN x) hi'
        rw [hmtq] at hce
        clear hmtq hi
        by_cases hb : bg (iniN x) (pdiN x) len0 len0 k < 0
        · obtain ⟨bb, hbb⟩ : ∃ bb, bb = bg (iniN x) (pdiN x) len0 len0 k := ⟨_, rfl⟩
          rw [← hbb] at hb hcb
          clear hbb
          have hb' : decide (0 ≤ bb) = false := decide_eq_false (by omega)
          by_cases hp3 : x k = 22
          · rw [hp3] at hc
            have hi2 : iniB 22 = false := rfl
            clear hi'
            go_wp2_with fail
            go_quiet ((go_at_call 14; exact quiet_same (congrArg Value.bool hi2) (isInitiator_any _ _)))
            go_wp2_with fail
            go_roundg (len0 - (k + 1))
            case rel => exact ⟨k + 1, by omega, rfl, by go_num, since_drewN hs nq⟩
            case measure => omega
          · have hp4 : (x k != 22) = true := by simpa using hp3
            go_wp2_with fail
            go_quiet ((go_at_call 14; exact quiet_same (congrArg Value.bool hi') (isInitiator_any _ _)))
            go_wp2_with fail
            go_roundg (len0 - (k + 1))
            case rel => exact ⟨k + 1, by omega, rfl, by go_num, since_drewN hs nq⟩
            case measure => omega
        · obtain ⟨m, h1, h2, h3, h4, h5⟩ := bg_some (Nat.le_refl _) (show 0 ≤ bg (iniN x) (pdiN x) len0 len0 k by omega)
          have hp3 : x k = 22 := by
            have := mat_pdi (ini := iniN x) (pdi := pdiN x) h1 (by omega)
            rw [h3] at this; simpa [pdiN] using this
          rw [hp3] at hc
          rw [h5] at hcb
          have hcm := ((hs1'.since hs).get h1).2
          have hme : mt (iniN x) (pdiN x) len0 m = (k : Int) := by rw [mt_ini h2, h3]
          rw [hme] at hcm
          have hi2 : iniB 22 = false := rfl
          have hmz : (m : Int) < (len0 : Int) := by omega
          clear hi' hb h2 h3 h5 hme hp3
          go_wp2_with fail
          go_quiet ((go_at_call 14; exact quiet_same (congrArg Value.bool hi2) (isInitiator_any _ _)))
          go_wp2_with fail
          go_roundg (len0 - (k + 1))
          case rel => exact ⟨k + 1, by omega, rfl, by go_num, since_drewN hs nq⟩
          case measure => omega
    · obtain rfl : k = len0 := by omega
      go_wp2_with fail
      go_ret
      exact ⟨rfl, below_of_since (since2 hsi1 hs)⟩

/-! ### THE ROW's STEP -/
set_option maxRecDepth 100000 in
theorem contract (H : Type) (enc : TypeId × Value → H) (W : World) (base : Nat) (args : Array Value) (ds gs : List (DataW H)) (before : List MemPlace)
    (hval : ∀ (j : Nat) t v, Tryd.f4.params[j]? = some t → args[j]? = some v → Value.okWide Tryd.prog W .any base t v)
    (hW : DataW.Whole enc Tryd.prog Tryd.f4.params.toList Rows.fnIsolatesMatchSpec.vars false W args.toList ds gs before) (hL : laidMetH Tryd.prog Rows.fnIsolatesMatchRow.laid W) :
    Calls Tryd.prog 4 args W fun e W' => ∃ v, e = .returned v ∧ Rows.fnIsolatesMatchSpec.post enc Tryd.prog Tryd.f4 false true false false W args v W' := by
  have hW' := hW
  obtain ⟨p, q, hA0, hV, rfl, hfz, hnd⟩ := hW
  have hA : DataW.TrodAll enc Tryd.prog W 0 (fun _ => true) true Tryd.f4.params.toList args.toList ds p := hA0
  rw [Tryd.params4] at hA hval
  obtain ⟨v0, vs0, d0, ds0, p0, q0, hargs, rfl, rfl, h0, r0⟩ := trodAll_cons hA
  obtain ⟨rfl, rfl, rfl⟩ := trodAll_nil r0
  obtain rfl : args = #[v0] := by cases args; simp_all
  obtain ⟨a0, len0, cap0, rfl⟩ := okWide_slice Tryd.underlying22 (hval 0 22 v0 rfl rfl)
  have k0 := h0
  have lt0 : ∀ x ∈ p0, x.block < W.heap.size := by obtain ⟨m, hm⟩ := k0; exact DataW.trod_lt m _ _ _ hm
  obtain ⟨z0, w0⟩ : ∃ zs, IsRow .i64 W a0 len0 cap0 zs := by
    obtain ⟨fuel, hf⟩ := h0
    rcases open_ints Tryd.underlying22 Tryd.underlying3 (by kernel_rfl) hf with ⟨hcs, _⟩ | ⟨x, l, c, zs, hcs, _, hl, hm, hz, _, hcell, hwz⟩
    · simp [Value.cells] at hcs
      obtain ⟨rfl, rfl, rfl⟩ := hcs
      exact ⟨[], .inl ⟨rfl, rfl, rfl, rfl⟩⟩
    · simp [Value.cells] at hcs
      obtain ⟨rfl, rfl, rfl⟩ := hcs
      exact ⟨zs, .inr ⟨_, rfl, hl, hm, by simpa using hz, hcell, hwz⟩⟩
  obtain ⟨g, tv, cs, fuel, dv, pv, rfl, hg1, hg2, hg3, hg4, rfl⟩ := trodVars_one hV
  obtain rfl : g = 0 := Option.some.inj (hg1.symm.trans gTab)
  obtain rfl : tv = 63 := Option.some.inj (hg2.symm.trans gTabType)
  have ltv : ∀ x ∈ pv, x.block < W.heap.size := DataW.trod_lt fuel _ _ _ hg4
  have hT := tab hL
  clear hA0
  refine (walk a0 len0 cap0 z0 W w0 hT).mono fun e W' ⟨he, bel⟩ => ?_
  subst he
  have hg4' := DataW.trod_stays (sp' := fun b => decide (b < W.heap.size)) (w' := W') (kids_book laidOut (by kernel_rfl)) (book_sized (by kernel_rfl)) (fun h => by cases h) ⟨of_decide_eq_true (by kernel_rfl), book_self 63⟩ hg4 (fun x hx => bel.same (ltv x hx)) (fun x hx => by simpa using ltv x hx)
  exact ⟨_, rfl, _, _, _, [], _, _, hW', trodAll_mk1 (shut_bool Tryd.underlying4 _), (trodAll_cons_mk (Below.trod laidOut (by kernel_rfl) (of_decide_eq_true (by kernel_rfl)) k0 bel lt0) trodAll_mk0), trodVars_mk1 hg1 hg2 (var?_below bel hg1 hT.lt hg3) hg4', bel.frame _, fun h => by cases h⟩

/-- A world for the witness: the table holding what its initialiser lays. -/
noncomputable def laidWorld (os : Os) : World :=
  { World.holding Tryd.prog os ⟨#[], #[], []⟩ with heap := (World.holding Tryd.prog os ⟨#[], #[], []⟩).heap.modify 0 fun
      | .cells _ t frozen => .cells (tabZ.map fun z => Value.int .u64 z).toArray t frozen
      | o => o }
theorem laid_met (os : Os) : laidMet Tryd.prog Rows.fnIsolatesMatchRow.laid ((laidWorld os).forCall (fun _ _ => 0) ⟨#[], #[.slice none 0 0], []⟩).memory :=
  laidMet_of_run' 8 (by kernel_rfl) (by kernel_rfl)
theorem reads (os : Os) {H : Type} (enc : TypeId × Value → H) : ∃ places, DataW.whole enc Tryd.prog ((laidWorld os).forCall (fun _ _ => 0) ⟨#[], #[.slice none 0 0], []⟩).memory Tryd.f4.params.toList Rows.fnIsolatesMatchSpec.vars false (#[.slice none 0 0] : Array Value).toList 8 = some ([.nil], [Rows.laid_loop_example_pub_g01449_impl_classes], places) :=
  ⟨MemPlace.row ⟨0, 0, none⟩ 23, by kernel_rfl⟩

set_option maxRecDepth 100000 in
theorem lifted (os : Os) (started : os.Started) (H : Type) (enc : TypeId × Value → H) (F : Stop.Interp) :
    ReturnsInHanded {} Tryd.checked os 4 .any ((OpenSpec.ofChange Rows.fnIsolatesMatchSpec).preRow enc Tryd.prog Tryd.f4 Rows.fnIsolatesMatchRow.domain false Rows.fnIsolatesMatchRow.laid) (((OpenSpec.ofChange Rows.fnIsolatesMatchSpec).at F).post enc Tryd.prog Tryd.f4 false true false false) := by
  obtain ⟨places, hx⟩ := reads os enc
  refine returnsInHanded_of_row (C := Tryd.checked) (s := OpenSpec.ofChange Rows.fnIsolatesMatchSpec) own started (by kernel_rfl) Tryd.func4
    (witness_row_at (enc := enc) (C := Tryd.checked) false (laidWorld os) #[.slice none 0 0] rfl (by kernel_rfl) (by kernel_rfl) (by kernel_rfl)
      (OpenSpec.preRow_of_cond 8 hx (by kernel_rfl) (fun k hk => by cases hk) (by kernel_rfl) (laid_met os))) ?_
  intro W base args ds gs before hval hW _ _ _ hL _ _
  exact contract H enc W base args ds gs before hval hW hL

theorem said : Rows.FnIsolatesMatchSaid :=
  OpenClaim.holds_of_cond 4 Tryd.f4 rfl rfl rfl rfl rfl rfl rfl ⟨rfl, rfl, rfl, rfl, rfl⟩ rfl rfl rfl rfl rfl (by kernel_rfl) Tryd.func4 (by kernel_rfl)
    (of_decide_eq_true (by kernel_rfl)) (by unfold Func.isWrapper; first | (rw [if_pos (by decide +kernel)]; kernel_rfl) | (rw [if_neg (by decide +kernel)]; exact ⟨rfl, rfl⟩))
    (fun os started H enc _ F => by rw [OpenClaim.pre_eq_preRow]; exact lifted os started H enc F)

theorem plain (f : FuncId) (fn : Func) (hf : Tryd.pinned.checked.prog.funcNamed Rows.fnIsolatesMatchRow.func = some f) (hfn : Tryd.pinned.checked.prog.funcs[f]? = some fn) :
    false = Tryd.pinned.checked.prog.looks [] ∧ ∀ (j : Nat) t, fn.params[j]? = some t → Tryd.pinned.checked.prog.wantsStandIn t = false := by
  obtain rfl : f = 4 := Option.some.inj ((show Tryd.prog.funcNamed Rows.fnIsolatesMatchRow.func = some 4 by kernel_rfl).symm.trans hf) |>.symm
  obtain rfl : fn = Tryd.f4 := (Option.some.inj (Tryd.func4.symm.trans hfn)).symm
  refine ⟨by kernel_rfl, fun j t ht => ?_⟩
  rw [Tryd.params4] at ht
  obtain rfl : t = 22 := by simpa using Array.mem_of_getElem? ht
  exact (show Tryd.prog.wantsStandIn 22 = false by kernel_rfl)

/-- THE CARD. -/
theorem proved : Rows.FnIsolatesMatchCardSaid :=
  Claim7.holds_tied_plain_at .later [] _ _ _ _ said (fun _ h => by cases h) (by kernel_rfl) (fun _ h => by cases h) fnIsolatesMatch_row_tie rfl ⟨rfl, rfl⟩ (by kernel_rfl) rfl plain (by kernel_rfl)
#print axioms proved
end Go.Proofs.YtckffgcmeajbdaaDoor.fnIsolatesMatch
