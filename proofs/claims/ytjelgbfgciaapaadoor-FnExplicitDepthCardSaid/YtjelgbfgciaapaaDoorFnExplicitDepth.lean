/- The law FnExplicitDepth, its tied card: for every input the call returns true, and each argument and the table of classes read afterwards as before. The row's one condition, that the table starts as the program's text lays it, is tied to the text by the given tie. -/
import Derived.Test.YtjelgbfgciaapaaDoorCards
import Derived.Test.YtjelgbfgciaapaaDoorTie
import Derived.Test.YtjelgbfgciaapaaDoorLawX
import Derived.WalkKit
import Derived.ProofKit
import Derived.OpenShut
import Derived.ShutString
import Derived.ChangeOld
import Derived.ChangeVars
import Derived.WalkSmall
import Derived.Below
import Derived.Deep.DeepHandedRow
import Derived.Lib.LaidTab
namespace Go.Proofs.YtjelgbfgciaapaaDoor.fnExplicitDepth
open Go.ChangeShapes Go.WideShapes Go.ChangeAt Go.RowKit
open Go.ChangeMaps (open_string shut_string)
set_option linter.unusedVariables false

theorem own : ownKnob Tryd.prog.godebug = none := by kernel_rfl
theorem laidOut : laidOutB Tryd.prog = true := by kernel_rfl
/-- The table's name. -/
def tabName : String := Rows.fnExplicitDepthSpec.vars.headD ""
theorem gTab : Tryd.prog.globalNamed tabName = some 0 := by kernel_rfl
theorem gTabType : (Tryd.prog.globals[0]?).map (·.type) = some 88 := by kernel_rfl
theorem cellsT : Tryd.prog.cellsOf 88 = 23 := by kernel_rfl
theorem cellsC : Tryd.prog.cellsOf 67 = 1 := by kernel_rfl
def tabZ : List Int := [0, 1, 2, 3, 4, 5, 6, 7, 8, 9, 10, 11, 12, 13, 16, 17, 18, 19, 20, 21, 22, 23, 24]

/-- What the row's list gives. -/
theorem table {W : World} (h : laidMetH Tryd.prog Rows.fnExplicitDepthRow.laid W) : Lib.TabIs Tryd.prog W tabName .u64 tabZ :=
  Lib.tabIs_of_head (rest := []) gTab gTabType Tryd.underlying88 Tryd.underlying67 cellsC cellsT h
theorem tab {W : World} (h : laidMetH Tryd.prog Rows.fnExplicitDepthRow.laid W) : Tab W := fun i hi => by
  have h1 := (table h).cell gTab i (by simpa [tabZ] using hi)
  rw [h1]
  congr 2
  have : ∀ j : Fin 23, tabZ.getD j.val 0 = cls (j.val : Int) := by decide
  exact this ⟨i, hi⟩

/-- What the walk is told of a slice of integers that came in. -/
def IsRow (k : IntKind) (w : World) (a : Option Addr) (len cap : Nat) (zs : List Int) : Prop :=
  (a = none ∧ len = 0 ∧ cap = 0 ∧ zs = []) ∨
  ∃ x, a = some x ∧ len ≤ cap ∧ cap ≤ maxLen ∧ zs.length = cap ∧ (∀ i, i < zs.length → w.cell? (x.add i) = some (.int k (zs.getD i 0))) ∧ ∀ n ∈ zs, (Lit.int k n).wf = true

set_option maxHeartbeats 4000000 in
set_option maxRecDepth 100000 in
theorem walk (a0 : Option Addr) (len0 cap0 : Nat) (z0 : List Int) (a1 : Int) (w : World) (w0 : IsRow .i64 w a0 len0 cap0 z0) (w1 : (Lit.int .i64 a1).wf = true) (ht : Tab w) :
    Calls Tryd.prog 4 #[.slice a0 len0 cap0, .int .i64 a1] w fun e w' => e = .returned (.bool true) ∧ Below w.heap.size w w' := by
  obtain ⟨b0, o0, hx0⟩ := sees_of_row w0
  obtain ⟨x, hx⟩ : ∃ x : Nat → Int, Sees w a0 b0 o0 len0 cap0 (fun i => .int .i64 (x i)) := ⟨_, hx0⟩
  clear hx0 w0 w1
  by_cases hn : len0 ≤ 2147483647
  case neg =>
    have hb : (2147483647 : Int) < (len0 : Int) := by omega
    go_enter Tryd.func4, Tryd.ntmps4
    go_wp2_with fail
    go_ret
    exact ⟨rfl, Below.refl _ _⟩
  by_cases hp : paraB len0 x = true
  case neg =>
    have hp' : paraB len0 x = false := by simpa using hp
    clear hp
    go_enter Tryd.func4, Tryd.ntmps4
    go_wp2_with fail
    refine (isParagraph_any _ (by omega) hx).mono ?_
    rintro e w1 ⟨rfl, rfl⟩
    rw [hp']
    go_wp2_with fail
    go_ret
    exact ⟨rfl, Below.refl _ _⟩
  have hpp := (of_decide_eq_true hp : 0 < len0 ∧ ∀ i, i < len0 → 0 ≤ x i ∧ x i < 23 ∧ (x i = 7 → len0 ≤ i + 1))
  have hpos := hpp.1
  have HOK := Lib.hid (show ∀ i, i < len0 → clsOk (x i) from fun i hi => ⟨(hpp.2 i hi).1, (hpp.2 i hi).2.1⟩)
  have HB := Lib.hid (show ∀ i, i < len0 → x i = 7 → len0 ≤ i + 1 from fun i hi => (hpp.2 i hi).2.2)
  have HPA := Lib.hid hp
  clear hpp hp
  by_cases hbs : baseB a1 = true
  case neg =>
    have hbs' : baseB a1 = false := by simpa using hbs
    have HBS := Lib.hid hbs'
    clear hbs hbs'
    go_enter Tryd.func4, Tryd.ntmps4
    go_wp2_with fail
    refine (isParagraph_any _ (by omega) hx).mono ?_
    rintro e w1 ⟨rfl, rfl⟩
    rw [HPA.out]
    go_wp2_with fail
    refine (isBase_any _ _).mono ?_
    rintro e w1 ⟨rfl, rfl⟩
    rw [HBS.out]
    go_wp2_with fail
    go_ret
    exact ⟨rfl, Below.refl _ _⟩
  have HBA := Lib.hid (show a1 = 0 ∨ a1 = 1 from of_decide_eq_true hbs)
  have HBS := Lib.hid hbs
  clear hbs
  go_enter Tryd.func4, Tryd.ntmps4
  go_wp2_with fail
  refine (isParagraph_any _ (by omega) hx).mono ?_
  rintro e w1 ⟨rfl, rfl⟩
  rw [HPA.out]
  go_wp2_with fail
  refine (isBase_any _ _).mono ?_
  rintro e w1 ⟨rfl, rfl⟩
  rw [HBS.out]
  go_wp2_with fail
  refine (implExplicit_any _ ht (by omega) hpos HBA.out HOK.out HB.out hx).mono ?_
  rintro e w2 ⟨cl, hcl, a3, b3, o3, c3, a4, b4, o4, c4, rfl, hs3, hs4, hb3, hb4, hsi2⟩
  have HCL := Lib.hid hcl
  have hx2 := hx.since hsi2
  clear hcl ht hx hs3
  go_wp2_with fail
  go_loopg [7, 8, 9, 10, 36] len0 (fun g lst fre _ _ i wr => ∃ (k : Nat) (l : Int) (f : Bool), k ≤ len0 ∧ g = len0 - k ∧ i = .int .i64 k ∧ lst = .int .i64 l ∧ fre = .bool f ∧ Hid (f = true → k < len0 → (mst x (fsI len0 x) a1 k).top = l) ∧ w2 = wr)
  case atStart => exact ⟨0, a1, true, by omega, rfl, rfl, rfl, rfl, fun _ _ => rfl, rfl⟩
  case round =>
    obtain ⟨k, l, f, hk, rfl, rfl, rfl, rfl, HF, rfl⟩ := hrel
    by_cases hkn : k < len0
    · have hkz : (k : Int) < (len0 : Int) := by omega
      obtain ⟨rfl, hc⟩ := hx2.get hkn
      obtain ⟨rfl, h4⟩ := hs4.get hkn
      obtain ⟨t, htk⟩ : ∃ t, t = x k := ⟨_, rfl⟩
      rw [← htk] at hc
      have HTK := Lib.hid htk
      clear htk
      go_upto_region 12 with fail
      obtain ⟨sp, hsp⟩ : ∃ sp, sp = (iniB t || (t == 22) || (t == 7) || (remN t && (t != 11))) := ⟨_, rfl⟩
      have HSP := Lib.hid hsp
      clear hsp
      go_cut [58] (fun v wx => v = .bool sp ∧ wx = w2)
      case first =>
        cases hi : iniB t with
        | true =>
          have HI := Lib.hid hi
          have HV := Lib.hid (show sp = true by rw [HSP.out, hi]; simp)
          clear hi
          go_wp2_with fail
          refine (isInitiator_any _ _).mono ?_
          rintro e w3 ⟨rfl, rfl⟩
          rw [HI.out]
          go_wp2_with fail
          go_meet
          exact ⟨by rw [HV.out], rfl⟩

        | false =>
          have HI := Lib.hid hi
          cases h2 : (t == 22) with
          | true =>
            have HV := Lib.hid (show sp = true by rw [HSP.out, h2]; simp)
            clear hi
            go_wp2_with fail
            refine (isInitiator_any _ _).mono ?_
            rintro e w3 ⟨rfl, rfl⟩
            rw [HI.out]
            go_wp2_with fail
            go_meet
            exact ⟨by rw [HV.out], rfl⟩

          | false =>
            cases h7 : (t == 7) with
            | true =>
              have HV := Lib.hid (show sp = true by rw [HSP.out, h7]; simp)
              clear hi
              go_wp2_with fail
              refine (isInitiator_any _ _).mono ?_
              rintro e w3 ⟨rfl, rfl⟩
              rw [HI.out]
              go_wp2_with fail
              go_meet
              exact ⟨by rw [HV.out], rfl⟩

            | false =>
              cases hr : remN t with
              | false =>
                have HR := Lib.hid hr
                have HV := Lib.hid (show sp = false by rw [HSP.out, hi, h2, h7, hr]; simp)
                clear hi hr
                go_wp2_with fail
                refine (isInitiator_any _ _).mono ?_
                rintro e w3 ⟨rfl, rfl⟩
                rw [HI.out]
                go_wp2_with fail
                refine (isRemoved_any _ _).mono ?_
                rintro e w3 ⟨rfl, rfl⟩
                rw [HR.out]
                go_wp2_with fail
                go_meet
                exact ⟨by rw [HV.out], rfl⟩

              | true =>
                have HR := Lib.hid hr
                cases h11 : (t != 11) with
                | true =>
                  have HV := Lib.hid (show sp = true by rw [HSP.out, hi, h2, h7, hr, h11]; simp)
                  clear hi hr
                  go_wp2_with fail
                  refine (isInitiator_any _ _).mono ?_
                  rintro e w3 ⟨rfl, rfl⟩
                  rw [HI.out]
                  go_wp2_with fail
                  refine (isRemoved_any _ _).mono ?_
                  rintro e w3 ⟨rfl, rfl⟩
                  rw [HR.out]
                  go_wp2_with fail
                  go_meet
                  exact ⟨by rw [HV.out], rfl⟩

                | false =>
                  have HV := Lib.hid (show sp = false by rw [HSP.out, hi, h2, h7, hr, h11]; simp)
                  clear hi hr
                  go_wp2_with fail
                  refine (isInitiator_any _ _).mono ?_
                  rintro e w3 ⟨rfl, rfl⟩
                  rw [HI.out]
                  go_wp2_with fail
                  refine (isRemoved_any _ _).mono ?_
                  rintro e w3 ⟨rfl, rfl⟩
                  rw [HR.out]
                  go_wp2_with fail
                  go_meet
                  exact ⟨by rw [HV.out], rfl⟩
      obtain ⟨rfl, rfl⟩ := hcut
      obtain ⟨w2, rfl⟩ : ∃ w2, w2 = wc := ⟨_, rfl⟩
      go_upto_if 58 with fail
      obtain ⟨f2, hf2⟩ : ∃ f2, f2 = (f && !sp) := ⟨_, rfl⟩
      have HF2 := Lib.hid hf2
      clear hf2
      go_cut [8] (fun v wx => v = .bool f2 ∧ wx = w2)
      case first =>
        cases hs : sp with
        | true =>
          have HX := Lib.hid (show f2 = false by rw [HF2.out, hs]; simp)
          subst hs
          go_wp2_with fail
          go_meet
          exact ⟨by rw [HX.out], rfl⟩
        | false =>
          have HX := Lib.hid (show f2 = f by rw [HF2.out, hs]; simp)
          subst hs
          go_wp2_with fail
          go_meet
          exact ⟨by rw [HX.out], rfl⟩
      obtain ⟨rfl, rfl⟩ := hcut
      obtain ⟨w2, rfl⟩ : ∃ w2, w2 = wc := ⟨_, rfl⟩
      have HST : Hid (f2 = true → (mst x (fsI len0 x) a1 (k + 1)) = mst x (fsI len0 x) a1 k ∧ (mst x (fsI len0 x) a1 k).top = l ∧ t ≠ 22 ∧ t ≠ 7) := Lib.hid (fun h => by
        have h1 : f = true ∧ sp = false := by
          rw [HF2.out] at h
          revert h
          cases f <;> cases sp <;> decide
        have h2 := h1.2
        rw [HSP.out] at h2
        simp only [Bool.or_eq_false_iff, Bool.and_eq_false_iff, beq_eq_false_iff_ne] at h2
        obtain ⟨⟨⟨q1, q2⟩, q3⟩, q4⟩ := h2
        refine ⟨?_, HF.out h1.1 hkn, q2, q3⟩
        show (mst x (fsI len0 x) a1 k).step (x k) _ = _
        refine step_other (by rw [← HTK.out]; exact q1) (by rw [← HTK.out]; exact q2) (fun hr => ?_)
        rcases q4 with q4 | q4
        · rw [← HTK.out, q4] at hr; exact absurd hr (by decide)
        · rw [← HTK.out]; simpa using q4)
      cases hr : remN t with
      | true =>
        have HR := Lib.hid hr
        clear hr
        go_wp2_with fail
        refine (isRemoved_any _ _).mono ?_
        rintro e w3 ⟨rfl, rfl⟩
        rw [HR.out]
        go_wp2_with fail
        go_roundg (len0 - (k + 1))
        case rel => exact ⟨k + 1, l, f2, by omega, rfl, by go_num, rfl, rfl, fun h _ => by rw [(HST.out h).1]; exact (HST.out h).2.1, rfl⟩
        case measure => omega
      | false =>
        have HR := Lib.hid hr
        have hlv := HCL.out k hkn (by rw [← HTK.out]; exact hr)
        have hrg := lvl_range (x := x) (fs := fsI len0 x) (base := a1) (by have := HBA.out; omega) (by have := HBA.out; omega) k
        have HLT : Hid (f2 = true → cl k = l) := Lib.hid (fun h => by
          rw [hlv]
          unfold lvl
          rw [if_neg (by rw [← HTK.out]; exact (HST.out h).2.2.1), if_neg (by rw [← HTK.out]; exact (HST.out h).2.2.2)]
          exact (HST.out h).2.1)
        have HLM : Hid (iniB t = false → (mst x (fsI len0 x) a1 (k + 1)).top = cl k ∨ t = 7) := Lib.hid (fun hi => by
          rw [hlv]
          by_cases h7 : t = 7
          · exact .inr h7
          · left
            unfold lvl
            show ((mst x (fsI len0 x) a1 k).step (x k) _).top = _
            by_cases h22 : t = 22
            · rw [if_pos (by rw [← HTK.out]; exact h22), ← HTK.out, h22, step_22]
            · rw [if_neg (by rw [← HTK.out]; exact h22), if_neg (by rw [← HTK.out]; exact h7), step_other (by rw [← HTK.out]; exact hi) (by rw [← HTK.out]; exact h22) (fun h => by rw [← HTK.out, hr] at h; exact absurd h (by decide))])
        rw [← hlv] at hrg
        obtain ⟨c, hcc⟩ : ∃ c, c = cl k := ⟨_, rfl⟩
        rw [← hcc] at h4 hrg HLT HLM
        clear hr hlv hcc
        obtain ⟨r1, r2⟩ := hrg
        have hnl : ¬ c < a1 := by omega
        have hng : ¬ 125 < c := by omega
        go_wp2_with fail
        refine (isRemoved_any _ _).mono ?_
        rintro e w3 ⟨rfl, rfl⟩
        rw [HR.out]
        go_upto_region 15 with fail
        go_cut [84] (fun v wx => v = .bool false ∧ wx = w2)
        case first =>
          cases hf : f2 with
          | true =>
            have he := HLT.out hf
            have hbe : (c != l) = false := by rw [he]; simp
            have HE := Lib.hid he
            subst hf
            clear he
            go_wp2_with fail
            go_meet
            exact ⟨by rw [decide_eq_false (show ¬ c < a1 by omega), decide_eq_false (show ¬ 125 < c by omega)]; rfl, rfl⟩
          | false =>
            subst hf
            go_wp2_with fail
            go_meet
            exact ⟨by rw [decide_eq_false (show ¬ c < a1 by omega), decide_eq_false (show ¬ 125 < c by omega)]; rfl, rfl⟩
        obtain ⟨rfl, rfl⟩ := hcut
        obtain ⟨w2, rfl⟩ : ∃ w2, w2 = wc := ⟨_, rfl⟩
        go_wp2_with fail
        refine (isInitiator_any _ _).mono ?_
        rintro e w3 ⟨rfl, rfl⟩
        have HN : Hid ((!iniB t) = true → k + 1 < len0 → (mst x (fsI len0 x) a1 (k + 1)).top = c) := Lib.hid (fun hi hlt => by
          rcases HLM.out (by simpa using hi) with h | h
          · exact h
          · have := HB.out k hkn (by rw [← HTK.out]; exact h); omega)
        obtain ⟨nb, hnb⟩ : ∃ nb, nb = !iniB t := ⟨_, rfl⟩
        rw [← hnb] at HN
        have HNB := Lib.hid hnb.symm
        clear hnb
        go_wp2_with fail
        rw [HNB.out]
        go_roundg (len0 - (k + 1))
        case rel => exact ⟨k + 1, c, nb, by omega, rfl, by go_num, rfl, rfl, HN.out, rfl⟩
        case measure => omega
    · obtain rfl : k = len0 := by omega
      go_wp2_with fail
      go_ret
      exact ⟨rfl, below_of_since hsi2⟩

/-! ### THE ROW's STEP -/
set_option maxRecDepth 100000 in
theorem contract (H : Type) (enc : TypeId × Value → H) (W : World) (base : Nat) (args : Array Value) (ds gs : List (DataW H)) (before : List MemPlace)
    (hval : ∀ (j : Nat) t v, Tryd.f4.params[j]? = some t → args[j]? = some v → Value.okWide Tryd.prog W .any base t v)
    (hW : DataW.Whole enc Tryd.prog Tryd.f4.params.toList Rows.fnExplicitDepthSpec.vars false W args.toList ds gs before) (hL : laidMetH Tryd.prog Rows.fnExplicitDepthRow.laid W) :
    Calls Tryd.prog 4 args W fun e W' => ∃ v, e = .returned v ∧ Rows.fnExplicitDepthSpec.post enc Tryd.prog Tryd.f4 false true false false W args v W' := by
  have hW' := hW
  obtain ⟨p, q, hA0, hV, rfl, hfz, hnd⟩ := hW
  have hA : DataW.TrodAll enc Tryd.prog W 0 (fun _ => true) true Tryd.f4.params.toList args.toList ds p := hA0
  rw [Tryd.params4] at hA hval
  obtain ⟨v0, vs0, d0, ds0, p0, q0, hargs, rfl, rfl, h0, r0⟩ := trodAll_cons hA
  obtain ⟨v1, vs1, d1, ds1, p1, q1, rfl, rfl, rfl, h1, r1⟩ := trodAll_cons r0
  obtain ⟨rfl, rfl, rfl⟩ := trodAll_nil r1
  obtain rfl : args = #[v0, v1] := by cases args; simp_all
  obtain ⟨a0, len0, cap0, rfl⟩ := okWide_slice Tryd.underlying22 (hval 0 22 v0 rfl rfl)
  have k0 := h0
  have lt0 : ∀ x ∈ p0, x.block < W.heap.size := by obtain ⟨m, hm⟩ := k0; exact DataW.trod_lt m _ _ _ hm
  obtain ⟨z0, w0⟩ : ∃ zs, IsRow .i64 W a0 len0 cap0 zs := by
    obtain ⟨fuel, hf⟩ := h0
    rcases open_ints Tryd.underlying22 Tryd.underlying3 (by kernel_rfl) hf with ⟨hcs, _⟩ | ⟨x, l, c, zs, hcs, _, hl, hm, hz, _, hcell, hwz⟩
    · simp [Value.cells] at hcs
      obtain ⟨rfl, rfl, rfl⟩ := hcs
      exact ⟨[], .inl ⟨rfl, rfl, rfl, rfl⟩⟩
    · simp [Value.cells] at hcs
      obtain ⟨rfl, rfl, rfl⟩ := hcs
      exact ⟨zs, .inr ⟨_, rfl, hl, hm, by simpa using hz, hcell, hwz⟩⟩
  obtain ⟨a1, rfl, rfl, rfl, w1⟩ := open_int Tryd.underlying3 (hval 1 3 v1 rfl rfl) h1
  obtain ⟨g, tv, cs, fuel, dv, pv, rfl, hg1, hg2, hg3, hg4, rfl⟩ := trodVars_one hV
  obtain rfl : g = 0 := Option.some.inj (hg1.symm.trans gTab)
  obtain rfl : tv = 88 := Option.some.inj (hg2.symm.trans gTabType)
  have ltv : ∀ x ∈ pv, x.block < W.heap.size := DataW.trod_lt fuel _ _ _ hg4
  have hT := tab hL
  clear hA0
  refine (walk a0 len0 cap0 z0 a1 W w0 w1 hT).mono fun e W' ⟨he, bel⟩ => ?_
  subst he
  have hg4' := DataW.trod_stays (sp' := fun b => decide (b < W.heap.size)) (w' := W') (kids_book laidOut (by kernel_rfl)) (book_sized (by kernel_rfl)) (fun h => by cases h) ⟨of_decide_eq_true (by kernel_rfl), book_self 88⟩ hg4 (fun x hx => bel.same (ltv x hx)) (fun x hx => by simpa using ltv x hx)
  exact ⟨_, rfl, _, _, _, [], _, _, hW', trodAll_mk1 (shut_bool Tryd.underlying4 _), (trodAll_cons_mk (Below.trod laidOut (by kernel_rfl) (of_decide_eq_true (by kernel_rfl)) k0 bel lt0) (trodAll_cons_mk (shut_int Tryd.underlying3 w1) trodAll_mk0)), trodVars_mk1 hg1 hg2 (var?_below bel hg1 hT.lt hg3) hg4', bel.frame _, fun h => by cases h⟩

/-- A world for the witness: the table holding what its initialiser lays. -/
noncomputable def laidWorld (os : Os) : World :=
  { World.holding Tryd.prog os ⟨#[], #[], []⟩ with heap := (World.holding Tryd.prog os ⟨#[], #[], []⟩).heap.modify 0 fun
      | .cells _ t frozen => .cells (tabZ.map fun z => Value.int .u64 z).toArray t frozen
      | o => o }
theorem laid_met (os : Os) : laidMet Tryd.prog Rows.fnExplicitDepthRow.laid ((laidWorld os).forCall (fun _ _ => 0) ⟨#[], #[.slice none 0 0, .int .i64 0], []⟩).memory :=
  laidMet_of_run' 8 (by kernel_rfl) (by kernel_rfl)
theorem reads (os : Os) {H : Type} (enc : TypeId × Value → H) : ∃ places, DataW.whole enc Tryd.prog ((laidWorld os).forCall (fun _ _ => 0) ⟨#[], #[.slice none 0 0, .int .i64 0], []⟩).memory Tryd.f4.params.toList Rows.fnExplicitDepthSpec.vars false (#[.slice none 0 0, .int .i64 0] : Array Value).toList 8 = some ([.nil, .lit (.int .i64 0)], [Rows.laid_loop_example_pub_g01449_impl_classes], places) :=
  ⟨MemPlace.row ⟨0, 0, none⟩ 23, by kernel_rfl⟩

set_option maxRecDepth 100000 in
theorem lifted (os : Os) (started : os.Started) (H : Type) (enc : TypeId × Value → H) (F : Stop.Interp) :
    ReturnsInHanded {} Tryd.checked os 4 .any ((OpenSpec.ofChange Rows.fnExplicitDepthSpec).preRow enc Tryd.prog Tryd.f4 Rows.fnExplicitDepthRow.domain false Rows.fnExplicitDepthRow.laid) (((OpenSpec.ofChange Rows.fnExplicitDepthSpec).at F).post enc Tryd.prog Tryd.f4 false true false false) := by
  obtain ⟨places, hx⟩ := reads os enc
  refine returnsInHanded_of_row (C := Tryd.checked) (s := OpenSpec.ofChange Rows.fnExplicitDepthSpec) own started (by kernel_rfl) Tryd.func4
    (witness_row_at (enc := enc) (C := Tryd.checked) false (laidWorld os) #[.slice none 0 0, .int .i64 0] rfl (by kernel_rfl) (by kernel_rfl) (by kernel_rfl)
      (OpenSpec.preRow_of_cond 8 hx (by kernel_rfl) (fun k hk => by cases hk) (by kernel_rfl) (laid_met os))) ?_
  intro W base args ds gs before hval hW _ _ _ hL _ _
  exact contract H enc W base args ds gs before hval hW hL

theorem said : Rows.FnExplicitDepthSaid :=
  OpenClaim.holds_of_cond 4 Tryd.f4 rfl rfl rfl rfl rfl rfl rfl ⟨rfl, rfl, rfl, rfl, rfl⟩ rfl rfl rfl rfl rfl (by kernel_rfl) Tryd.func4 (by kernel_rfl)
    (of_decide_eq_true (by kernel_rfl)) (by unfold Func.isWrapper; first | (rw [if_pos (by decide +kernel)]; kernel_rfl) | (rw [if_neg (by decide +kernel)]; exact ⟨rfl, rfl⟩))
    (fun os started H enc _ F => by rw [OpenClaim.pre_eq_preRow]; exact lifted os started H enc F)

theorem plain (f : FuncId) (fn : Func) (hf : Tryd.pinned.checked.prog.funcNamed Rows.fnExplicitDepthRow.func = some f) (hfn : Tryd.pinned.checked.prog.funcs[f]? = some fn) :
    false = Tryd.pinned.checked.prog.looks [] ∧ ∀ (j : Nat) t, fn.params[j]? = some t → Tryd.pinned.checked.prog.wantsStandIn t = false := by
  obtain rfl : f = 4 := Option.some.inj ((show Tryd.prog.funcNamed Rows.fnExplicitDepthRow.func = some 4 by kernel_rfl).symm.trans hf) |>.symm
  obtain rfl : fn = Tryd.f4 := (Option.some.inj (Tryd.func4.symm.trans hfn)).symm
  refine ⟨by kernel_rfl, fun j t ht => ?_⟩
  rw [Tryd.params4] at ht
  have ht2 : t = 22 ∨ t = 3 := by simpa using Array.mem_of_getElem? ht
  rcases ht2 with rfl | rfl
  · exact (show Tryd.prog.wantsStandIn 22 = false by kernel_rfl)
  · exact (show Tryd.prog.wantsStandIn 3 = false by kernel_rfl)

/-- THE CARD. -/
theorem proved : Rows.FnExplicitDepthCardSaid :=
  Claim7.holds_tied_plain_at .later [] _ _ _ _ said (fun _ h => by cases h) (by kernel_rfl) (fun _ h => by cases h) fnExplicitDepth_row_tie rfl ⟨rfl, rfl⟩ (by kernel_rfl) rfl plain (by kernel_rfl)
#print axioms proved
end Go.Proofs.YtjelgbfgciaapaaDoor.fnExplicitDepth
