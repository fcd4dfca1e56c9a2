/- The law FnLevelRunsAnswer, its tied card: for every input the call returns true, and each argument and the table of classes read afterwards as before. The row's one condition, that the table starts as the program's text lays it, is tied to the text by the given tie. -/
import Derived.Test.YtjelgbfgciaapaaDoorCards
import Derived.Test.YtjelgbfgciaapaaDoorTie
import Derived.Test.YtjelgbfgciaapaaDoorLawX
import Derived.Test.YtjelgbfgciaapaaDoorRunsL
import Derived.Test.YtjelgbfgciaapaaDoorRunsS
import Derived.WalkKit
import Derived.ProofKit
import Derived.OpenShut
import Derived.ShutString
import Derived.ChangeOld
import Derived.ChangeVars
import Derived.WalkSmall
import Derived.Below
import Derived.Deep.DeepHandedRow
import Derived.Lib.LaidTab
namespace Go.Proofs.YtjelgbfgciaapaaDoor.fnLevelRunsAnswer
open Go.ChangeShapes Go.WideShapes Go.ChangeAt Go.RowKit
open Go.ChangeMaps (open_string shut_string)
set_option linter.unusedVariables false

theorem own : ownKnob Tryd.prog.godebug = none := by kernel_rfl
theorem laidOut : laidOutB Tryd.prog = true := by kernel_rfl
/-- The table's name. -/
def tabName : String := Rows.fnLevelRunsAnswerSpec.vars.headD ""
theorem gTab : Tryd.prog.globalNamed tabName = some 0 := by kernel_rfl
theorem gTabType : (Tryd.prog.globals[0]?).map (·.type) = some 88 := by kernel_rfl
theorem cellsT : Tryd.prog.cellsOf 88 = 23 := by kernel_rfl
theorem cellsC : Tryd.prog.cellsOf 67 = 1 := by kernel_rfl
def tabZ : List Int := [0, 1, 2, 3, 4, 5, 6, 7, 8, 9, 10, 11, 12, 13, 16, 17, 18, 19, 20, 21, 22, 23, 24]

/-- What the row's list gives. -/
theorem table {W : World} (h : laidMetH Tryd.prog Rows.fnLevelRunsAnswerRow.laid W) : Lib.TabIs Tryd.prog W tabName .u64 tabZ :=
  Lib.tabIs_of_head (rest := []) gTab gTabType Tryd.underlying88 Tryd.underlying67 cellsC cellsT h
theorem tab {W : World} (h : laidMetH Tryd.prog Rows.fnLevelRunsAnswerRow.laid W) : Tab W := fun i hi => by
  have h1 := (table h).cell gTab i (by simpa [tabZ] using hi)
  rw [h1]
  congr 2
  have : ∀ j : Fin 23, tabZ.getD j.val 0 = cls (j.val : Int) := by decide
  exact this ⟨i, hi⟩

/-- What the walk is told of a slice of integers that came in. -/
def IsRow (k : IntKind) (w : World) (a : Option Addr) (len cap : Nat) (zs : List Int) : Prop :=
  (a = none ∧ len = 0 ∧ cap = 0 ∧ zs = []) ∨
  ∃ x, a = some x ∧ len ≤ cap ∧ cap ≤ maxLen ∧ zs.length = cap ∧ (∀ i, i < zs.length → w.cell? (x.add i) = some (.int k (zs.getD i 0))) ∧ ∀ n ∈ zs, (Lit.int k n).wf = true

set_option maxHeartbeats 4000000 in
set_option maxRecDepth 100000 in
theorem walk (a0 : Option Addr) (len0 cap0 : Nat) (z0 : List Int) (a1 : Int) (w : World) (w0 : IsRow .i64 w a0 len0 cap0 z0) (w1 : (Lit.int .i64 a1).wf = true) (ht : Tab w) :
    Calls Tryd.prog 6 #[.slice a0 len0 cap0, .int .i64 a1] w fun e w' => e = .returned (.bool true) ∧ Below w.heap.size w w' := by
  obtain ⟨b0, o0, hx0⟩ := sees_of_row w0
  obtain ⟨x, hx⟩ : ∃ x : Nat → Int, Sees w a0 b0 o0 len0 cap0 (fun i => .int .i64 (x i)) := ⟨_, hx0⟩
  clear hx0 w0 w1
  by_cases hn : len0 ≤ 2147483647
  case neg =>
    have hb : (2147483647 : Int) < (len0 : Int) := by omega
    go_enter Tryd.func6, Tryd.ntmps6
    go_wp2_with fail
    go_ret
    exact ⟨rfl, Below.refl _ _⟩
  by_cases hp : paraB len0 x = true
  case neg =>
    have hp' : paraB len0 x = false := by simpa using hp
    clear hp
    go_enter Tryd.func6, Tryd.ntmps6
    go_wp2_with fail
    refine (isParagraph_any _ (by omega) hx).mono ?_
    rintro e w1 ⟨rfl, rfl⟩
    rw [hp']
    go_wp2_with fail
    go_ret
    exact ⟨rfl, Below.refl _ _⟩
  have hpp := (of_decide_eq_true hp : 0 < len0 ∧ ∀ i, i < len0 → 0 ≤ x i ∧ x i < 23 ∧ (x i = 7 → len0 ≤ i + 1))
  have hpos := hpp.1
  have HOK := Lib.hid (show ∀ i, i < len0 → clsOk (x i) from fun i hi => ⟨(hpp.2 i hi).1, (hpp.2 i hi).2.1⟩)
  have HB := Lib.hid (show ∀ i, i < len0 → x i = 7 → len0 ≤ i + 1 from fun i hi => (hpp.2 i hi).2.2)
  have HPA := Lib.hid hp
  clear hpp hp
  by_cases hbs : baseB a1 = true
  case neg =>
    have hbs' : baseB a1 = false := by simpa using hbs
    have HBS := Lib.hid hbs'
    clear hbs hbs'
    go_enter Tryd.func6, Tryd.ntmps6
    go_wp2_with fail
    refine (isParagraph_any _ (by omega) hx).mono ?_
    rintro e w1 ⟨rfl, rfl⟩
    rw [HPA.out]
    go_wp2_with fail
    refine (isBase_any _ _).mono ?_
    rintro e w1 ⟨rfl, rfl⟩
    rw [HBS.out]
    go_wp2_with fail
    go_ret
    exact ⟨rfl, Below.refl _ _⟩
  have HBA := Lib.hid (show a1 = 0 ∨ a1 = 1 from of_decide_eq_true hbs)
  have HBS := Lib.hid hbs
  clear hbs
  go_enter Tryd.func6, Tryd.ntmps6
  go_wp2_with fail
  refine (isParagraph_any _ (by omega) hx).mono ?_
  rintro e w1 ⟨rfl, rfl⟩
  rw [HPA.out]
  go_wp2_with fail
  refine (isBase_any _ _).mono ?_
  rintro e w1 ⟨rfl, rfl⟩
  rw [HBS.out]
  go_wp2_with fail
  refine (specExplicit_any _ (by omega) hpos HBA.out HB.out hx).mono ?_
  rintro e w1 ⟨L, T, capT, rfl, hL, hT, hLT, hL0, hsi1⟩
  have ht1 := ht.since hsi1
  have hx1 := hx.since hsi1
  clear ht hx hT
  have hrl := runs_len (lvS x (fsI len0 x) a1) len0
  have HRL := Lib.hid (fun j => @runs_row_len (lvS x (fsI len0 x) a1) len0 j)
  obtain ⟨RR, hRR⟩ : ∃ RR, RR = runs (lvS x (fsI len0 x) a1) len0 := ⟨_, rfl⟩
  rw [← hRR] at hrl HRL
  have HRR := Lib.hid hRR
  clear hRR
  go_wp2_with fail
  refine (implLevelRuns_any _ ht1 (by omega) hpos HBA.out HOK.out HB.out hx1).mono ?_
  rintro e w2 ⟨v, rfl, hl, hsi2⟩
  rw [← HRR.out] at hl
  obtain ⟨ao2, c2, rfl⟩ := hl.form
  obtain ⟨_, b2, hb2, hsl⟩ := hl.sees
  have hL2 := Sees.ofRow (hL.of_block (hsi2.block _ hL.lt))
  have hsi02 := since2 hsi1 hsi2
  clear hl hL hsi1 hsi2 hx1 ht1
  go_wp2_with fail
  refine (specRuns_any _ (by omega) hL2 (fun i _ => lvS_range HBA.out i)).mono ?_
  rintro e w3 ⟨v3, rfl, hl3, hsi3⟩
  rw [← HRR.out] at hl3
  obtain ⟨ao3, c3, rfl⟩ := hl3.form
  obtain ⟨_, b3, hb3, hsl3⟩ := hl3.sees
  have hslx := hsl.since hsi3
  clear hl3 hsl hL2
  go_wp2_with fail
  refine (sameLists_any _ (by omega) (fun j hj => by have := HRL.out j hj; omega) hslx hsl3).mono ?_
  rintro e w4 ⟨rfl, hsi4⟩
  go_wp2_with fail
  go_ret
  exact ⟨rfl, below_of_since (since2 hsi02 (since2 hsi3 hsi4))⟩

/-! ### THE ROW's STEP -/
set_option maxRecDepth 100000 in
theorem contract (H : Type) (enc : TypeId × Value → H) (W : World) (base : Nat) (args : Array Value) (ds gs : List (DataW H)) (before : List MemPlace)
    (hval : ∀ (j : Nat) t v, Tryd.f6.params[j]? = some t → args[j]? = some v → Value.okWide Tryd.prog W .any base t v)
    (hW : DataW.Whole enc Tryd.prog Tryd.f6.params.toList Rows.fnLevelRunsAnswerSpec.vars false W args.toList ds gs before) (hL : laidMetH Tryd.prog Rows.fnLevelRunsAnswerRow.laid W) :
    Calls Tryd.prog 6 args W fun e W' => ∃ v, e = .returned v ∧ Rows.fnLevelRunsAnswerSpec.post enc Tryd.prog Tryd.f6 false true false false W args v W' := by
  have hW' := hW
  obtain ⟨p, q, hA0, hV, rfl, hfz, hnd⟩ := hW
  have hA : DataW.TrodAll enc Tryd.prog W 0 (fun _ => true) true Tryd.f6.params.toList args.toList ds p := hA0
  rw [Tryd.params6] at hA hval
  obtain ⟨v0, vs0, d0, ds0, p0, q0, hargs, rfl, rfl, h0, r0⟩ := trodAll_cons hA
  obtain ⟨v1, vs1, d1, ds1, p1, q1, rfl, rfl, rfl, h1, r1⟩ := trodAll_cons r0
  obtain ⟨rfl, rfl, rfl⟩ := trodAll_nil r1
  obtain rfl : args = #[v0, v1] := by cases args; simp_all
  obtain ⟨a0, len0, cap0, rfl⟩ := okWide_slice Tryd.underlying22 (hval 0 22 v0 rfl rfl)
  have k0 := h0
  have lt0 : ∀ x ∈ p0, x.block < W.heap.size := by obtain ⟨m, hm⟩ := k0; exact DataW.trod_lt m _ _ _ hm
  obtain ⟨z0, w0⟩ : ∃ zs, IsRow .i64 W a0 len0 cap0 zs := by
    obtain ⟨fuel, hf⟩ := h0
    rcases open_ints Tryd.underlying22 Tryd.underlying3 (by kernel_rfl) hf with ⟨hcs, _⟩ | ⟨x, l, c, zs, hcs, _, hl, hm, hz, _, hcell, hwz⟩
    · simp [Value.cells] at hcs
      obtain ⟨rfl, rfl, rfl⟩ := hcs
      exact ⟨[], .inl ⟨rfl, rfl, rfl, rfl⟩⟩
    · simp [Value.cells] at hcs
      obtain ⟨rfl, rfl, rfl⟩ := hcs
      exact ⟨zs, .inr ⟨_, rfl, hl, hm, by simpa using hz, hcell, hwz⟩⟩
  obtain ⟨a1, rfl, rfl, rfl, w1⟩ := open_int Tryd.underlying3 (hval 1 3 v1 rfl rfl) h1
  obtain ⟨g, tv, cs, fuel, dv, pv, rfl, hg1, hg2, hg3, hg4, rfl⟩ := trodVars_one hV
  obtain rfl : g = 0 := Option.some.inj (hg1.symm.trans gTab)
  obtain rfl : tv = 88 := Option.some.inj (hg2.symm.trans gTabType)
  have ltv : ∀ x ∈ pv, x.block < W.heap.size := DataW.trod_lt fuel _ _ _ hg4
  have hT := tab hL
  clear hA0
  refine (walk a0 len0 cap0 z0 a1 W w0 w1 hT).mono fun e W' ⟨he, bel⟩ => ?_
  subst he
  have hg4' := DataW.trod_stays (sp' := fun b => decide (b < W.heap.size)) (w' := W') (kids_book laidOut (by kernel_rfl)) (book_sized (by kernel_rfl)) (fun h => by cases h) ⟨of_decide_eq_true (by kernel_rfl), book_self 88⟩ hg4 (fun x hx => bel.same (ltv x hx)) (fun x hx => by simpa using ltv x hx)
  exact ⟨_, rfl, _, _, _, [], _, _, hW', trodAll_mk1 (shut_bool Tryd.underlying4 _), (trodAll_cons_mk (Below.trod laidOut (by kernel_rfl) (of_decide_eq_true (by kernel_rfl)) k0 bel lt0) (trodAll_cons_mk (shut_int Tryd.underlying3 w1) trodAll_mk0)), trodVars_mk1 hg1 hg2 (var?_below bel hg1 hT.lt hg3) hg4', bel.frame _, fun h => by cases h⟩

/-- A world for the witness: the table holding what its initialiser lays. -/
noncomputable def laidWorld (os : Os) : World :=
  { World.holding Tryd.prog os ⟨#[], #[], []⟩ with heap := (World.holding Tryd.prog os ⟨#[], #[], []⟩).heap.modify 0 fun
      | .cells _ t frozen => .cells (tabZ.map fun z => Value.int .u64 z).toArray t frozen
      | o => o }
theorem laid_met (os : Os) : laidMet Tryd.prog Rows.fnLevelRunsAnswerRow.laid ((laidWorld os).forCall (fun _ _ => 0) ⟨#[], #[.slice none 0 0, .int .i64 0], []⟩).memory :=
  laidMet_of_run' 8 (by kernel_rfl) (by kernel_rfl)
theorem reads (os : Os) {H : Type} (enc : TypeId × Value → H) : ∃ places, DataW.whole enc Tryd.prog ((laidWorld os).forCall (fun _ _ => 0) ⟨#[], #[.slice none 0 0, .int .i64 0], []⟩).memory Tryd.f6.params.toList Rows.fnLevelRunsAnswerSpec.vars false (#[.slice none 0 0, .int .i64 0] : Array Value).toList 8 = some ([.nil, .lit (.int .i64 0)], [Rows.laid_loop_example_pub_g01449_impl_classes], places) :=
  ⟨MemPlace.row ⟨0, 0, none⟩ 23, by kernel_rfl⟩

set_option maxRecDepth 100000 in
theorem lifted (os : Os) (started : os.Started) (H : Type) (enc : TypeId × Value → H) (F : Stop.Interp) :
    ReturnsInHanded {} Tryd.checked os 6 .any ((OpenSpec.ofChange Rows.fnLevelRunsAnswerSpec).preRow enc Tryd.prog Tryd.f6 Rows.fnLevelRunsAnswerRow.domain false Rows.fnLevelRunsAnswerRow.laid) (((OpenSpec.ofChange Rows.fnLevelRunsAnswerSpec).at F).post enc Tryd.prog Tryd.f6 false true false false) := by
  obtain ⟨places, hx⟩ := reads os enc
  refine returnsInHanded_of_row (C := Tryd.checked) (s := OpenSpec.ofChange Rows.fnLevelRunsAnswerSpec) own started (by kernel_rfl) Tryd.func6
    (witness_row_at (enc := enc) (C := Tryd.checked) false (laidWorld os) #[.slice none 0 0, .int .i64 0] rfl (by kernel_rfl) (by kernel_rfl) (by kernel_rfl)
      (OpenSpec.preRow_of_cond 8 hx (by kernel_rfl) (fun k hk => by cases hk) (by kernel_rfl) (laid_met os))) ?_
  intro W base args ds gs before hval hW _ _ _ hL _ _
  exact contract H enc W base args ds gs before hval hW hL

theorem said : Rows.FnLevelRunsAnswerSaid :=
  OpenClaim.holds_of_cond 6 Tryd.f6 rfl rfl rfl rfl rfl rfl rfl ⟨rfl, rfl, rfl, rfl, rfl⟩ rfl rfl rfl rfl rfl (by kernel_rfl) Tryd.func6 (by kernel_rfl)
    (of_decide_eq_true (by kernel_rfl)) (by unfold Func.isWrapper; first | (rw [if_pos (by decide +kernel)]; kernel_rfl) | (rw [if_neg (by decide +kernel)]; exact ⟨rfl, rfl⟩))
    (fun os started H enc _ F => by rw [OpenClaim.pre_eq_preRow]; exact lifted os started H enc F)

theorem plain (f : FuncId) (fn : Func) (hf : Tryd.pinned.checked.prog.funcNamed Rows.fnLevelRunsAnswerRow.func = some f) (hfn : Tryd.pinned.checked.prog.funcs[f]? = some fn) :
    false = Tryd.pinned.checked.prog.looks [] ∧ ∀ (j : Nat) t, fn.params[j]? = some t → Tryd.pinned.checked.prog.wantsStandIn t = false := by
  obtain rfl : f = 6 := Option.some.inj ((show Tryd.prog.funcNamed Rows.fnLevelRunsAnswerRow.func = some 6 by kernel_rfl).symm.trans hf) |>.symm
  obtain rfl : fn = Tryd.f6 := (Option.some.inj (Tryd.func6.symm.trans hfn)).symm
  refine ⟨by kernel_rfl, fun j t ht => ?_⟩
  rw [Tryd.params6] at ht
  have ht2 : t = 22 ∨ t = 3 := by simpa using Array.mem_of_getElem? ht
  rcases ht2 with rfl | rfl
  · exact (show Tryd.prog.wantsStandIn 22 = false by kernel_rfl)
  · exact (show Tryd.prog.wantsStandIn 3 = false by kernel_rfl)

/-- THE CARD. -/
theorem proved : Rows.FnLevelRunsAnswerCardSaid :=
  Claim7.holds_tied_plain_at .later [] _ _ _ _ said (fun _ h => by cases h) (by kernel_rfl) (fun _ h => by cases h) fnLevelRunsAnswer_row_tie rfl ⟨rfl, rfl⟩ (by kernel_rfl) rfl plain (by kernel_rfl)
#print axioms proved
end Go.Proofs.YtjelgbfgciaapaaDoor.fnLevelRunsAnswer
