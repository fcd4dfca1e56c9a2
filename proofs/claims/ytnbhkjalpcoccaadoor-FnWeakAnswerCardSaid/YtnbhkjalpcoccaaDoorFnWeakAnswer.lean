/- The law FnWeakAnswer, its tied card: for every input the call returns true, and each argument and the table of classes read afterwards as before. The row's one condition, that the table starts as the program's text lays it, is tied to the text by the given tie. -/
import Derived.Test.YtnbhkjalpcoccaaDoorCards
import Derived.Test.YtnbhkjalpcoccaaDoorTie
import Derived.Test.YtnbhkjalpcoccaaDoorCls
import Derived.Test.YtnbhkjalpcoccaaDoorBase
import Derived.Test.YtnbhkjalpcoccaaDoorInfo
import Derived.Test.YtnbhkjalpcoccaaDoorRet
import Derived.Test.YtnbhkjalpcoccaaDoorSame
import Derived.Test.YtnbhkjalpcoccaaDoorClsWalks
import Derived.Test.YtnbhkjalpcoccaaDoorSeq
import Derived.Test.YtnbhkjalpcoccaaDoorNeu
import Derived.Test.YtnbhkjalpcoccaaDoorNumOf
import Derived.Test.YtnbhkjalpcoccaaDoorNeuI
import Derived.Test.YtnbhkjalpcoccaaDoorNeuR
import Derived.Test.YtnbhkjalpcoccaaDoorNeuW
import Derived.Test.YtnbhkjalpcoccaaDoorNeuB
import Derived.Test.YtnbhkjalpcoccaaDoorSpecN
import Derived.Test.YtnbhkjalpcoccaaDoorWk
import Derived.Test.YtnbhkjalpcoccaaDoorWk5
import Derived.Test.YtnbhkjalpcoccaaDoorWeakW
import Derived.Test.YtnbhkjalpcoccaaDoorWeakB
import Derived.Test.YtnbhkjalpcoccaaDoorSpecW
import Derived.WalkKit
import Derived.ProofKit
import Derived.OpenShut
import Derived.ShutString
import Derived.ChangeOld
import Derived.ChangeVars
import Derived.WalkSmall
import Derived.Below
import Derived.Deep.DeepHandedRow
import Derived.Lib.LaidTab
namespace Go.Proofs.YtnbhkjalpcoccaaDoor.fnWeakAnswer
open Go.ChangeShapes Go.WideShapes Go.ChangeAt Go.RowKit
open Go.ChangeMaps (open_string shut_string)
set_option linter.unusedVariables false

theorem own : ownKnob Tryd.prog.godebug = none := by kernel_rfl
theorem laidOut : laidOutB Tryd.prog = true := by kernel_rfl
/-- The table's name. -/
def tabName : String := Rows.fnWeakAnswerSpec.vars.headD ""
theorem gTab : Tryd.prog.globalNamed tabName = some 0 := by kernel_rfl
theorem gTabType : (Tryd.prog.globals[0]?).map (·.type) = some 54 := by kernel_rfl
theorem cellsT : Tryd.prog.cellsOf 54 = 23 := by kernel_rfl
theorem cellsC : Tryd.prog.cellsOf 40 = 1 := by kernel_rfl
def tabZ : List Int := [0, 1, 2, 3, 4, 5, 6, 7, 8, 9, 10, 11, 12, 13, 16, 17, 18, 19, 20, 21, 22, 23, 24]

/-- What the row's list gives. -/
theorem table {W : World} (h : laidMetH Tryd.prog Rows.fnWeakAnswerRow.laid W) : Lib.TabIs Tryd.prog W tabName .u64 tabZ :=
  Lib.tabIs_of_head (rest := []) gTab gTabType Tryd.underlying54 Tryd.underlying40 cellsC cellsT h
theorem tab {W : World} (h : laidMetH Tryd.prog Rows.fnWeakAnswerRow.laid W) : Tab W := fun i hi => by
  have h1 := (table h).cell gTab i (by simpa [tabZ] using hi)
  rw [h1]
  congr 2
  have : ∀ j : Fin 23, tabZ.getD j.val 0 = cls (j.val : Int) := by decide
  exact this ⟨i, hi⟩

/-- What the walk is told of a slice of integers that came in. -/
def IsRow (k : IntKind) (w : World) (a : Option Addr) (len cap : Nat) (zs : List Int) : Prop :=
  (a = none ∧ len = 0 ∧ cap = 0 ∧ zs = []) ∨
  ∃ x, a = some x ∧ len ≤ cap ∧ cap ≤ maxLen ∧ zs.length = cap ∧ (∀ i, i < zs.length → w.cell? (x.add i) = some (.int k (zs.getD i 0))) ∧ ∀ n ∈ zs, (Lit.int k n).wf = true

set_option maxHeartbeats 4000000 in
set_option maxRecDepth 100000 in
theorem walk (a0 : Option Addr) (len0 cap0 : Nat) (z0 : List Int) (a1 : Int) (a2 : Int) (w : World) (w0 : IsRow .i64 w a0 len0 cap0 z0) (w1 : (Lit.int .i64 a1).wf = true) (w2 : (Lit.int .i64 a2).wf = true) (ht : Tab w) :
    Calls Tryd.prog 6 #[.slice a0 len0 cap0, .int .i64 a1, .int .i64 a2] w fun e w' => e = .returned (.bool true) ∧ Below w.heap.size w w' := by
  obtain ⟨b0, o0, hx0⟩ := sees_of_row w0
  obtain ⟨x, hx⟩ : ∃ x : Nat → Int, Sees w a0 b0 o0 len0 cap0 (fun i => .int .i64 (x i)) := ⟨_, hx0⟩
  clear hx0 w0 w1 w2
  by_cases hn : len0 ≤ 2147483647
  case neg =>
    have hb : (2147483647 : Int) < (len0 : Int) := by omega
    go_enter Tryd.func6, Tryd.ntmps6
    go_wp2_with fail
    go_ret
    exact ⟨rfl, Below.refl _ _⟩
  go_enter Tryd.func6, Tryd.ntmps6
  go_wp2_with fail
  refine (areWeak_any _ (by omega) hx).mono ?_
  rintro e w1 ⟨rfl, rfl⟩
  by_cases hall : allB ofWeak x len0 = true
  case neg =>
    have hall' : allB ofWeak x len0 = false := by simpa using hall
    rw [hall']
    clear hall hall'
    go_wp2_with fail
    go_ret
    exact ⟨rfl, Below.refl _ _⟩
  rw [hall]
  have HALL := Lib.hid hall
  clear hall
  by_cases h0 : len0 = 0
  case pos =>
    subst h0
    go_wp2_with fail
    go_ret
    exact ⟨rfl, Below.refl _ _⟩
  have hpos : 0 < len0 := by omega
  have hb0 : ((len0 : Int) == 0) = false := beq_eq_false_iff_ne.2 (by omega)
  clear h0
  go_wp2_with fail
  refine (isSide_any _ _).mono ?_
  rintro e w1 ⟨rfl, rfl⟩
  by_cases hs1 : sideB a1 = true
  case neg =>
    have hs' : sideB a1 = false := by simpa using hs1
    rw [hs']
    clear hs1 hs'
    go_wp2_with fail
    go_ret
    exact ⟨rfl, Below.refl _ _⟩
  rw [hs1]
  have HS1 := sideB_iff.1 hs1
  clear hs1
  go_wp2_with fail
  refine (isSide_any _ _).mono ?_
  rintro e w1 ⟨rfl, rfl⟩
  by_cases hs2 : sideB a2 = true
  case neg =>
    have hs' : sideB a2 = false := by simpa using hs2
    rw [hs']
    clear hs2 hs'
    go_wp2_with fail
    go_ret
    exact ⟨rfl, Below.refl _ _⟩
  rw [hs2]
  have HS2 := sideB_iff.1 hs2
  clear hs2
  go_wp2_with fail
  refine (implWeak_any _ ht (by omega) hpos HS1 HS2 (ofWeak_ok HALL.out) hx).mono ?_
  rintro e w1 ⟨⟨_, a, b, o, kk, rfl, hs1, hb1⟩ | ⟨hbad, _⟩, hsi1⟩
  case inr => exact absurd (HALL.out.symm.trans hbad) (by decide)
  have hx1 := hx.since hsi1
  clear hx ht
  go_wp2_with fail
  refine (specWeak_any _ (by omega) hpos HS1 hx1).mono ?_
  rintro e w2 ⟨ao2, b2, o2, c2, rfl, hs2, hf2, hsi2⟩
  go_wp2_with fail
  refine (isWeak_any _ (by omega) (hs1.since hsi2) hs2 (hx1.since hsi2) (fun i hi => weak_both hi)).mono ?_
  rintro e w3 ⟨rfl, rfl⟩
  go_wp2_with fail
  go_ret
  exact ⟨rfl, below_of_since (since2 hsi1 hsi2)⟩

/-! ### THE ROW's STEP -/
set_option maxRecDepth 100000 in
theorem contract (H : Type) (enc : TypeId × Value → H) (W : World) (base : Nat) (args : Array Value) (ds gs : List (DataW H)) (before : List MemPlace)
    (hval : ∀ (j : Nat) t v, Tryd.f6.params[j]? = some t → args[j]? = some v → Value.okWide Tryd.prog W .any base t v)
    (hW : DataW.Whole enc Tryd.prog Tryd.f6.params.toList Rows.fnWeakAnswerSpec.vars false W args.toList ds gs before) (hL : laidMetH Tryd.prog Rows.fnWeakAnswerRow.laid W) :
    Calls Tryd.prog 6 args W fun e W' => ∃ v, e = .returned v ∧ Rows.fnWeakAnswerSpec.post enc Tryd.prog Tryd.f6 false true false false W args v W' := by
  have hW' := hW
  obtain ⟨p, q, hA0, hV, rfl, hfz, hnd⟩ := hW
  have hA : DataW.TrodAll enc Tryd.prog W 0 (fun _ => true) true Tryd.f6.params.toList args.toList ds p := hA0
  rw [Tryd.params6] at hA hval
  obtain ⟨v0, vs0, d0, ds0, p0, q0, hargs, rfl, rfl, h0, r0⟩ := trodAll_cons hA
  obtain ⟨v1, vs1, d1, ds1, p1, q1, rfl, rfl, rfl, h1, r1⟩ := trodAll_cons r0
  obtain ⟨v2, vs2, d2, ds2, p2, q2, rfl, rfl, rfl, h2, r2⟩ := trodAll_cons r1
  obtain ⟨rfl, rfl, rfl⟩ := trodAll_nil r2
  obtain rfl : args = #[v0, v1, v2] := by cases args; simp_all
  obtain ⟨a0, len0, cap0, rfl⟩ := okWide_slice Tryd.underlying22 (hval 0 22 v0 rfl rfl)
  have k0 := h0
  have lt0 : ∀ x ∈ p0, x.block < W.heap.size := by obtain ⟨m, hm⟩ := k0; exact DataW.trod_lt m _ _ _ hm
  obtain ⟨z0, w0⟩ : ∃ zs, IsRow .i64 W a0 len0 cap0 zs := by
    obtain ⟨fuel, hf⟩ := h0
    rcases open_ints Tryd.underlying22 Tryd.underlying3 (by kernel_rfl) hf with ⟨hcs, _⟩ | ⟨x, l, c, zs, hcs, _, hl, hm, hz, _, hcell, hwz⟩
    · simp [Value.cells] at hcs
      obtain ⟨rfl, rfl, rfl⟩ := hcs
      exact ⟨[], .inl ⟨rfl, rfl, rfl, rfl⟩⟩
    · simp [Value.cells] at hcs
      obtain ⟨rfl, rfl, rfl⟩ := hcs
      exact ⟨zs, .inr ⟨_, rfl, hl, hm, by simpa using hz, hcell, hwz⟩⟩
  obtain ⟨a1, rfl, rfl, rfl, w1⟩ := open_int Tryd.underlying3 (hval 1 3 v1 rfl rfl) h1
  obtain ⟨a2, rfl, rfl, rfl, w2⟩ := open_int Tryd.underlying3 (hval 2 3 v2 rfl rfl) h2
  obtain ⟨g, tv, cs, fuel, dv, pv, rfl, hg1, hg2, hg3, hg4, rfl⟩ := trodVars_one hV
  obtain rfl : g = 0 := Option.some.inj (hg1.symm.trans gTab)
  obtain rfl : tv = 54 := Option.some.inj (hg2.symm.trans gTabType)
  have ltv : ∀ x ∈ pv, x.block < W.heap.size := DataW.trod_lt fuel _ _ _ hg4
  have hT := tab hL
  clear hA0
  refine (walk a0 len0 cap0 z0 a1 a2 W w0 w1 w2 hT).mono fun e W' ⟨he, bel⟩ => ?_
  subst he
  have hg4' := DataW.trod_stays (sp' := fun b => decide (b < W.heap.size)) (w' := W') (kids_book laidOut (by kernel_rfl)) (book_sized (by kernel_rfl)) (fun h => by cases h) ⟨of_decide_eq_true (by kernel_rfl), book_self 54⟩ hg4 (fun x hx => bel.same (ltv x hx)) (fun x hx => by simpa using ltv x hx)
  exact ⟨_, rfl, _, _, _, [], _, _, hW', trodAll_mk1 (shut_bool Tryd.underlying4 _), (trodAll_cons_mk (Below.trod laidOut (by kernel_rfl) (of_decide_eq_true (by kernel_rfl)) k0 bel lt0) (trodAll_cons_mk (shut_int Tryd.underlying3 w1) (trodAll_cons_mk (shut_int Tryd.underlying3 w2) trodAll_mk0))), trodVars_mk1 hg1 hg2 (var?_below bel hg1 hT.lt hg3) hg4', bel.frame _, fun h => by cases h⟩

/-- A world for the witness: the table holding what its initialiser lays. -/
noncomputable def laidWorld (os : Os) : World :=
  { World.holding Tryd.prog os ⟨#[], #[], []⟩ with heap := (World.holding Tryd.prog os ⟨#[], #[], []⟩).heap.modify 0 fun
      | .cells _ t frozen => .cells (tabZ.map fun z => Value.int .u64 z).toArray t frozen
      | o => o }
theorem laid_met (os : Os) : laidMet Tryd.prog Rows.fnWeakAnswerRow.laid ((laidWorld os).forCall (fun _ _ => 0) ⟨#[], #[.slice none 0 0, .int .i64 0, .int .i64 0], []⟩).memory :=
  laidMet_of_run' 8 (by kernel_rfl) (by kernel_rfl)
theorem reads (os : Os) {H : Type} (enc : TypeId × Value → H) : ∃ places, DataW.whole enc Tryd.prog ((laidWorld os).forCall (fun _ _ => 0) ⟨#[], #[.slice none 0 0, .int .i64 0, .int .i64 0], []⟩).memory Tryd.f6.params.toList Rows.fnWeakAnswerSpec.vars false (#[.slice none 0 0, .int .i64 0, .int .i64 0] : Array Value).toList 8 = some ([.nil, .lit (.int .i64 0), .lit (.int .i64 0)], [Rows.laid_loop_example_pub_g01449_impl_classes], places) :=
  ⟨MemPlace.row ⟨0, 0, none⟩ 23, by kernel_rfl⟩

set_option maxRecDepth 100000 in
theorem lifted (os : Os) (started : os.Started) (H : Type) (enc : TypeId × Value → H) (F : Stop.Interp) :
    ReturnsInHanded {} Tryd.checked os 6 .any ((OpenSpec.ofChange Rows.fnWeakAnswerSpec).preRow enc Tryd.prog Tryd.f6 Rows.fnWeakAnswerRow.domain false Rows.fnWeakAnswerRow.laid) (((OpenSpec.ofChange Rows.fnWeakAnswerSpec).at F).post enc Tryd.prog Tryd.f6 false true false false) := by
  obtain ⟨places, hx⟩ := reads os enc
  refine returnsInHanded_of_row (C := Tryd.checked) (s := OpenSpec.ofChange Rows.fnWeakAnswerSpec) own started (by kernel_rfl) Tryd.func6
    (witness_row_at (enc := enc) (C := Tryd.checked) false (laidWorld os) #[.slice none 0 0, .int .i64 0, .int .i64 0] rfl (by kernel_rfl) (by kernel_rfl) (by kernel_rfl)
      (OpenSpec.preRow_of_cond 8 hx (by kernel_rfl) (fun k hk => by cases hk) (by kernel_rfl) (laid_met os))) ?_
  intro W base args ds gs before hval hW _ _ _ hL _ _
  exact contract H enc W base args ds gs before hval hW hL

theorem said : Rows.FnWeakAnswerSaid :=
  OpenClaim.holds_of_cond 6 Tryd.f6 rfl rfl rfl rfl rfl rfl rfl ⟨rfl, rfl, rfl, rfl, rfl⟩ rfl rfl rfl rfl rfl (by kernel_rfl) Tryd.func6 (by kernel_rfl)
    (of_decide_eq_true (by kernel_rfl)) (by unfold Func.isWrapper; first | (rw [if_pos (by decide +kernel)]; kernel_rfl) | (rw [if_neg (by decide +kernel)]; exact ⟨rfl, rfl⟩))
    (fun os started H enc _ F => by rw [OpenClaim.pre_eq_preRow]; exact lifted os started H enc F)

theorem plain (f : FuncId) (fn : Func) (hf : Tryd.pinned.checked.prog.funcNamed Rows.fnWeakAnswerRow.func = some f) (hfn : Tryd.pinned.checked.prog.funcs[f]? = some fn) :
    false = Tryd.pinned.checked.prog.looks [] ∧ ∀ (j : Nat) t, fn.params[j]? = some t → Tryd.pinned.checked.prog.wantsStandIn t = false := by
  obtain rfl : f = 6 := Option.some.inj ((show Tryd.prog.funcNamed Rows.fnWeakAnswerRow.func = some 6 by kernel_rfl).symm.trans hf) |>.symm
  obtain rfl : fn = Tryd.f6 := (Option.some.inj (Tryd.func6.symm.trans hfn)).symm
  refine ⟨by kernel_rfl, fun j t ht => ?_⟩
  rw [Tryd.params6] at ht
  have ht2 : t = 22 ∨ t = 3 ∨ t = 3 := by simpa using Array.mem_of_getElem? ht
  rcases ht2 with rfl | rfl | rfl
  · exact (show Tryd.prog.wantsStandIn 22 = false by kernel_rfl)
  · exact (show Tryd.prog.wantsStandIn 3 = false by kernel_rfl)
  · exact (show Tryd.prog.wantsStandIn 3 = false by kernel_rfl)

/-- THE CARD. -/
theorem proved : Rows.FnWeakAnswerCardSaid :=
  Claim7.holds_tied_plain_at .later [] _ _ _ _ said (fun _ h => by cases h) (by kernel_rfl) (fun _ h => by cases h) fnWeakAnswer_row_tie rfl ⟨rfl, rfl⟩ (by kernel_rfl) rfl plain (by kernel_rfl)
#print axioms proved
end Go.Proofs.YtnbhkjalpcoccaaDoor.fnWeakAnswer
