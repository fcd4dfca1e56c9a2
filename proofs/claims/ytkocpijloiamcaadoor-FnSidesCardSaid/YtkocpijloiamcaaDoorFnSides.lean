/- The law FnSides, its tied card: for every input the call returns true, and each argument and the table of classes read afterwards as before. The row's one condition, that the table starts as the program's text lays it, is tied to the text by the given tie. -/
import Derived.Test.YtkocpijloiamcaaDoorCards
import Derived.Test.YtkocpijloiamcaaDoorTie
import Derived.Test.YtkocpijloiamcaaDoorCase
import Derived.Test.YtkocpijloiamcaaDoorJn1
import Derived.WalkKit
import Derived.ProofKit
import Derived.OpenShut
import Derived.ShutString
import Derived.ChangeOld
import Derived.ChangeVars
import Derived.WalkSmall
import Derived.Below
import Derived.Deep.DeepHandedRow
import Derived.Lib.LaidTab
namespace Go.Proofs.YtkocpijloiamcaaDoor.fnSides
open Go.ChangeShapes Go.WideShapes Go.ChangeAt Go.RowKit
open Go.ChangeMaps (open_string shut_string)
set_option linter.unusedVariables false

theorem own : ownKnob Tryd.prog.godebug = none := by kernel_rfl
theorem laidOut : laidOutB Tryd.prog = true := by kernel_rfl
/-- The table's name. -/
def tabName : String := Rows.fnSidesSpec.vars.headD ""
theorem gTab : Tryd.prog.globalNamed tabName = some 0 := by kernel_rfl
theorem gTabType : (Tryd.prog.globals[0]?).map (·.type) = some 84 := by kernel_rfl
theorem cellsT : Tryd.prog.cellsOf 84 = 23 := by kernel_rfl
theorem cellsC : Tryd.prog.cellsOf 67 = 1 := by kernel_rfl
def tabZ : List Int := [0, 1, 2, 3, 4, 5, 6, 7, 8, 9, 10, 11, 12, 13, 16, 17, 18, 19, 20, 21, 22, 23, 24]

/-- What the row's list gives. -/
theorem table {W : World} (h : laidMetH Tryd.prog Rows.fnSidesRow.laid W) : Lib.TabIs Tryd.prog W tabName .u64 tabZ :=
  Lib.tabIs_of_head (rest := []) gTab gTabType Tryd.underlying84 Tryd.underlying67 cellsC cellsT h
theorem tab {W : World} (h : laidMetH Tryd.prog Rows.fnSidesRow.laid W) : Tab W := fun i hi => by
  have h1 := (table h).cell gTab i (by simpa [tabZ] using hi)
  rw [h1]
  congr 2
  have : ∀ j : Fin 23, tabZ.getD j.val 0 = cls (j.val : Int) := by decide
  exact this ⟨i, hi⟩

/-- What the walk is told of a slice of integers that came in. -/
def IsRow (k : IntKind) (w : World) (a : Option Addr) (len cap : Nat) (zs : List Int) : Prop :=
  (a = none ∧ len = 0 ∧ cap = 0 ∧ zs = []) ∨
  ∃ x, a = some x ∧ len ≤ cap ∧ cap ≤ maxLen ∧ zs.length = cap ∧ (∀ i, i < zs.length → w.cell? (x.add i) = some (.int k (zs.getD i 0))) ∧ ∀ n ∈ zs, (Lit.int k n).wf = true

set_option maxHeartbeats 4000000 in
set_option maxRecDepth 100000 in
theorem walk (a0 : Option Addr) (len0 cap0 : Nat) (z0 : List Int) (a1 : Option Addr) (len1 cap1 : Nat) (z1 : List Int) (a2 : Option Addr) (len2 cap2 : Nat) (z2 : List Int) (a3 : Int) (w : World) (w0 : IsRow .i64 w a0 len0 cap0 z0) (w1 : IsRow .i64 w a1 len1 cap1 z1) (w2 : IsRow .i64 w a2 len2 cap2 z2) (w3 : (Lit.int .i64 a3).wf = true) (ht : Tab w) :
    Calls Tryd.prog 8 #[.slice a0 len0 cap0, .slice a1 len1 cap1, .slice a2 len2 cap2, .int .i64 a3] w fun e w' => e = .returned (.bool true) ∧ Below w.heap.size w w' := by
  obtain ⟨b0, o0, hr0⟩ := sees_of_row w0
  obtain ⟨x, hx⟩ : ∃ x : Nat → Int, Sees w a0 b0 o0 len0 cap0 (fun i => .int .i64 (x i)) := ⟨_, hr0⟩
  obtain ⟨b1, o1, hr1⟩ := sees_of_row w1
  obtain ⟨kd, hkd⟩ : ∃ x : Nat → Int, Sees w a1 b1 o1 len1 cap1 (fun i => .int .i64 (x i)) := ⟨_, hr1⟩
  obtain ⟨b2, o2, hr2⟩ := sees_of_row w2
  obtain ⟨vl, hvl⟩ : ∃ x : Nat → Int, Sees w a2 b2 o2 len2 cap2 (fun i => .int .i64 (x i)) := ⟨_, hr2⟩
  clear hr0 w0 hr1 w1 hr2 w2
  by_cases hn0 : len0 ≤ 2147483647
  case neg =>
    have hb : (2147483647 : Int) < (len0 : Int) := by omega
    go_enter Tryd.func8, Tryd.ntmps8
    go_wp2_with fail
    go_ret
    exact ⟨rfl, Below.refl _ _⟩
  by_cases hn1 : len1 ≤ 2147483647
  case neg =>
    have hb : (2147483647 : Int) < (len1 : Int) := by omega
    go_enter Tryd.func8, Tryd.ntmps8
    go_wp2_with fail
    go_ret
    exact ⟨rfl, Below.refl _ _⟩
  by_cases hn2 : len2 ≤ 2147483647
  case neg =>
    have hb : (2147483647 : Int) < (len2 : Int) := by omega
    go_enter Tryd.func8, Tryd.ntmps8
    go_wp2_with fail
    go_ret
    exact ⟨rfl, Below.refl _ _⟩
  go_enter Tryd.func8, Tryd.ntmps8
  go_wp2_with fail
  refine (isCase_any _ hn0 hn1 hn2 hx hkd hvl).mono ?_
  rintro e w1 ⟨B, rfl, rfl, HB⟩
  cases B with
  | false =>
    go_wp2_with fail
    go_ret
    exact ⟨rfl, Below.refl _ _⟩
  | true =>
  obtain ⟨hpos, hok, hb7, rfl, rfl, hkk, hvv, hgg⟩ := HB rfl
  clear HB
  have HOK := Lib.hid hok
  have HB7 := Lib.hid hb7
  have HKK := Lib.hid hkk
  have HVV := Lib.hid hvv
  have HGG := Lib.hid hgg
  clear hok hb7 hkk hvv hgg
  go_wp2_with fail
  refine (implResolve_any (x := x) (kd := kd) (vl := vl) (g := a3) _ ht hn2 hpos HGG.out HOK.out HB7.out HKK.out HVV.out hx hkd hvl).mono ?_
  rintro e wA ⟨ft, fl, hD, A1, B1, O1, C1, A2, B2, O2, C2, rfl, hT1, hL1, _, _, hs2⟩
  have hbo := baseP_or (x := x) (N := len2) HGG.out
  obtain ⟨base, hbase⟩ : ∃ base, base = baseP x len2 a3 := ⟨_, rfl⟩
  rw [← hbase] at hD hbo ⊢
  have hx2 := hx.since hs2
  have HS2 := Lib.hid hs2
  have HD := Lib.hid hD
  have HX := Lib.hid hx2
  have HL := Lib.hid hL1
  clear ht hx hkd hvl hs2 hD hT1 hL1 hx2 hbase
  have hnn : ((len2 : Int) != (len2 : Int)) = false := by simp
  go_wp2_with fail
  go_loopg [14, 58] len2 (fun g _ i wr => ∃ k : Nat, k ≤ len2 ∧ g = len2 - k ∧ i = .int .i64 k ∧ wA = wr ∧ Hid (∀ j, j < k → x j ≠ 14 ∧ x j ≠ 15))
  case atStart => exact ⟨0, Nat.zero_le _, rfl, rfl, rfl, fun j hj => absurd hj (Nat.not_lt_zero _)⟩
  case round =>
    obtain ⟨k, hk, rfl, rfl, rfl, HO⟩ := hrel
    by_cases hkn : k < len2
    · have hkz : (k : Int) < (len2 : Int) := by omega
      obtain ⟨rfl, hc⟩ := HX.out.get hkn
      have hle := HX.out.le
      obtain ⟨X, hX⟩ : ∃ X, X = x k := ⟨_, rfl⟩
      rw [← hX] at hc
      have HXE := Lib.hid hX
      clear hX
      by_cases e14 : X = 14
      · subst e14
        go_wp2_with fail
        go_ret
        exact ⟨rfl, below_of_since HS2.out⟩
      by_cases e15 : X = 15
      · subst e15
        go_wp2_with fail
        go_ret
        exact ⟨rfl, below_of_since HS2.out⟩
      have b14 : (X == 14) = false := beq_eq_false_iff_ne.2 e14
      have b15 : (X == 15) = false := beq_eq_false_iff_ne.2 e15
      have HO2 : Hid (∀ j, j < k + 1 → x j ≠ 14 ∧ x j ≠ 15) := fun j hj => by
        by_cases e : j = k
        · subst e; rw [← HXE.out]; exact ⟨e14, e15⟩
        · exact HO.out j (by omega)
      clear e14 e15
      go_wp2_with fail
      go_roundg (len2 - (k + 1))
      case rel => exact ⟨k + 1, by omega, rfl, by go_num, rfl, HO2⟩
      case measure => omega
    · obtain rfl : k = len2 := by omega
      have HSD := Lib.hid (fun i (hi : i < k) (hr : remN (x i) = false) => sides hbo HB7.out HOK.out HD.out HO.out hi hr)
      go_wp2_with fail
      go_loopg [15, 16, 17, 71] k (fun g _ _ _ i wr => ∃ m : Nat, m ≤ k ∧ g = k - m ∧ i = .int .i64 m ∧ wA = wr)
      case atStart => exact ⟨0, Nat.zero_le _, rfl, rfl, rfl⟩
      case round =>
        obtain ⟨m, hm, rfl, rfl, rfl⟩ := hrel
        by_cases hmn : m < k
        · have hmz : (m : Int) < (k : Int) := by omega
          obtain ⟨rfl, hc⟩ := HX.out.get hmn
          have hle := HX.out.le
          obtain ⟨rfl, hd⟩ := HL.out.get hmn
          have hle2 := HL.out.le
          have hrg := (HD.out.range hbo HB7.out HOK.out m hmn).2
          have hS := HSD.out m hmn
          obtain ⟨X, hX⟩ : ∃ X, X = x m := ⟨_, rfl⟩
          obtain ⟨V, hV⟩ : ∃ V, V = fl m := ⟨_, rfl⟩
          rw [← hX] at hc hS
          rw [← hV] at hd hS hrg
          have hv0 : 0 ≤ V := by omega
          have ht2 : V.tmod 2 = V % 2 := Int.tmod_eq_emod_of_nonneg hv0
          clear hX hV
          have HSS := Lib.hid hS
          clear hS
          go_wp2_with fail
          refine (isRemoved_any _ _).mono ?_
          rintro e w4 ⟨rfl, rfl⟩
          cases hr : remN X with
          | true =>
            go_wp2_with fail
            go_roundg (k - (m + 1))
            case rel => exact ⟨m + 1, by omega, rfl, by go_num, rfl⟩
            case measure => omega
          | false =>
            obtain ⟨s1, s2, s3⟩ := HSS.out hr
            have hlt : ¬ V < base := by omega
            clear HSS hr
            by_cases q0 : X = 0 ∨ X = 2 ∨ X = 5
            · have hv2 := s2 q0
              rw [hv2] at ht2
              rcases q0 with rfl | rfl | rfl
              · go_wp2_with fail
                go_roundg (k - (m + 1))
                case rel => exact ⟨m + 1, by omega, rfl, by go_num, rfl⟩
                case measure => omega
              · go_wp2_with fail
                go_roundg (k - (m + 1))
                case rel => exact ⟨m + 1, by omega, rfl, by go_num, rfl⟩
                case measure => omega
              · go_wp2_with fail
                go_roundg (k - (m + 1))
                case rel => exact ⟨m + 1, by omega, rfl, by go_num, rfl⟩
                case measure => omega
            · have b0 : (X == 0) = false := beq_eq_false_iff_ne.2 (by omega)
              have b2 : (X == 2) = false := beq_eq_false_iff_ne.2 (by omega)
              have b5 : (X == 5) = false := beq_eq_false_iff_ne.2 (by omega)
              by_cases q1 : X = 1 ∨ X = 13
              · have hv2 := s3 q1
                rw [hv2] at ht2
                rcases q1 with rfl | rfl
                · go_wp2_with fail
                  go_roundg (k - (m + 1))
                  case rel => exact ⟨m + 1, by omega, rfl, by go_num, rfl⟩
                  case measure => omega
                · go_wp2_with fail
                  go_roundg (k - (m + 1))
                  case rel => exact ⟨m + 1, by omega, rfl, by go_num, rfl⟩
                  case measure => omega
              · have b1 : (X == 1) = false := beq_eq_false_iff_ne.2 (by omega)
                have b13 : (X == 13) = false := beq_eq_false_iff_ne.2 (by omega)
                clear q0 q1 s2 s3
                go_wp2_with fail
                go_roundg (k - (m + 1))
                case rel => exact ⟨m + 1, by omega, rfl, by go_num, rfl⟩
                case measure => omega
        · obtain rfl : m = k := by omega
          go_wp2_with fail
          go_ret
          exact ⟨rfl, below_of_since HS2.out⟩

/-! ### THE ROW's STEP -/
set_option maxRecDepth 100000 in
theorem contract (H : Type) (enc : TypeId × Value → H) (W : World) (base : Nat) (args : Array Value) (ds gs : List (DataW H)) (before : List MemPlace)
    (hval : ∀ (j : Nat) t v, Tryd.f8.params[j]? = some t → args[j]? = some v → Value.okWide Tryd.prog W .any base t v)
    (hW : DataW.Whole enc Tryd.prog Tryd.f8.params.toList Rows.fnSidesSpec.vars false W args.toList ds gs before) (hL : laidMetH Tryd.prog Rows.fnSidesRow.laid W) :
    Calls Tryd.prog 8 args W fun e W' => ∃ v, e = .returned v ∧ Rows.fnSidesSpec.post enc Tryd.prog Tryd.f8 false true false false W args v W' := by
  have hW' := hW
  obtain ⟨p, q, hA0, hV, rfl, hfz, hnd⟩ := hW
  have hA : DataW.TrodAll enc Tryd.prog W 0 (fun _ => true) true Tryd.f8.params.toList args.toList ds p := hA0
  rw [Tryd.params8] at hA hval
  obtain ⟨v0, vs0, d0, ds0, p0, q0, hargs, rfl, rfl, h0, r0⟩ := trodAll_cons hA
  obtain ⟨v1, vs1, d1, ds1, p1, q1, rfl, rfl, rfl, h1, r1⟩ := trodAll_cons r0
  obtain ⟨v2, vs2, d2, ds2, p2, q2, rfl, rfl, rfl, h2, r2⟩ := trodAll_cons r1
  obtain ⟨v3, vs3, d3, ds3, p3, q3, rfl, rfl, rfl, h3, r3⟩ := trodAll_cons r2
  obtain ⟨rfl, rfl, rfl⟩ := trodAll_nil r3
  obtain rfl : args = #[v0, v1, v2, v3] := by cases args; simp_all
  obtain ⟨a0, len0, cap0, rfl⟩ := okWide_slice Tryd.underlying22 (hval 0 22 v0 rfl rfl)
  have k0 := h0
  have lt0 : ∀ x ∈ p0, x.block < W.heap.size := by obtain ⟨m, hm⟩ := k0; exact DataW.trod_lt m _ _ _ hm
  obtain ⟨z0, w0⟩ : ∃ zs, IsRow .i64 W a0 len0 cap0 zs := by
    obtain ⟨fuel, hf⟩ := h0
    rcases open_ints Tryd.underlying22 Tryd.underlying3 (by kernel_rfl) hf with ⟨hcs, _⟩ | ⟨x, l, c, zs, hcs, _, hl, hm, hz, _, hcell, hwz⟩
    · simp [Value.cells] at hcs
      obtain ⟨rfl, rfl, rfl⟩ := hcs
      exact ⟨[], .inl ⟨rfl, rfl, rfl, rfl⟩⟩
    · simp [Value.cells] at hcs
      obtain ⟨rfl, rfl, rfl⟩ := hcs
      exact ⟨zs, .inr ⟨_, rfl, hl, hm, by simpa using hz, hcell, hwz⟩⟩
  obtain ⟨a1, len1, cap1, rfl⟩ := okWide_slice Tryd.underlying22 (hval 1 22 v1 rfl rfl)
  have k1 := h1
  have lt1 : ∀ x ∈ p1, x.block < W.heap.size := by obtain ⟨m, hm⟩ := k1; exact DataW.trod_lt m _ _ _ hm
  obtain ⟨z1, w1⟩ : ∃ zs, IsRow .i64 W a1 len1 cap1 zs := by
    obtain ⟨fuel, hf⟩ := h1
    rcases open_ints Tryd.underlying22 Tryd.underlying3 (by kernel_rfl) hf with ⟨hcs, _⟩ | ⟨x, l, c, zs, hcs, _, hl, hm, hz, _, hcell, hwz⟩
    · simp [Value.cells] at hcs
      obtain ⟨rfl, rfl, rfl⟩ := hcs
      exact ⟨[], .inl ⟨rfl, rfl, rfl, rfl⟩⟩
    · simp [Value.cells] at hcs
      obtain ⟨rfl, rfl, rfl⟩ := hcs
      exact ⟨zs, .inr ⟨_, rfl, hl, hm, by simpa using hz, hcell, hwz⟩⟩
  obtain ⟨a2, len2, cap2, rfl⟩ := okWide_slice Tryd.underlying22 (hval 2 22 v2 rfl rfl)
  have k2 := h2
  have lt2 : ∀ x ∈ p2, x.block < W.heap.size := by obtain ⟨m, hm⟩ := k2; exact DataW.trod_lt m _ _ _ hm
  obtain ⟨z2, w2⟩ : ∃ zs, IsRow .i64 W a2 len2 cap2 zs := by
    obtain ⟨fuel, hf⟩ := h2
    rcases open_ints Tryd.underlying22 Tryd.underlying3 (by kernel_rfl) hf with ⟨hcs, _⟩ | ⟨x, l, c, zs, hcs, _, hl, hm, hz, _, hcell, hwz⟩
    · simp [Value.cells] at hcs
      obtain ⟨rfl, rfl, rfl⟩ := hcs
      exact ⟨[], .inl ⟨rfl, rfl, rfl, rfl⟩⟩
    · simp [Value.cells] at hcs
      obtain ⟨rfl, rfl, rfl⟩ := hcs
      exact ⟨zs, .inr ⟨_, rfl, hl, hm, by simpa using hz, hcell, hwz⟩⟩
  obtain ⟨a3, rfl, rfl, rfl, w3⟩ := open_int Tryd.underlying3 (hval 3 3 v3 rfl rfl) h3
  obtain ⟨g, tv, cs, fuel, dv, pv, rfl, hg1, hg2, hg3, hg4, rfl⟩ := trodVars_one hV
  obtain rfl : g = 0 := Option.some.inj (hg1.symm.trans gTab)
  obtain rfl : tv = 84 := Option.some.inj (hg2.symm.trans gTabType)
  have ltv : ∀ x ∈ pv, x.block < W.heap.size := DataW.trod_lt fuel _ _ _ hg4
  have hT := tab hL
  clear hA0
  refine (walk a0 len0 cap0 z0 a1 len1 cap1 z1 a2 len2 cap2 z2 a3 W w0 w1 w2 w3 hT).mono fun e W' ⟨he, bel⟩ => ?_
  subst he
  have hg4' := DataW.trod_stays (sp' := fun b => decide (b < W.heap.size)) (w' := W') (kids_book laidOut (by kernel_rfl)) (book_sized (by kernel_rfl)) (fun h => by cases h) ⟨of_decide_eq_true (by kernel_rfl), book_self 84⟩ hg4 (fun x hx => bel.same (ltv x hx)) (fun x hx => by simpa using ltv x hx)
  exact ⟨_, rfl, _, _, _, [], _, _, hW', trodAll_mk1 (shut_bool Tryd.underlying4 _), (trodAll_cons_mk (Below.trod laidOut (by kernel_rfl) (of_decide_eq_true (by kernel_rfl)) k0 bel lt0) (trodAll_cons_mk (Below.trod laidOut (by kernel_rfl) (of_decide_eq_true (by kernel_rfl)) k1 bel lt1) (trodAll_cons_mk (Below.trod laidOut (by kernel_rfl) (of_decide_eq_true (by kernel_rfl)) k2 bel lt2) (trodAll_cons_mk (shut_int Tryd.underlying3 w3) trodAll_mk0)))), trodVars_mk1 hg1 hg2 (var?_below bel hg1 hT.lt hg3) hg4', bel.frame _, fun h => by cases h⟩

/-- A world for the witness: the table holding what its initialiser lays. -/
noncomputable def laidWorld (os : Os) : World :=
  { World.holding Tryd.prog os ⟨#[], #[], []⟩ with heap := (World.holding Tryd.prog os ⟨#[], #[], []⟩).heap.modify 0 fun
      | .cells _ t frozen => .cells (tabZ.map fun z => Value.int .u64 z).toArray t frozen
      | o => o }
theorem laid_met (os : Os) : laidMet Tryd.prog Rows.fnSidesRow.laid ((laidWorld os).forCall (fun _ _ => 0) ⟨#[], #[.slice none 0 0, .slice none 0 0, .slice none 0 0, .int .i64 0], []⟩).memory :=
  laidMet_of_run' 8 (by kernel_rfl) (by kernel_rfl)
theorem reads (os : Os) {H : Type} (enc : TypeId × Value → H) : ∃ places, DataW.whole enc Tryd.prog ((laidWorld os).forCall (fun _ _ => 0) ⟨#[], #[.slice none 0 0, .slice none 0 0, .slice none 0 0, .int .i64 0], []⟩).memory Tryd.f8.params.toList Rows.fnSidesSpec.vars false (#[.slice none 0 0, .slice none 0 0, .slice none 0 0, .int .i64 0] : Array Value).toList 8 = some ([.nil, .nil, .nil, .lit (.int .i64 0)], [Rows.laid_loop_example_pub_g01449_impl_classes], places) :=
  ⟨MemPlace.row ⟨0, 0, none⟩ 23, by kernel_rfl⟩

set_option maxRecDepth 100000 in
theorem lifted (os : Os) (started : os.Started) (H : Type) (enc : TypeId × Value → H) (F : Stop.Interp) :
    ReturnsInHanded {} Tryd.checked os 8 .any ((OpenSpec.ofChange Rows.fnSidesSpec).preRow enc Tryd.prog Tryd.f8 Rows.fnSidesRow.domain false Rows.fnSidesRow.laid) (((OpenSpec.ofChange Rows.fnSidesSpec).at F).post enc Tryd.prog Tryd.f8 false true false false) := by
  obtain ⟨places, hx⟩ := reads os enc
  refine returnsInHanded_of_row (C := Tryd.checked) (s := OpenSpec.ofChange Rows.fnSidesSpec) own started (by kernel_rfl) Tryd.func8
    (witness_row_at (enc := enc) (C := Tryd.checked) false (laidWorld os) #[.slice none 0 0, .slice none 0 0, .slice none 0 0, .int .i64 0] rfl (by kernel_rfl) (by kernel_rfl) (by kernel_rfl)
      (OpenSpec.preRow_of_cond 8 hx (by kernel_rfl) (fun k hk => by cases hk) (by kernel_rfl) (laid_met os))) ?_
  intro W base args ds gs before hval hW _ _ _ hL _ _
  exact contract H enc W base args ds gs before hval hW hL

theorem said : Rows.FnSidesSaid :=
  OpenClaim.holds_of_cond 8 Tryd.f8 rfl rfl rfl rfl rfl rfl rfl ⟨rfl, rfl, rfl, rfl, rfl⟩ rfl rfl rfl rfl rfl (by kernel_rfl) Tryd.func8 (by kernel_rfl)
    (of_decide_eq_true (by kernel_rfl)) (by unfold Func.isWrapper; first | (rw [if_pos (by decide +kernel)]; kernel_rfl) | (rw [if_neg (by decide +kernel)]; exact ⟨rfl, rfl⟩))
    (fun os started H enc _ F => by rw [OpenClaim.pre_eq_preRow]; exact lifted os started H enc F)

theorem plain (f : FuncId) (fn : Func) (hf : Tryd.pinned.checked.prog.funcNamed Rows.fnSidesRow.func = some f) (hfn : Tryd.pinned.checked.prog.funcs[f]? = some fn) :
    true = Tryd.pinned.checked.prog.looks [] ∧ ∀ (j : Nat) t, fn.params[j]? = some t → Tryd.pinned.checked.prog.wantsStandIn t = false := by
  obtain rfl : f = 8 := Option.some.inj ((show Tryd.prog.funcNamed Rows.fnSidesRow.func = some 8 by kernel_rfl).symm.trans hf) |>.symm
  obtain rfl : fn = Tryd.f8 := (Option.some.inj (Tryd.func8.symm.trans hfn)).symm
  refine ⟨by kernel_rfl, fun j t ht => ?_⟩
  rw [Tryd.params8] at ht
  have ht2 : t = 22 ∨ t = 22 ∨ t = 22 ∨ t = 3 := by simpa using Array.mem_of_getElem? ht
  rcases ht2 with rfl | rfl | rfl | rfl
  · exact (show Tryd.prog.wantsStandIn 22 = false by kernel_rfl)
  · exact (show Tryd.prog.wantsStandIn 22 = false by kernel_rfl)
  · exact (show Tryd.prog.wantsStandIn 22 = false by kernel_rfl)
  · exact (show Tryd.prog.wantsStandIn 3 = false by kernel_rfl)

/-- THE CARD. -/
theorem proved : Rows.FnSidesCardSaid :=
  Claim7.holds_tied_plain_at .later [] _ _ _ _ said (fun _ h => by cases h) (by kernel_rfl) (fun _ h => by cases h) fnSides_row_tie rfl ⟨rfl, rfl⟩ (by kernel_rfl) rfl plain (by kernel_rfl)
#print axioms proved
end Go.Proofs.YtkocpijloiamcaaDoor.fnSides
