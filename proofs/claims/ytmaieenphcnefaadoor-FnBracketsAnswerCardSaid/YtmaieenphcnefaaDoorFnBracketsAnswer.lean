/- The law FnBracketsAnswer, its tied card: for every input the call returns true, and each argument and the table of classes read afterwards as before. The row's one condition, that the table starts as the program's text lays it, is tied to the text by the given tie. -/
import Derived.Test.YtmaieenphcnefaaDoorCards
import Derived.Test.YtmaieenphcnefaaDoorTie
import Derived.Test.YtmaieenphcnefaaDoorLawB
import Derived.Test.YtmaieenphcnefaaDoorLL2
import Derived.WalkKit
import Derived.ProofKit
import Derived.OpenShut
import Derived.ShutString
import Derived.ChangeOld
import Derived.ChangeVars
import Derived.WalkSmall
import Derived.Below
import Derived.Deep.DeepHandedRow
import Derived.Lib.LaidTab
namespace Go.Proofs.YtmaieenphcnefaaDoor.fnBracketsAnswer
open Go.ChangeShapes Go.WideShapes Go.ChangeAt Go.RowKit
open Go.ChangeMaps (open_string shut_string)
set_option linter.unusedVariables false

theorem own : ownKnob Tryd.prog.godebug = none := by kernel_rfl
theorem laidOut : laidOutB Tryd.prog = true := by kernel_rfl
/-- The table's name. -/
def tabName : String := Rows.fnBracketsAnswerSpec.vars.headD ""
theorem gTab : Tryd.prog.globalNamed tabName = some 0 := by kernel_rfl
theorem gTabType : (Tryd.prog.globals[0]?).map (·.type) = some 81 := by kernel_rfl
theorem cellsT : Tryd.prog.cellsOf 81 = 23 := by kernel_rfl
theorem cellsC : Tryd.prog.cellsOf 56 = 1 := by kernel_rfl
def tabZ : List Int := [0, 1, 2, 3, 4, 5, 6, 7, 8, 9, 10, 11, 12, 13, 16, 17, 18, 19, 20, 21, 22, 23, 24]

/-- What the row's list gives. -/
theorem table {W : World} (h : laidMetH Tryd.prog Rows.fnBracketsAnswerRow.laid W) : Lib.TabIs Tryd.prog W tabName .u64 tabZ :=
  Lib.tabIs_of_head (rest := []) gTab gTabType Tryd.underlying81 Tryd.underlying56 cellsC cellsT h
theorem tab {W : World} (h : laidMetH Tryd.prog Rows.fnBracketsAnswerRow.laid W) : Tab W := fun i hi => by
  have h1 := (table h).cell gTab i (by simpa [tabZ] using hi)
  rw [h1]
  congr 2
  have : ∀ j : Fin 23, tabZ.getD j.val 0 = cls (j.val : Int) := by decide
  exact this ⟨i, hi⟩

/-- What the walk is told of a slice of integers that came in. -/
def IsRow (k : IntKind) (w : World) (a : Option Addr) (len cap : Nat) (zs : List Int) : Prop :=
  (a = none ∧ len = 0 ∧ cap = 0 ∧ zs = []) ∨
  ∃ x, a = some x ∧ len ≤ cap ∧ cap ≤ maxLen ∧ zs.length = cap ∧ (∀ i, i < zs.length → w.cell? (x.add i) = some (.int k (zs.getD i 0))) ∧ ∀ n ∈ zs, (Lit.int k n).wf = true

set_option maxHeartbeats 4000000 in
set_option maxRecDepth 100000 in
theorem walk (a0 : Option Addr) (len0 cap0 : Nat) (z0 : List Int) (a1 : Option Addr) (len1 cap1 : Nat) (z1 : List Int) (a2 : Option Addr) (len2 cap2 : Nat) (z2 : List Int) (a3 : Option Addr) (len3 cap3 : Nat) (z3 : List Int) (a4 : Int) (a5 : Int) (w : World) (w0 : IsRow .i64 w a0 len0 cap0 z0) (w1 : IsRow .i64 w a1 len1 cap1 z1) (w2 : IsRow .i64 w a2 len2 cap2 z2) (w3 : IsRow .i64 w a3 len3 cap3 z3) (w4 : (Lit.int .i64 a4).wf = true) (w5 : (Lit.int .i64 a5).wf = true) (ht : Tab w) :
    Calls Tryd.prog 6 #[.slice a0 len0 cap0, .slice a1 len1 cap1, .slice a2 len2 cap2, .slice a3 len3 cap3, .int .i64 a4, .int .i64 a5] w fun e w' => e = .returned (.bool true) ∧ Below w.heap.size w w' := by
  obtain ⟨b0, o0, hr0⟩ := sees_of_row w0
  obtain ⟨x0, hx0⟩ : ∃ x : Nat → Int, Sees w a0 b0 o0 len0 cap0 (fun i => .int .i64 (x i)) := ⟨_, hr0⟩
  obtain ⟨b1, o1, hr1⟩ := sees_of_row w1
  obtain ⟨z0, hz0⟩ : ∃ x : Nat → Int, Sees w a1 b1 o1 len1 cap1 (fun i => .int .i64 (x i)) := ⟨_, hr1⟩
  obtain ⟨b2, o2, hr2⟩ := sees_of_row w2
  obtain ⟨kd0, hkd0⟩ : ∃ x : Nat → Int, Sees w a2 b2 o2 len2 cap2 (fun i => .int .i64 (x i)) := ⟨_, hr2⟩
  obtain ⟨b3, o3, hr3⟩ := sees_of_row w3
  obtain ⟨vl0, hvl0⟩ : ∃ x : Nat → Int, Sees w a3 b3 o3 len3 cap3 (fun i => .int .i64 (x i)) := ⟨_, hr3⟩
  clear hr0 hr1 hr2 hr3 w0 w1 w2 w3 w4 w5
  by_cases hn0 : len0 ≤ 2147483647
  case neg =>
    have hb : (2147483647 : Int) < (len0 : Int) := by omega
    go_enter Tryd.func6, Tryd.ntmps6
    go_wp2_with fail
    go_ret
    exact ⟨rfl, Below.refl _ _⟩
  by_cases hn1 : len1 ≤ 2147483647
  case neg =>
    have hb : (2147483647 : Int) < (len1 : Int) := by omega
    go_enter Tryd.func6, Tryd.ntmps6
    go_wp2_with fail
    go_ret
    exact ⟨rfl, Below.refl _ _⟩
  by_cases hn2 : len2 ≤ 2147483647
  case neg =>
    have hb : (2147483647 : Int) < (len2 : Int) := by omega
    go_enter Tryd.func6, Tryd.ntmps6
    go_wp2_with fail
    go_ret
    exact ⟨rfl, Below.refl _ _⟩
  by_cases hn3 : len3 ≤ 2147483647
  case neg =>
    have hb : (2147483647 : Int) < (len3 : Int) := by omega
    go_enter Tryd.func6, Tryd.ntmps6
    go_wp2_with fail
    go_ret
    exact ⟨rfl, Below.refl _ _⟩
  by_cases h0 : len0 = 0
  case pos =>
    subst h0
    go_enter Tryd.func6, Tryd.ntmps6
    go_wp2_with fail
    go_ret
    exact ⟨rfl, Below.refl _ _⟩
  have hpos : 0 < len0 := by omega
  have hb0 : ((len0 : Int) == 0) = false := beq_eq_false_iff_ne.2 (by omega)
  by_cases hl : len1 = len0
  case neg =>
    have hlb : ((len1 : Int) != (len0 : Int)) = true := bne_iff_ne.2 (by omega)
    go_enter Tryd.func6, Tryd.ntmps6
    go_wp2_with fail
    go_ret
    exact ⟨rfl, Below.refl _ _⟩
  subst hl
  have hlb : ((len1 : Int) != (len1 : Int)) = false := by simp
  clear h0
  have hx : Sees w a0 b0 o0 len1 cap0 (fun i => .int .i64 ((fun i => if i < len1 then x0 i else 10) i)) := hx0.congr (fun i hi => by simp [hi])
  have hz : Sees w a1 b1 o1 len1 cap1 (fun i => .int .i64 ((fun i => if i < len1 then z0 i else 10) i)) := hz0.congr (fun i hi => by simp [hi])
  obtain ⟨x, hxd⟩ : ∃ x : Nat → Int, x = fun i => if i < len1 then x0 i else 10 := ⟨_, rfl⟩
  obtain ⟨z, hzd⟩ : ∃ z : Nat → Int, z = fun i => if i < len1 then z0 i else 10 := ⟨_, rfl⟩
  rw [← hxd] at hx
  rw [← hzd] at hz
  have HXT := Lib.hid (show ∀ i, len1 ≤ i → x i = 10 from fun i hi => by rw [hxd]; exact if_neg (by omega))
  have HZT := Lib.hid (show ∀ i, len1 ≤ i → z i = 10 from fun i hi => by rw [hzd]; exact if_neg (by omega))
  clear hx0 hz0 hxd hzd
  go_enter Tryd.func6, Tryd.ntmps6
  go_wp2_with fail
  refine (areNeutral_any _ (by omega) hx).mono ?_
  rintro e w1 ⟨rfl, rfl⟩
  by_cases hc : allB ofNeu x len1 = true
  case neg =>
    have hc' : allB ofNeu x len1 = false := by simpa using hc
    rw [hc']
    clear hc hc'
    go_wp2_with fail
    go_ret
    exact ⟨rfl, Below.refl _ _⟩
  rw [hc]
  have HXN := Lib.hid hc
  clear hc
  go_wp2_with fail
  refine (areWeak_any _ (by omega) hz).mono ?_
  rintro e w1 ⟨rfl, rfl⟩
  by_cases hw : allB ofWeak z len1 = true
  case neg =>
    have hw' : allB ofWeak z len1 = false := by simpa using hw
    rw [hw']
    clear hw hw'
    go_wp2_with fail
    go_ret
    exact ⟨rfl, Below.refl _ _⟩
  rw [hw]
  have HZW := Lib.hid hw
  clear hw
  go_wp2_with fail
  refine (areBrackets_any _ (by omega) (by omega) (by omega) hkd0 hvl0).mono ?_
  rintro e w1 ⟨rfl, rfl⟩
  by_cases hb : brB len1 len2 len3 kd0 vl0 = true
  case neg =>
    have hb' : brB len1 len2 len3 kd0 vl0 = false := by simpa using hb
    rw [hb']
    clear hb hb'
    go_wp2_with fail
    go_ret
    exact ⟨rfl, Below.refl _ _⟩
  rw [hb]
  obtain ⟨rfl, rfl, hbr⟩ := (of_decide_eq_true hb : len2 = len1 ∧ len3 = len1 ∧ ∀ i, i < len2 → brOk (kd0 i) (vl0 i))
  have HKD := Lib.hid (show ∀ j, j < len3 → kd0 j = 0 ∨ kd0 j = 1 ∨ kd0 j = 2 from fun j hj => brOk_kd (hbr j hj))
  have HVL := Lib.hid (show ∀ j, j < len3 → 0 ≤ vl0 j ∧ vl0 j ≤ 1114111 from fun j hj => brOk_vl (hbr j hj))
  have HVK := Lib.hid (show ∀ j, j < len3 → vl0 j ≤ 1114111 ∧ (kd0 j ≠ 0 → 1 ≤ vl0 j) from fun j hj => brOk_vk (hbr j hj))
  clear hb hbr
  go_wp2_with fail
  refine (openings_any _ (by omega) hkd0).mono ?_
  rintro e w1 ⟨rfl, rfl⟩
  by_cases ho : ops kd0 len3 ≤ 63
  case neg =>
    have ho' : (63 : Int) < ((ops kd0 len3 : Nat) : Int) := by omega
    obtain ⟨P, hP⟩ : ∃ P, P = ops kd0 len3 := ⟨_, rfl⟩
    rw [← hP] at ho'
    rw [← hP]
    clear hP ho
    go_wp2_with fail
    go_ret
    exact ⟨rfl, Below.refl _ _⟩
  have HOP := Lib.hid ho
  have ho' : ¬ ((63 : Int) < ((ops kd0 len3 : Nat) : Int)) := by omega
  obtain ⟨P, hP⟩ : ∃ P, P = ops kd0 len3 := ⟨_, rfl⟩
  rw [← hP] at ho'
  rw [← hP]
  clear hP ho
  by_cases hl0 : a4 < 0
  case pos =>
    go_wp2_with fail
    go_ret
    exact ⟨rfl, Below.refl _ _⟩
  have hl0' : 0 ≤ a4 := by omega
  by_cases hl1 : 125 < a4
  case pos =>
    go_wp2_with fail
    go_ret
    exact ⟨rfl, Below.refl _ _⟩
  have hl1' : a4 ≤ 125 := by omega
  go_wp2_with fail
  refine (isSide_any _ _).mono ?_
  rintro e w1 ⟨rfl, rfl⟩
  by_cases hs2 : sideB a5 = true
  case neg =>
    have hs' : sideB a5 = false := by simpa using hs2
    rw [hs']
    clear hs2 hs'
    go_wp2_with fail
    go_ret
    exact ⟨rfl, Below.refl _ _⟩
  rw [hs2]
  have HSD := Lib.hid (sideB_iff.1 hs2)
  clear hs2
  go_wp2_with fail
  refine (marked_any _ (by omega) hz hkd0).mono ?_
  rintro e w1 ⟨rfl, rfl⟩
  by_cases hmk : markB len3 z kd0 = true
  case pos =>
    rw [hmk]
    clear hmk
    go_wp2_with fail
    go_ret
    exact ⟨rfl, Below.refl _ _⟩
  have hmk' : markB len3 z kd0 = false := by simpa using hmk
  rw [hmk']
  have HMK := Lib.hid (show ∀ i, i < len3 → 0 < kd0 i → z i ≠ 12 from fun i hi h1 h2 => hmk (decide_eq_true ⟨i, hi, h1, h2⟩))
  clear hmk hmk'
  have HXA := Lib.hid (show ∀ i, memB ofNeu (x i) = true from fun i => by
    by_cases h : i < len3
    · exact allB_get HXN.out h
    · rw [HXT.out i (by omega)]; decide)
  have HXO := Lib.hid (show ∀ i, clsOk (x i) from fun i => by
    by_cases h : i < len3
    · exact ofNeu_ok HXN.out i h
    · rw [HXT.out i (by omega)]; exact ⟨by omega, by omega⟩)
  have HZM := Lib.hid (show (fun i => decide (cls (z i) = 12)) = (fun i => decide (z i = 12)) from funext fun i => by
    by_cases h : i < len3
    · have h1 := memB_iff.1 (allB_get HZW.out h)
      unfold ofWeak at h1
      exact cls_twelve (by simp only [List.mem_cons, List.not_mem_nil, or_false] at h1; omega)
    · rw [HZT.out i (by omega)]; rfl)
  have HNN := Lib.hid (show ∀ i, i < len3 → (fun i => decide (cls (x i) = 10)) i = decide (x i = 10) from fun i hi => cls_ten (HXO.out i))
  go_wp2_with fail
  refine (signed_any _ (by omega) hkd0 hvl0 HVL.out).mono ?_
  rintro e w2 ⟨rfl, hg2, hsi2⟩
  have ht2 := ht.since hsi2
  have hx2 := hx.since hsi2
  have hz2 := hz.since hsi2
  have hk2 := hkd0.since hsi2
  have hv2 := hvl0.since hsi2
  have hs2 : Sees w2 (some ⟨w.heap.size, 0, none⟩) w.heap.size 0 len3 len3 (fun i => .int .i64 (sg kd0 vl0 i)) := Sees.ofRow hg2
  have H1 := Lib.hid hsi2
  clear ht hx hz hkd0 hvl0 hg2 hsi2
  go_wp2_with fail
  refine (specBrackets_any (nn := fun i => decide (cls (x i) = 10)) (kd := kd0) (vl := vl0) _ (by omega) (by omega) hx2 hz2 hs2 HXA.out HNN.out (fun _ _ => rfl) HKD.out HVK.out HOP.out HMK.out HSD.out (by omega) (by omega)).mono ?_
  rintro e w3 ⟨q3, b3, o3, c3, rfl, hq3, hf3, hsi3⟩
  have ht3 := ht2.since hsi3
  have hx3 := hx2.since hsi3
  have hz3 := hz2.since hsi3
  have hk3 := hk2.since hsi3
  have hv3 := hv2.since hsi3
  have H2 := Lib.hid (since2 H1.out hsi3)
  clear ht2 hx2 hz2 hk2 hv2 hs2 hsi3 H1
  go_wp2_with fail
  refine (implBrackets_any _ ht3 (by omega) (by omega) hx3 hz3 hk3 hv3 HXO.out HKD.out HVL.out HSD.out (by omega) (by omega)).mono ?_
  rintro e w4 ⟨q4, b4, o4, c4, rfl, hq4, hf4, hsi4⟩
  have hq34 := hq3.since hsi4
  rw [HZM.out] at hq4
  have H3 := Lib.hid (since2 H2.out hsi4)
  clear ht3 hx3 hz3 hk3 hv3 hq3 hsi4 H2
  go_wp2_with fail
  refine (same_any _ (by omega) (by omega) hq4 hq34).mono ?_
  rintro e w5 ⟨rfl, hsi5⟩
  have H4 := Lib.hid (since2 H3.out hsi5)
  have HT := Lib.hid (decide_eq_true (show len3 = len3 ∧ ∀ i, i < len3 → n0s gN (fun i => decide (z i = 12)) a5 (a4 % 2) x (pairsOf kd0 vl0 (fun i => cls (x i)) len3) i = n0s gN (fun i => decide (z i = 12)) a5 (a4 % 2) x (prs (bk kd0 vl0 (fun i => decide (cls (x i) = 10)) len3).cl len3) i from ⟨rfl, fun _ _ => rfl⟩))
  unfold sameB
  rw [HT.out]
  clear hsi5 H3
  go_wp2_with fail
  go_ret
  exact ⟨rfl, below_of_since H4.out⟩

/-! ### THE ROW's STEP -/
set_option maxRecDepth 100000 in
theorem contract (H : Type) (enc : TypeId × Value → H) (W : World) (base : Nat) (args : Array Value) (ds gs : List (DataW H)) (before : List MemPlace)
    (hval : ∀ (j : Nat) t v, Tryd.f6.params[j]? = some t → args[j]? = some v → Value.okWide Tryd.prog W .any base t v)
    (hW : DataW.Whole enc Tryd.prog Tryd.f6.params.toList Rows.fnBracketsAnswerSpec.vars false W args.toList ds gs before) (hL : laidMetH Tryd.prog Rows.fnBracketsAnswerRow.laid W) :
    Calls Tryd.prog 6 args W fun e W' => ∃ v, e = .returned v ∧ Rows.fnBracketsAnswerSpec.post enc Tryd.prog Tryd.f6 false true false false W args v W' := by
  have hW' := hW
  obtain ⟨p, q, hA0, hV, rfl, hfz, hnd⟩ := hW
  have hA : DataW.TrodAll enc Tryd.prog W 0 (fun _ => true) true Tryd.f6.params.toList args.toList ds p := hA0
  rw [Tryd.params6] at hA hval
  obtain ⟨v0, vs0, d0, ds0, p0, q0, hargs, rfl, rfl, h0, r0⟩ := trodAll_cons hA
  obtain ⟨v1, vs1, d1, ds1, p1, q1, rfl, rfl, rfl, h1, r1⟩ := trodAll_cons r0
  obtain ⟨v2, vs2, d2, ds2, p2, q2, rfl, rfl, rfl, h2, r2⟩ := trodAll_cons r1
  obtain ⟨v3, vs3, d3, ds3, p3, q3, rfl, rfl, rfl, h3, r3⟩ := trodAll_cons r2
  obtain ⟨v4, vs4, d4, ds4, p4, q4, rfl, rfl, rfl, h4, r4⟩ := trodAll_cons r3
  obtain ⟨v5, vs5, d5, ds5, p5, q5, rfl, rfl, rfl, h5, r5⟩ := trodAll_cons r4
  obtain ⟨rfl, rfl, rfl⟩ := trodAll_nil r5
  obtain rfl : args = #[v0, v1, v2, v3, v4, v5] := by cases args; simp_all
  obtain ⟨a0, len0, cap0, rfl⟩ := okWide_slice Tryd.underlying22 (hval 0 22 v0 rfl rfl)
  have k0 := h0
  have lt0 : ∀ x ∈ p0, x.block < W.heap.size := by obtain ⟨m, hm⟩ := k0; exact DataW.trod_lt m _ _ _ hm
  obtain ⟨z0, w0⟩ : ∃ zs, IsRow .i64 W a0 len0 cap0 zs := by
    obtain ⟨fuel, hf⟩ := h0
    rcases open_ints Tryd.underlying22 Tryd.underlying3 (by kernel_rfl) hf with ⟨hcs, _⟩ | ⟨x, l, c, zs, hcs, _, hl, hm, hz, _, hcell, hwz⟩
    · simp [Value.cells] at hcs
      obtain ⟨rfl, rfl, rfl⟩ := hcs
      exact ⟨[], .inl ⟨rfl, rfl, rfl, rfl⟩⟩
    · simp [Value.cells] at hcs
      obtain ⟨rfl, rfl, rfl⟩ := hcs
      exact ⟨zs, .inr ⟨_, rfl, hl, hm, by simpa using hz, hcell, hwz⟩⟩
  obtain ⟨a1, len1, cap1, rfl⟩ := okWide_slice Tryd.underlying22 (hval 1 22 v1 rfl rfl)
  have k1 := h1
  have lt1 : ∀ x ∈ p1, x.block < W.heap.size := by obtain ⟨m, hm⟩ := k1; exact DataW.trod_lt m _ _ _ hm
  obtain ⟨z1, w1⟩ : ∃ zs, IsRow .i64 W a1 len1 cap1 zs := by
    obtain ⟨fuel, hf⟩ := h1
    rcases open_ints Tryd.underlying22 Tryd.underlying3 (by kernel_rfl) hf with ⟨hcs, _⟩ | ⟨x, l, c, zs, hcs, _, hl, hm, hz, _, hcell, hwz⟩
    · simp [Value.cells] at hcs
      obtain ⟨rfl, rfl, rfl⟩ := hcs
      exact ⟨[], .inl ⟨rfl, rfl, rfl, rfl⟩⟩
    · simp [Value.cells] at hcs
      obtain ⟨rfl, rfl, rfl⟩ := hcs
      exact ⟨zs, .inr ⟨_, rfl, hl, hm, by simpa using hz, hcell, hwz⟩⟩
  obtain ⟨a2, len2, cap2, rfl⟩ := okWide_slice Tryd.underlying22 (hval 2 22 v2 rfl rfl)
  have k2 := h2
  have lt2 : ∀ x ∈ p2, x.block < W.heap.size := by obtain ⟨m, hm⟩ := k2; exact DataW.trod_lt m _ _ _ hm
  obtain ⟨z2, w2⟩ : ∃ zs, IsRow .i64 W a2 len2 cap2 zs := by
    obtain ⟨fuel, hf⟩ := h2
    rcases open_ints Tryd.underlying22 Tryd.underlying3 (by kernel_rfl) hf with ⟨hcs, _⟩ | ⟨x, l, c, zs, hcs, _, hl, hm, hz, _, hcell, hwz⟩
    · simp [Value.cells] at hcs
      obtain ⟨rfl, rfl, rfl⟩ := hcs
      exact ⟨[], .inl ⟨rfl, rfl, rfl, rfl⟩⟩
    · simp [Value.cells] at hcs
      obtain ⟨rfl, rfl, rfl⟩ := hcs
      exact ⟨zs, .inr ⟨_, rfl, hl, hm, by simpa using hz, hcell, hwz⟩⟩
  obtain ⟨a3, len3, cap3, rfl⟩ := okWide_slice Tryd.underlying22 (hval 3 22 v3 rfl rfl)
  have k3 := h3
  have lt3 : ∀ x ∈ p3, x.block < W.heap.size := by obtain ⟨m, hm⟩ := k3; exact DataW.trod_lt m _ _ _ hm
  obtain ⟨z3, w3⟩ : ∃ zs, IsRow .i64 W a3 len3 cap3 zs := by
    obtain ⟨fuel, hf⟩ := h3
    rcases open_ints Tryd.underlying22 Tryd.underlying3 (by kernel_rfl) hf with ⟨hcs, _⟩ | ⟨x, l, c, zs, hcs, _, hl, hm, hz, _, hcell, hwz⟩
    · simp [Value.cells] at hcs
      obtain ⟨rfl, rfl, rfl⟩ := hcs
      exact ⟨[], .inl ⟨rfl, rfl, rfl, rfl⟩⟩
    · simp [Value.cells] at hcs
      obtain ⟨rfl, rfl, rfl⟩ := hcs
      exact ⟨zs, .inr ⟨_, rfl, hl, hm, by simpa using hz, hcell, hwz⟩⟩
  obtain ⟨a4, rfl, rfl, rfl, w4⟩ := open_int Tryd.underlying3 (hval 4 3 v4 rfl rfl) h4
  obtain ⟨a5, rfl, rfl, rfl, w5⟩ := open_int Tryd.underlying3 (hval 5 3 v5 rfl rfl) h5
  obtain ⟨g, tv, cs, fuel, dv, pv, rfl, hg1, hg2, hg3, hg4, rfl⟩ := trodVars_one hV
  obtain rfl : g = 0 := Option.some.inj (hg1.symm.trans gTab)
  obtain rfl : tv = 81 := Option.some.inj (hg2.symm.trans gTabType)
  have ltv : ∀ x ∈ pv, x.block < W.heap.size := DataW.trod_lt fuel _ _ _ hg4
  have hT := tab hL
  clear hA0
  refine (walk a0 len0 cap0 z0 a1 len1 cap1 z1 a2 len2 cap2 z2 a3 len3 cap3 z3 a4 a5 W w0 w1 w2 w3 w4 w5 hT).mono fun e W' ⟨he, bel⟩ => ?_
  subst he
  have hg4' := DataW.trod_stays (sp' := fun b => decide (b < W.heap.size)) (w' := W') (kids_book laidOut (by kernel_rfl)) (book_sized (by kernel_rfl)) (fun h => by cases h) ⟨of_decide_eq_true (by kernel_rfl), book_self 81⟩ hg4 (fun x hx => bel.same (ltv x hx)) (fun x hx => by simpa using ltv x hx)
  exact ⟨_, rfl, _, _, _, [], _, _, hW', trodAll_mk1 (shut_bool Tryd.underlying4 _), (trodAll_cons_mk (Below.trod laidOut (by kernel_rfl) (of_decide_eq_true (by kernel_rfl)) k0 bel lt0) (trodAll_cons_mk (Below.trod laidOut (by kernel_rfl) (of_decide_eq_true (by kernel_rfl)) k1 bel lt1) (trodAll_cons_mk (Below.trod laidOut (by kernel_rfl) (of_decide_eq_true (by kernel_rfl)) k2 bel lt2) (trodAll_cons_mk (Below.trod laidOut (by kernel_rfl) (of_decide_eq_true (by kernel_rfl)) k3 bel lt3) (trodAll_cons_mk (shut_int Tryd.underlying3 w4) (trodAll_cons_mk (shut_int Tryd.underlying3 w5) trodAll_mk0)))))), trodVars_mk1 hg1 hg2 (var?_below bel hg1 hT.lt hg3) hg4', bel.frame _, fun h => by cases h⟩

/-- A world for the witness: the table holding what its initialiser lays. -/
noncomputable def laidWorld (os : Os) : World :=
  { World.holding Tryd.prog os ⟨#[], #[], []⟩ with heap := (World.holding Tryd.prog os ⟨#[], #[], []⟩).heap.modify 0 fun
      | .cells _ t frozen => .cells (tabZ.map fun z => Value.int .u64 z).toArray t frozen
      | o => o }
theorem laid_met (os : Os) : laidMet Tryd.prog Rows.fnBracketsAnswerRow.laid ((laidWorld os).forCall (fun _ _ => 0) ⟨#[], #[.slice none 0 0, .slice none 0 0, .slice none 0 0, .slice none 0 0, .int .i64 0, .int .i64 0], []⟩).memory :=
  laidMet_of_run' 8 (by kernel_rfl) (by kernel_rfl)
theorem reads (os : Os) {H : Type} (enc : TypeId × Value → H) : ∃ places, DataW.whole enc Tryd.prog ((laidWorld os).forCall (fun _ _ => 0) ⟨#[], #[.slice none 0 0, .slice none 0 0, .slice none 0 0, .slice none 0 0, .int .i64 0, .int .i64 0], []⟩).memory Tryd.f6.params.toList Rows.fnBracketsAnswerSpec.vars false (#[.slice none 0 0, .slice none 0 0, .slice none 0 0, .slice none 0 0, .int .i64 0, .int .i64 0] : Array Value).toList 8 = some ([.nil, .nil, .nil, .nil, .lit (.int .i64 0), .lit (.int .i64 0)], [Rows.laid_loop_example_pub_g01449_impl_classes], places) :=
  ⟨MemPlace.row ⟨0, 0, none⟩ 23, by kernel_rfl⟩

set_option maxRecDepth 100000 in
theorem lifted (os : Os) (started : os.Started) (H : Type) (enc : TypeId × Value → H) (F : Stop.Interp) :
    ReturnsInHanded {} Tryd.checked os 6 .any ((OpenSpec.ofChange Rows.fnBracketsAnswerSpec).preRow enc Tryd.prog Tryd.f6 Rows.fnBracketsAnswerRow.domain false Rows.fnBracketsAnswerRow.laid) (((OpenSpec.ofChange Rows.fnBracketsAnswerSpec).at F).post enc Tryd.prog Tryd.f6 false true false false) := by
  obtain ⟨places, hx⟩ := reads os enc
  refine returnsInHanded_of_row (C := Tryd.checked) (s := OpenSpec.ofChange Rows.fnBracketsAnswerSpec) own started (by kernel_rfl) Tryd.func6
    (witness_row_at (enc := enc) (C := Tryd.checked) false (laidWorld os) #[.slice none 0 0, .slice none 0 0, .slice none 0 0, .slice none 0 0, .int .i64 0, .int .i64 0] rfl (by kernel_rfl) (by kernel_rfl) (by kernel_rfl)
      (OpenSpec.preRow_of_cond 8 hx (by kernel_rfl) (fun k hk => by cases hk) (by kernel_rfl) (laid_met os))) ?_
  intro W base args ds gs before hval hW _ _ _ hL _ _
  exact contract H enc W base args ds gs before hval hW hL

theorem said : Rows.FnBracketsAnswerSaid :=
  OpenClaim.holds_of_cond 6 Tryd.f6 rfl rfl rfl rfl rfl rfl rfl ⟨rfl, rfl, rfl, rfl, rfl⟩ rfl rfl rfl rfl rfl (by kernel_rfl) Tryd.func6 (by kernel_rfl)
    (of_decide_eq_true (by kernel_rfl)) (by unfold Func.isWrapper; first | (rw [if_pos (by decide +kernel)]; kernel_rfl) | (rw [if_neg (by decide +kernel)]; exact ⟨rfl, rfl⟩))
    (fun os started H enc _ F => by rw [OpenClaim.pre_eq_preRow]; exact lifted os started H enc F)

theorem plain (f : FuncId) (fn : Func) (hf : Tryd.pinned.checked.prog.funcNamed Rows.fnBracketsAnswerRow.func = some f) (hfn : Tryd.pinned.checked.prog.funcs[f]? = some fn) :
    true = Tryd.pinned.checked.prog.looks [] ∧ ∀ (j : Nat) t, fn.params[j]? = some t → Tryd.pinned.checked.prog.wantsStandIn t = false := by
  obtain rfl : f = 6 := Option.some.inj ((show Tryd.prog.funcNamed Rows.fnBracketsAnswerRow.func = some 6 by kernel_rfl).symm.trans hf) |>.symm
  obtain rfl : fn = Tryd.f6 := (Option.some.inj (Tryd.func6.symm.trans hfn)).symm
  refine ⟨by kernel_rfl, fun j t ht => ?_⟩
  rw [Tryd.params6] at ht
  have ht2 : t = 22 ∨ t = 22 ∨ t = 22 ∨ t = 22 ∨ t = 3 ∨ t = 3 := by simpa using Array.mem_of_getElem? ht
  rcases ht2 with rfl | rfl | rfl | rfl | rfl | rfl
  · exact (show Tryd.prog.wantsStandIn 22 = false by kernel_rfl)
  · exact (show Tryd.prog.wantsStandIn 22 = false by kernel_rfl)
  · exact (show Tryd.prog.wantsStandIn 22 = false by kernel_rfl)
  · exact (show Tryd.prog.wantsStandIn 22 = false by kernel_rfl)
  · exact (show Tryd.prog.wantsStandIn 3 = false by kernel_rfl)
  · exact (show Tryd.prog.wantsStandIn 3 = false by kernel_rfl)

/-- THE CARD. -/
theorem proved : Rows.FnBracketsAnswerCardSaid :=
  Claim7.holds_tied_plain_at .later [] _ _ _ _ said (fun _ h => by cases h) (by kernel_rfl) (fun _ h => by cases h) fnBracketsAnswer_row_tie rfl ⟨rfl, rfl⟩ (by kernel_rfl) rfl plain (by kernel_rfl)
#print axioms proved
end Go.Proofs.YtmaieenphcnefaaDoor.fnBracketsAnswer
