/- The law FnBracketsKeep, its tied card: for every input the call returns true, and each argument and the table of classes read afterwards as before. The row's one condition, that the table starts as the program's text lays it, is tied to the text by the given tie. -/
import Derived.Test.YtmaieenphcnefaaDoorCards
import Derived.Test.YtmaieenphcnefaaDoorTie
import Derived.Test.YtmaieenphcnefaaDoorLawB
import Derived.Test.YtmaieenphcnefaaDoorLL2
import Derived.WalkKit
import Derived.ProofKit
import Derived.OpenShut
import Derived.ShutString
import Derived.ChangeOld
import Derived.ChangeVars
import Derived.WalkSmall
import Derived.Below
import Derived.Deep.DeepHandedRow
import Derived.Lib.LaidTab
namespace Go.Proofs.YtmaieenphcnefaaDoor.fnBracketsKeep
open Go.ChangeShapes Go.WideShapes Go.ChangeAt Go.RowKit
open Go.ChangeMaps (open_string shut_string)
set_option linter.unusedVariables false

theorem own : ownKnob Tryd.prog.godebug = none := by kernel_rfl
theorem laidOut : laidOutB Tryd.prog = true := by kernel_rfl
/-- The table's name. -/
def tabName : String := Rows.fnBracketsKeepSpec.vars.headD ""
theorem gTab : Tryd.prog.globalNamed tabName = some 0 := by kernel_rfl
theorem gTabType : (Tryd.prog.globals[0]?).map (·.type) = some 81 := by kernel_rfl
theorem cellsT : Tryd.prog.cellsOf 81 = 23 := by kernel_rfl
theorem cellsC : Tryd.prog.cellsOf 56 = 1 := by kernel_rfl
def tabZ : List Int := [0, 1, 2, 3, 4, 5, 6, 7, 8, 9, 10, 11, 12, 13, 16, 17, 18, 19, 20, 21, 22, 23, 24]

/-- What the row's list gives. -/
theorem table {W : World} (h : laidMetH Tryd.prog Rows.fnBracketsKeepRow.laid W) : Lib.TabIs Tryd.prog W tabName .u64 tabZ :=
  Lib.tabIs_of_head (rest := []) gTab gTabType Tryd.underlying81 Tryd.underlying56 cellsC cellsT h
theorem tab {W : World} (h : laidMetH Tryd.prog Rows.fnBracketsKeepRow.laid W) : Tab W := fun i hi => by
  have h1 := (table h).cell gTab i (by simpa [tabZ] using hi)
  rw [h1]
  congr 2
  have : ∀ j : Fin 23, tabZ.getD j.val 0 = cls (j.val : Int) := by decide
  exact this ⟨i, hi⟩

/-- What the walk is told of a slice of integers that came in. -/
def IsRow (k : IntKind) (w : World) (a : Option Addr) (len cap : Nat) (zs : List Int) : Prop :=
  (a = none ∧ len = 0 ∧ cap = 0 ∧ zs = []) ∨
  ∃ x, a = some x ∧ len ≤ cap ∧ cap ≤ maxLen ∧ zs.length = cap ∧ (∀ i, i < zs.length → w.cell? (x.add i) = some (.int k (zs.getD i 0))) ∧ ∀ n ∈ zs, (Lit.int k n).wf = true

set_option maxHeartbeats 4000000 in
set_option maxRecDepth 100000 in
theorem walk (a0 : Option Addr) (len0 cap0 : Nat) (z0 : List Int) (a1 : Option Addr) (len1 cap1 : Nat) (z1 : List Int) (a2 : Option Addr) (len2 cap2 : Nat) (z2 : List Int) (a3 : Option Addr) (len3 cap3 : Nat) (z3 : List Int) (a4 : Int) (a5 : Int) (w : World) (w0 : IsRow .i64 w a0 len0 cap0 z0) (w1 : IsRow .i64 w a1 len1 cap1 z1) (w2 : IsRow .i64 w a2 len2 cap2 z2) (w3 : IsRow .i64 w a3 len3 cap3 z3) (w4 : (Lit.int .i64 a4).wf = true) (w5 : (Lit.int .i64 a5).wf = true) (ht : Tab w) :
    Calls Tryd.prog 7 #[.slice a0 len0 cap0, .slice a1 len1 cap1, .slice a2 len2 cap2, .slice a3 len3 cap3, .int .i64 a4, .int .i64 a5] w fun e w' => e = .returned (.bool true) ∧ Below w.heap.size w w' := by
  obtain ⟨b0, o0, hr0⟩ := sees_of_row w0
  obtain ⟨x0, hx0⟩ : ∃ x : Nat → Int, Sees w a0 b0 o0 len0 cap0 (fun i => .int .i64 (x i)) := ⟨_, hr0⟩
  obtain ⟨b1, o1, hr1⟩ := sees_of_row w1
  obtain ⟨z0, hz0⟩ : ∃ x : Nat → Int, Sees w a1 b1 o1 len1 cap1 (fun i => .int .i64 (x i)) := ⟨_, hr1⟩
  obtain ⟨b2, o2, hr2⟩ := sees_of_row w2
  obtain ⟨kd0, hkd0⟩ : ∃ x : Nat → Int, Sees w a2 b2 o2 len2 cap2 (fun i => .int .i64 (x i)) := ⟨_, hr2⟩
  obtain ⟨b3, o3, hr3⟩ := sees_of_row w3
  obtain ⟨vl0, hvl0⟩ : ∃ x : Nat → Int, Sees w a3 b3 o3 len3 cap3 (fun i => .int .i64 (x i)) := ⟨_, hr3⟩
  clear hr0 hr1 hr2 hr3 w0 w1 w2 w3 w4 w5
  by_cases hn0 : len0 ≤ 2147483647
  case neg =>
    have hb : (2147483647 : Int) < (len0 : Int) := by omega
    go_enter Tryd.func7, Tryd.ntmps7
    go_wp2_with fail
    go_ret
    exact ⟨rfl, Below.refl _ _⟩
  by_cases hn1 : len1 ≤ 2147483647
  case neg =>
    have hb : (2147483647 : Int) < (len1 : Int) := by omega
    go_enter Tryd.func7, Tryd.ntmps7
    go_wp2_with fail
    go_ret
    exact ⟨rfl, Below.refl _ _⟩
  by_cases hn2 : len2 ≤ 2147483647
  case neg =>
    have hb : (2147483647 : Int) < (len2 : Int) := by omega
    go_enter Tryd.func7, Tryd.ntmps7
    go_wp2_with fail
    go_ret
    exact ⟨rfl, Below.refl _ _⟩
  by_cases hn3 : len3 ≤ 2147483647
  case neg =>
    have hb : (2147483647 : Int) < (len3 : Int) := by omega
    go_enter Tryd.func7, Tryd.ntmps7
    go_wp2_with fail
    go_ret
    exact ⟨rfl, Below.refl _ _⟩
  by_cases h0 : len0 = 0
  case pos =>
    subst h0
    go_enter Tryd.func7, Tryd.ntmps7
    go_wp2_with fail
    go_ret
    exact ⟨rfl, Below.refl _ _⟩
  have hpos : 0 < len0 := by omega
  have hb0 : ((len0 : Int) == 0) = false := beq_eq_false_iff_ne.2 (by omega)
  by_cases hl : len1 = len0
  case neg =>
    have hlb : ((len1 : Int) != (len0 : Int)) = true := bne_iff_ne.2 (by omega)
    go_enter Tryd.func7, Tryd.ntmps7
    go_wp2_with fail
    go_ret
    exact ⟨rfl, Below.refl _ _⟩
  subst hl
  have hlb : ((len1 : Int) != (len1 : Int)) = false := by simp
  clear h0
  have hx : Sees w a0 b0 o0 len1 cap0 (fun i => .int .i64 ((fun i => if i < len1 then x0 i else 10) i)) := hx0.congr (fun i hi => by simp [hi])
  have hz : Sees w a1 b1 o1 len1 cap1 (fun i => .int .i64 ((fun i => if i < len1 then z0 i else 10) i)) := hz0.congr (fun i hi => by simp [hi])
  obtain ⟨x, hxd⟩ : ∃ x : Nat → Int, x = fun i => if i < len1 then x0 i else 10 := ⟨_, rfl⟩
  obtain ⟨z, hzd⟩ : ∃ z : Nat → Int, z = fun i => if i < len1 then z0 i else 10 := ⟨_, rfl⟩
  rw [← hxd] at hx
  rw [← hzd] at hz
  have HXT := Lib.hid (show ∀ i, len1 ≤ i → x i = 10 from fun i hi => by rw [hxd]; exact if_neg (by omega))
  have HZT := Lib.hid (show ∀ i, len1 ≤ i → z i = 10 from fun i hi => by rw [hzd]; exact if_neg (by omega))
  clear hx0 hz0 hxd hzd
  go_enter Tryd.func7, Tryd.ntmps7
  go_wp2_with fail
  refine (areNeutral_any _ (by omega) hx).mono ?_
  rintro e w1 ⟨rfl, rfl⟩
  by_cases hc : allB ofNeu x len1 = true
  case neg =>
    have hc' : allB ofNeu x len1 = false := by simpa using hc
    rw [hc']
    clear hc hc'
    go_wp2_with fail
    go_ret
    exact ⟨rfl, Below.refl _ _⟩
  rw [hc]
  have HXN := Lib.hid hc
  clear hc
  go_wp2_with fail
  refine (areWeak_any _ (by omega) hz).mono ?_
  rintro e w1 ⟨rfl, rfl⟩
  by_cases hw : allB ofWeak z len1 = true
  case neg =>
    have hw' : allB ofWeak z len1 = false := by simpa using hw
    rw [hw']
    clear hw hw'
    go_wp2_with fail
    go_ret
    exact ⟨rfl, Below.refl _ _⟩
  rw [hw]
  have HZW := Lib.hid hw
  clear hw
  go_wp2_with fail
  refine (areBrackets_any _ (by omega) (by omega) (by omega) hkd0 hvl0).mono ?_
  rintro e w1 ⟨rfl, rfl⟩
  by_cases hb : brB len1 len2 len3 kd0 vl0 = true
  case neg =>
    have hb' : brB len1 len2 len3 kd0 vl0 = false := by simpa using hb
    rw [hb']
    clear hb hb'
    go_wp2_with fail
    go_ret
    exact ⟨rfl, Below.refl _ _⟩
  rw [hb]
  obtain ⟨rfl, rfl, hbr⟩ := (of_decide_eq_true hb : len2 = len1 ∧ len3 = len1 ∧ ∀ i, i < len2 → brOk (kd0 i) (vl0 i))
  have HKD := Lib.hid (show ∀ j, j < len3 → kd0 j = 0 ∨ kd0 j = 1 ∨ kd0 j = 2 from fun j hj => brOk_kd (hbr j hj))
  have HVL := Lib.hid (show ∀ j, j < len3 → 0 ≤ vl0 j ∧ vl0 j ≤ 1114111 from fun j hj => brOk_vl (hbr j hj))
  have HVK := Lib.hid (show ∀ j, j < len3 → vl0 j ≤ 1114111 ∧ (kd0 j ≠ 0 → 1 ≤ vl0 j) from fun j hj => brOk_vk (hbr j hj))
  clear hb hbr
  go_wp2_with fail
  refine (openings_any _ (by omega) hkd0).mono ?_
  rintro e w1 ⟨rfl, rfl⟩
  by_cases ho : ops kd0 len3 ≤ 63
  case neg =>
    have ho' : (63 : Int) < ((ops kd0 len3 : Nat) : Int) := by omega
    obtain ⟨P, hP⟩ : ∃ P, P = ops kd0 len3 := ⟨_, rfl⟩
    rw [← hP] at ho'
    rw [← hP]
    clear hP ho
    go_wp2_with fail
    go_ret
    exact ⟨rfl, Below.refl _ _⟩
  have HOP := Lib.hid ho
  have ho' : ¬ ((63 : Int) < ((ops kd0 len3 : Nat) : Int)) := by omega
  obtain ⟨P, hP⟩ : ∃ P, P = ops kd0 len3 := ⟨_, rfl⟩
  rw [← hP] at ho'
  rw [← hP]
  clear hP ho
  by_cases hl0 : a4 < 0
  case pos =>
    go_wp2_with fail
    go_ret
    exact ⟨rfl, Below.refl _ _⟩
  have hl0' : 0 ≤ a4 := by omega
  by_cases hl1 : 125 < a4
  case pos =>
    go_wp2_with fail
    go_ret
    exact ⟨rfl, Below.refl _ _⟩
  have hl1' : a4 ≤ 125 := by omega
  go_wp2_with fail
  refine (isSide_any _ _).mono ?_
  rintro e w1 ⟨rfl, rfl⟩
  by_cases hs2 : sideB a5 = true
  case neg =>
    have hs' : sideB a5 = false := by simpa using hs2
    rw [hs']
    clear hs2 hs'
    go_wp2_with fail
    go_ret
    exact ⟨rfl, Below.refl _ _⟩
  rw [hs2]
  have HSD := Lib.hid (sideB_iff.1 hs2)
  clear hs2
  go_wp2_with fail
  refine (marked_any _ (by omega) hz hkd0).mono ?_
  rintro e w1 ⟨rfl, rfl⟩
  by_cases hmk : markB len3 z kd0 = true
  case pos =>
    rw [hmk]
    clear hmk
    go_wp2_with fail
    go_ret
    exact ⟨rfl, Below.refl _ _⟩
  have hmk' : markB len3 z kd0 = false := by simpa using hmk
  rw [hmk']
  have HMK := Lib.hid (show ∀ i, i < len3 → 0 < kd0 i → z i ≠ 12 from fun i hi h1 h2 => hmk (decide_eq_true ⟨i, hi, h1, h2⟩))
  clear hmk hmk'
  have HXA := Lib.hid (show ∀ i, memB ofNeu (x i) = true from fun i => by
    by_cases h : i < len3
    · exact allB_get HXN.out h
    · rw [HXT.out i (by omega)]; decide)
  have HXO := Lib.hid (show ∀ i, clsOk (x i) from fun i => by
    by_cases h : i < len3
    · exact ofNeu_ok HXN.out i h
    · rw [HXT.out i (by omega)]; exact ⟨by omega, by omega⟩)
  have HZM := Lib.hid (show (fun i => decide (cls (z i) = 12)) = (fun i => decide (z i = 12)) from funext fun i => by
    by_cases h : i < len3
    · have h1 := memB_iff.1 (allB_get HZW.out h)
      unfold ofWeak at h1
      exact cls_twelve (by simp only [List.mem_cons, List.not_mem_nil, or_false] at h1; omega)
    · rw [HZT.out i (by omega)]; rfl)
  have HNN := Lib.hid (show ∀ i, i < len3 → (fun i => decide (cls (x i) = 10)) i = decide (x i = 10) from fun i hi => cls_ten (HXO.out i))
  go_wp2_with fail
  refine (implPairs_any _ ht (by omega) (by omega) hx hkd0 hvl0 HKD.out HVL.out).mono ?_
  rintro e w1 ⟨v1, rfl, hl1, hsi1⟩
  have ht1 := ht.since hsi1
  have hx1 := hx.since hsi1
  have hz1 := hz.since hsi1
  have hk1 := hkd0.since hsi1
  have hv1 := hvl0.since hsi1
  obtain ⟨P0, P1, hPO⟩ := keep_ok (x := x) (z := z) (kd := kd0) (vl := vl0) (n := len3) (s := a5) (e := a4 % 2) HSD.out (by omega) (fun i _ => HXO.out i) HKD.out HOP.out HMK.out
  obtain ⟨R, hR⟩ : ∃ R, R = pairLists (pairsOf kd0 vl0 (fun i => cls (x i)) len3) := ⟨_, rfl⟩
  rw [← hR] at hl1 hPO
  obtain ⟨ao1, c1, rfl⟩ := hl1.form
  have H1 := Lib.hid hsi1
  have HL1 := Lib.hid hl1
  have HPO := Lib.hid hPO
  clear ht hx hz hkd0 hvl0 hsi1 hl1 hPO hR
  go_wp2_with fail
  refine (implBrackets_any _ ht1 (by omega) (by omega) hx1 hz1 hk1 hv1 HXO.out HKD.out HVL.out HSD.out (by omega) (by omega)).mono ?_
  rintro e w2 ⟨q2, bN, oN, cN, rfl, hq2, hf2, hsi2⟩
  rw [HZM.out] at hq2
  obtain ⟨NN, hNN⟩ : ∃ NN, NN = n0s gN (fun i => decide (z i = 12)) a5 (a4 % 2) x (pairsOf kd0 vl0 (fun i => cls (x i)) len3) := ⟨_, rfl⟩
  have hPO := HPO.out
  rw [← hNN] at hq2 hPO
  clear HPO
  have HPO := Lib.hid hPO
  have hRn := hPO.len
  have HX := Lib.hid (hx1.since hsi2)
  have HZ := Lib.hid (hz1.since hsi2)
  have HN := Lib.hid hq2
  obtain ⟨_, bb, _, hll⟩ := (HL1.out.since hsi2).sees
  have HLL := Lib.hid hll
  have HSI := Lib.hid (since2 H1.out hsi2)
  clear ht1 hx1 hz1 hk1 hv1 hq2 hf2 hsi2 hNN hPO hll HL1 H1 HXN HXT HZT HKD HVL HVK HOP HMK HXA HZM HNN HSD HZW
  have hmk := run_make_row' (P := Tryd.prog) 38 4 (.bool false) 1 Tryd.underlying38 Tryd.infoBool rfl .i64 .i64 len3 (by omega) (by omega)
  go_wp2_with fail
  clear hmk
  go_loopg [18, 106] R.length (fun g _ i wr => ∃ k : Nat, k ≤ R.length ∧ g = R.length - k ∧ i = .int .i64 k ∧ Hid (wr.rowIs w2.heap.size 4 len3 (fun i => .bool (inB P0 P1 k i))) ∧ Hid (w2.Since w2.heap.size wr))
  case atStart => exact ⟨0, Nat.zero_le _, rfl, rfl, (World.rowIs_made w2 _ len3 4).congr (fun j _ => by rw [inB_zero]), (World.Since.refl _ _).alloc (Nat.le_refl _) _⟩
  case round =>
    obtain ⟨k, hk, rfl, rfl, HROW, HSE⟩ := hrel
    by_cases hkn : k < R.length
    · have hkz : (k : Int) < (R.length : Int) := by omega
      obtain ⟨f1, q1, r1⟩ := HLL.out
      have hRc := q1.le
      obtain ⟨rfl, hc⟩ := q1.get hkn
      obtain ⟨a3', b3', o3', c3', e3, s3⟩ := r1 k hkn
      have hp := HPO.out.row k hkn
      rw [e3] at hc
      rw [hp] at s3 hc
      obtain ⟨rfl, d0⟩ := s3.get (i := 0) (by simp)
      obtain ⟨_, d1⟩ := s3.get (i := 1) (by simp)
      have hle : 2 ≤ c3' := s3.le
      obtain ⟨hlt0, hlt1⟩ := HPO.out.lt k hkn
      have hsame := HPO.out.same k hkn
      obtain ⟨rfl, g0⟩ := HN.out.get (show P0 k < len3 by omega)
      obtain ⟨_, g1⟩ := HN.out.get (show P1 k < len3 by omega)
      (try dsimp only at g0 g1)
      rw [hsame] at g0
      obtain ⟨V, hV⟩ : ∃ V, V = NN (P1 k) := ⟨_, rfl⟩
      rw [← hV] at g0 g1
      change _ = some (Value.int .i64 ((P0 k : Nat) : Int)) at d0
      change _ = some (Value.int .i64 ((P1 k : Nat) : Int)) at d1
      change _ = some (Value.slice (some ⟨b3', o3', none⟩) 2 c3') at hc
      rw [Nat.add_zero] at d0
      have HST := Lib.hid (fun i => inB_step (P0 := P0) (P1 := P1) (k := k) (i := i))
      obtain ⟨p0, h0⟩ : ∃ p0, p0 = P0 k := ⟨_, rfl⟩
      obtain ⟨p1, h1⟩ : ∃ p1, p1 = P1 k := ⟨_, rfl⟩
      rw [← h0] at d0 hlt0 g0 HST
      rw [← h1] at d1 hlt0 hlt1 g1 HST
      have hn0 : ¬ ((p0 : Int) < 0) := by omega
      have hn1 : ¬ ((p1 : Int) < 0) := by omega
      have hn2 : ¬ ((len3 : Int) ≤ (p0 : Int)) := by omega
      have hn3 : ¬ ((len3 : Int) ≤ (p1 : Int)) := by omega
      have hm2 : ¬ (len3 ≤ p0) := by omega
      have hm3 : ¬ (len3 ≤ p1) := by omega
      have hp0n : p0 < len3 := by omega
      have hp0z : (p0 : Int) < (len3 : Int) := by omega
      have hp1z : (p1 : Int) < (len3 : Int) := by omega
      have hNc : len3 ≤ cN := HN.out.le
      have key : ∀ a v, w2.cell? a = some v → wr.cell? a = some v := fun a v h => (HSE.out.cell (World.block_lt_of_cell? _ _ h)).trans h
      have HCELL := Lib.hid (show wr.cell? ⟨bb, 0 + k, none⟩ = some (Value.slice (some ⟨b3', o3', none⟩) 2 c3') ∧ wr.cell? ⟨b3', o3', none⟩ = some (Value.int .i64 ((p0 : Nat) : Int)) ∧ wr.cell? ⟨b3', o3' + 1, none⟩ = some (Value.int .i64 ((p1 : Nat) : Int)) ∧
        wr.cell? ⟨bN, oN + p0, none⟩ = some (.int .i64 V) ∧ wr.cell? ⟨bN, oN + p1, none⟩ = some (.int .i64 V) from ⟨key _ _ hc, key _ _ d0, key _ _ d1, key _ _ g0, key _ _ g1⟩)
      clear hc d0 d1 g0 g1 r1 q1 e3 s3 hp hV h0 h1 key hsame
      obtain ⟨u0, u1, u2, u3, u4⟩ := HCELL.out
      rw [Nat.zero_add] at u0
      go_wp2_with fail
      go_quiet (fail)
      go_wp2_with fail
      obtain ⟨wa, hwa⟩ : ∃ wa, wa = wr.drewN nq := ⟨_, rfl⟩
      rw [← hwa]
      have HRA := Lib.hid (show wa.rowIs w2.heap.size 4 len3 (fun i => .bool (inB P0 P1 k i)) by rw [hwa]; exact HROW.out)
      have HSA := Lib.hid (show w2.Since w2.heap.size wa by rw [hwa]; exact since_drewN HSE.out nq)
      have u0' : wa.cell? ⟨bb, k, none⟩ = some (Value.slice (some ⟨b3', o3', none⟩) 2 c3') := by rw [hwa]; exact u0
      have u1' : wa.cell? ⟨b3', o3', none⟩ = some (Value.int .i64 ((p0 : Nat) : Int)) := by rw [hwa]; exact u1
      have u2' : wa.cell? ⟨b3', o3' + 1, none⟩ = some (Value.int .i64 ((p1 : Nat) : Int)) := by rw [hwa]; exact u2
      clear u0 u1 u2 u3 u4 hwa HCELL HROW HSE
      have f0 := HRA.out.frozen p0
      have f1 := HRA.out.frozen p1
      have x0 := HRA.out.cell (i := p0) (by omega)
      have x1 := HRA.out.cell (i := p1) (by omega)
      have R2 := Lib.hid ((((HRA.out.set p0 (.bool true)).set p1 (.bool true)).congr (g := fun i => .bool (inB P0 P1 (k + 1) i)) (fun i _ => by
        rw [HST.out i]
        by_cases e1 : i = p1
        · rw [if_pos e1, if_pos e1]
        · rw [if_neg e1, if_neg e1]
          by_cases e0 : i = p0
          · rw [if_pos e0, if_pos e0]
          · rw [if_neg e0, if_neg e0])).drew)
      have S2 := Lib.hid (((HSA.out.setCell (a := ⟨w2.heap.size, p0, none⟩) (Nat.le_refl _) (.bool true)).setCell (a := ⟨w2.heap.size, p1, none⟩) (Nat.le_refl _) (.bool true)).drew)
      obtain ⟨I0, hI0⟩ : ∃ I0, I0 = inB P0 P1 k p0 := ⟨_, rfl⟩
      obtain ⟨I1, hI1⟩ : ∃ I1, I1 = inB P0 P1 k p1 := ⟨_, rfl⟩
      rw [← hI0] at x0
      rw [← hI1] at x1
      clear hI0 hI1
      go_region
      go_wp2_with fail
      go_roundg (R.length - (k + 1))
      case rel => exact ⟨k + 1, by omega, rfl, by go_num, R2.out, S2.out⟩
      case measure => omega
    · obtain rfl : k = R.length := by omega
      obtain ⟨wE, hwE⟩ : ∃ wE, wE = wr := ⟨_, rfl⟩
      have HRE := Lib.hid (show wE.rowIs w2.heap.size 4 len3 (fun i => .bool (inB P0 P1 R.length i)) by rw [hwE]; exact HROW.out)
      have HSE2 := Lib.hid (show w.Since w.heap.size wE by rw [hwE]; exact since2 HSI.out HSE.out)
      have HXE := Lib.hid (show Sees wE a0 b0 o0 len3 cap0 (fun i => .int .i64 (x i)) by rw [hwE]; exact HX.out.since HSE.out)
      have HZE := Lib.hid (show Sees wE a1 b1 o1 len3 cap1 (fun i => .int .i64 (z i)) by rw [hwE]; exact HZ.out.since HSE.out)
      have HNE := Lib.hid (show Sees wE q2 bN oN len3 cN (fun i => .int .i64 (NN i)) by rw [hwE]; exact HN.out.since HSE.out)
      have HDE := Lib.hid (show Drawn wE wr by rw [hwE]; exact Drawn.refl _)
      clear hwE HROW HSE HSI HX HZ HN
      go_wp2_with fail
      go_loopg [19, 20, 167] len3 (fun g _ _ i wr => ∃ m : Nat, m ≤ len3 ∧ g = len3 - m ∧ i = .int .i64 m ∧ Hid (Drawn wE wr))
      case atStart => exact ⟨0, Nat.zero_le _, rfl, rfl, HDE⟩
      case round =>
        rename World => wo
        clear HDE
        obtain ⟨m, hm, rfl, rfl, HD⟩ := hrel
        by_cases hmn : m < len3
        · have hmz : (m : Int) < (len3 : Int) := by omega
          obtain ⟨rfl, g0⟩ := HXE.out.get hmn
          obtain ⟨rfl, g1⟩ := HZE.out.get hmn
          obtain ⟨rfl, g2⟩ := HNE.out.get hmn
          have g3 := HRE.out.cell hmn
          have hXc : len3 ≤ cap0 := HXE.out.le
          have hZc : len3 ≤ cap1 := HZE.out.le
          have hNc : len3 ≤ cN := HNE.out.le
          rw [← HD.out.cell] at g0 g1 g2 g3
          have HCH := Lib.hid (HPO.out.chg m hmn)
          have HDN := Lib.hid (fun q => HD.out.drewN q)
          obtain ⟨X, e0⟩ : ∃ X, X = x m := ⟨_, rfl⟩
          obtain ⟨Z, e1⟩ : ∃ Z, Z = z m := ⟨_, rfl⟩
          obtain ⟨T, e2⟩ : ∃ T, T = NN m := ⟨_, rfl⟩
          obtain ⟨I, e3⟩ : ∃ I, I = inB P0 P1 R.length m := ⟨_, rfl⟩
          rw [← e0] at g0 HCH
          rw [← e1] at g1 HCH
          rw [← e2] at g2 HCH
          rw [← e3] at g3 HCH
          clear e0 e1 e2 e3
          by_cases q0 : T = X
          · subst q0
            have q0b : (T != T) = false := by simp
            clear HCH
            go_wp2_with fail
            go_roundg (len3 - (m + 1))
            case rel => exact ⟨m + 1, by omega, rfl, by go_num, HD⟩
            case measure => omega
          · have q0b : (T != X) = true := bne_iff_ne.2 q0
            obtain ⟨t1, t2⟩ := HCH.out.resolve_left q0
            have HSB := Lib.hid (sideB_iff.2 t1)
            clear HCH q0 t1
            cases I with
            | true =>
              clear t2
              go_wp2_with fail
              refine (isSide_any _ _).mono ?_
              rintro e w' ⟨rfl, rfl⟩
              rw [HSB.out]
              go_wp2_with fail
              go_roundg (len3 - (m + 1))
              case rel => exact ⟨m + 1, by omega, rfl, by go_num, HD⟩
              case measure => omega
            | false =>
              obtain rfl : Z = 12 := t2.resolve_left (by decide)
              clear t2
              go_wp2_with fail
              refine (isSide_any _ _).mono ?_
              rintro e w' ⟨rfl, rfl⟩
              rw [HSB.out]
              go_wp2_with fail
              go_roundg (len3 - (m + 1))
              case rel => exact ⟨m + 1, by omega, rfl, by go_num, HD⟩
              case measure => omega
        · obtain rfl : m = len3 := by omega
          go_wp2_with fail
          go_ret
          obtain ⟨q, hq⟩ := HD.out
          exact ⟨rfl, by rw [hq]; exact below_of_since (since_drewN HSE2.out q)⟩

/-! ### THE ROW's STEP -/
set_option maxRecDepth 100000 in
theorem contract (H : Type) (enc : TypeId × Value → H) (W : World) (base : Nat) (args : Array Value) (ds gs : List (DataW H)) (before : List MemPlace)
    (hval : ∀ (j : Nat) t v, Tryd.f7.params[j]? = some t → args[j]? = some v → Value.okWide Tryd.prog W .any base t v)
    (hW : DataW.Whole enc Tryd.prog Tryd.f7.params.toList Rows.fnBracketsKeepSpec.vars false W args.toList ds gs before) (hL : laidMetH Tryd.prog Rows.fnBracketsKeepRow.laid W) :
    Calls Tryd.prog 7 args W fun e W' => ∃ v, e = .returned v ∧ Rows.fnBracketsKeepSpec.post enc Tryd.prog Tryd.f7 false true false false W args v W' := by
  have hW' := hW
  obtain ⟨p, q, hA0, hV, rfl, hfz, hnd⟩ := hW
  have hA : DataW.TrodAll enc Tryd.prog W 0 (fun _ => true) true Tryd.f7.params.toList args.toList ds p := hA0
  rw [Tryd.params7] at hA hval
  obtain ⟨v0, vs0, d0, ds0, p0, q0, hargs, rfl, rfl, h0, r0⟩ := trodAll_cons hA
  obtain ⟨v1, vs1, d1, ds1, p1, q1, rfl, rfl, rfl, h1, r1⟩ := trodAll_cons r0
  obtain ⟨v2, vs2, d2, ds2, p2, q2, rfl, rfl, rfl, h2, r2⟩ := trodAll_cons r1
  obtain ⟨v3, vs3, d3, ds3, p3, q3, rfl, rfl, rfl, h3, r3⟩ := trodAll_cons r2
  obtain ⟨v4, vs4, d4, ds4, p4, q4, rfl, rfl, rfl, h4, r4⟩ := trodAll_cons r3
  obtain ⟨v5, vs5, d5, ds5, p5, q5, rfl, rfl, rfl, h5, r5⟩ := trodAll_cons r4
  obtain ⟨rfl, rfl, rfl⟩ := trodAll_nil r5
  obtain rfl : args = #[v0, v1, v2, v3, v4, v5] := by cases args; simp_all
  obtain ⟨a0, len0, cap0, rfl⟩ := okWide_slice Tryd.underlying22 (hval 0 22 v0 rfl rfl)
  have k0 := h0
  have lt0 : ∀ x ∈ p0, x.block < W.heap.size := by obtain ⟨m, hm⟩ := k0; exact DataW.trod_lt m _ _ _ hm
  obtain ⟨z0, w0⟩ : ∃ zs, IsRow .i64 W a0 len0 cap0 zs := by
    obtain ⟨fuel, hf⟩ := h0
    rcases open_ints Tryd.underlying22 Tryd.underlying3 (by kernel_rfl) hf with ⟨hcs, _⟩ | ⟨x, l, c, zs, hcs, _, hl, hm, hz, _, hcell, hwz⟩
    · simp [Value.cells] at hcs
      obtain ⟨rfl, rfl, rfl⟩ := hcs
      exact ⟨[], .inl ⟨rfl, rfl, rfl, rfl⟩⟩
    · simp [Value.cells] at hcs
      obtain ⟨rfl, rfl, rfl⟩ := hcs
      exact ⟨zs, .inr ⟨_, rfl, hl, hm, by simpa using hz, hcell, hwz⟩⟩
  obtain ⟨a1, len1, cap1, rfl⟩ := okWide_slice Tryd.underlying22 (hval 1 22 v1 rfl rfl)
  have k1 := h1
  have lt1 : ∀ x ∈ p1, x.block < W.heap.size := by obtain ⟨m, hm⟩ := k1; exact DataW.trod_lt m _ _ _ hm
  obtain ⟨z1, w1⟩ : ∃ zs, IsRow .i64 W a1 len1 cap1 zs := by
    obtain ⟨fuel, hf⟩ := h1
    rcases open_ints Tryd.underlying22 Tryd.underlying3 (by kernel_rfl) hf with ⟨hcs, _⟩ | ⟨x, l, c, zs, hcs, _, hl, hm, hz, _, hcell, hwz⟩
    · simp [Value.cells] at hcs
      obtain ⟨rfl, rfl, rfl⟩ := hcs
      exact ⟨[], .inl ⟨rfl, rfl, rfl, rfl⟩⟩
    · simp [Value.cells] at hcs
      obtain ⟨rfl, rfl, rfl⟩ := hcs
      exact ⟨zs, .inr ⟨_, rfl, hl, hm, by simpa using hz, hcell, hwz⟩⟩
  obtain ⟨a2, len2, cap2, rfl⟩ := okWide_slice Tryd.underlying22 (hval 2 22 v2 rfl rfl)
  have k2 := h2
  have lt2 : ∀ x ∈ p2, x.block < W.heap.size := by obtain ⟨m, hm⟩ := k2; exact DataW.trod_lt m _ _ _ hm
  obtain ⟨z2, w2⟩ : ∃ zs, IsRow .i64 W a2 len2 cap2 zs := by
    obtain ⟨fuel, hf⟩ := h2
    rcases open_ints Tryd.underlying22 Tryd.underlying3 (by kernel_rfl) hf with ⟨hcs, _⟩ | ⟨x, l, c, zs, hcs, _, hl, hm, hz, _, hcell, hwz⟩
    · simp [Value.cells] at hcs
      obtain ⟨rfl, rfl, rfl⟩ := hcs
      exact ⟨[], .inl ⟨rfl, rfl, rfl, rfl⟩⟩
    · simp [Value.cells] at hcs
      obtain ⟨rfl, rfl, rfl⟩ := hcs
      exact ⟨zs, .inr ⟨_, rfl, hl, hm, by simpa using hz, hcell, hwz⟩⟩
  obtain ⟨a3, len3, cap3, rfl⟩ := okWide_slice Tryd.underlying22 (hval 3 22 v3 rfl rfl)
  have k3 := h3
  have lt3 : ∀ x ∈ p3, x.block < W.heap.size := by obtain ⟨m, hm⟩ := k3; exact DataW.trod_lt m _ _ _ hm
  obtain ⟨z3, w3⟩ : ∃ zs, IsRow .i64 W a3 len3 cap3 zs := by
    obtain ⟨fuel, hf⟩ := h3
    rcases open_ints Tryd.underlying22 Tryd.underlying3 (by kernel_rfl) hf with ⟨hcs, _⟩ | ⟨x, l, c, zs, hcs, _, hl, hm, hz, _, hcell, hwz⟩
    · simp [Value.cells] at hcs
      obtain ⟨rfl, rfl, rfl⟩ := hcs
      exact ⟨[], .inl ⟨rfl, rfl, rfl, rfl⟩⟩
    · simp [Value.cells] at hcs
      obtain ⟨rfl, rfl, rfl⟩ := hcs
      exact ⟨zs, .inr ⟨_, rfl, hl, hm, by simpa using hz, hcell, hwz⟩⟩
  obtain ⟨a4, rfl, rfl, rfl, w4⟩ := open_int Tryd.underlying3 (hval 4 3 v4 rfl rfl) h4
  obtain ⟨a5, rfl, rfl, rfl, w5⟩ := open_int Tryd.underlying3 (hval 5 3 v5 rfl rfl) h5
  obtain ⟨g, tv, cs, fuel, dv, pv, rfl, hg1, hg2, hg3, hg4, rfl⟩ := trodVars_one hV
  obtain rfl : g = 0 := Option.some.inj (hg1.symm.trans gTab)
  obtain rfl : tv = 81 := Option.some.inj (hg2.symm.trans gTabType)
  have ltv : ∀ x ∈ pv, x.block < W.heap.size := DataW.trod_lt fuel _ _ _ hg4
  have hT := tab hL
  clear hA0
  refine (walk a0 len0 cap0 z0 a1 len1 cap1 z1 a2 len2 cap2 z2 a3 len3 cap3 z3 a4 a5 W w0 w1 w2 w3 w4 w5 hT).mono fun e W' ⟨he, bel⟩ => ?_
  subst he
  have hg4' := DataW.trod_stays (sp' := fun b => decide (b < W.heap.size)) (w' := W') (kids_book laidOut (by kernel_rfl)) (book_sized (by kernel_rfl)) (fun h => by cases h) ⟨of_decide_eq_true (by kernel_rfl), book_self 81⟩ hg4 (fun x hx => bel.same (ltv x hx)) (fun x hx => by simpa using ltv x hx)
  exact ⟨_, rfl, _, _, _, [], _, _, hW', trodAll_mk1 (shut_bool Tryd.underlying4 _), (trodAll_cons_mk (Below.trod laidOut (by kernel_rfl) (of_decide_eq_true (by kernel_rfl)) k0 bel lt0) (trodAll_cons_mk (Below.trod laidOut (by kernel_rfl) (of_decide_eq_true (by kernel_rfl)) k1 bel lt1) (trodAll_cons_mk (Below.trod laidOut (by kernel_rfl) (of_decide_eq_true (by kernel_rfl)) k2 bel lt2) (trodAll_cons_mk (Below.trod laidOut (by kernel_rfl) (of_decide_eq_true (by kernel_rfl)) k3 bel lt3) (trodAll_cons_mk (shut_int Tryd.underlying3 w4) (trodAll_cons_mk (shut_int Tryd.underlying3 w5) trodAll_mk0)))))), trodVars_mk1 hg1 hg2 (var?_below bel hg1 hT.lt hg3) hg4', bel.frame _, fun h => by cases h⟩

/-- A world for the witness: the table holding what its initialiser lays. -/
noncomputable def laidWorld (os : Os) : World :=
  { World.holding Tryd.prog os ⟨#[], #[], []⟩ with heap := (World.holding Tryd.prog os ⟨#[], #[], []⟩).heap.modify 0 fun
      | .cells _ t frozen => .cells (tabZ.map fun z => Value.int .u64 z).toArray t frozen
      | o => o }
theorem laid_met (os : Os) : laidMet Tryd.prog Rows.fnBracketsKeepRow.laid ((laidWorld os).forCall (fun _ _ => 0) ⟨#[], #[.slice none 0 0, .slice none 0 0, .slice none 0 0, .slice none 0 0, .int .i64 0, .int .i64 0], []⟩).memory :=
  laidMet_of_run' 8 (by kernel_rfl) (by kernel_rfl)
theorem reads (os : Os) {H : Type} (enc : TypeId × Value → H) : ∃ places, DataW.whole enc Tryd.prog ((laidWorld os).forCall (fun _ _ => 0) ⟨#[], #[.slice none 0 0, .slice none 0 0, .slice none 0 0, .slice none 0 0, .int .i64 0, .int .i64 0], []⟩).memory Tryd.f7.params.toList Rows.fnBracketsKeepSpec.vars false (#[.slice none 0 0, .slice none 0 0, .slice none 0 0, .slice none 0 0, .int .i64 0, .int .i64 0] : Array Value).toList 8 = some ([.nil, .nil, .nil, .nil, .lit (.int .i64 0), .lit (.int .i64 0)], [Rows.laid_loop_example_pub_g01449_impl_classes], places) :=
  ⟨MemPlace.row ⟨0, 0, none⟩ 23, by kernel_rfl⟩

set_option maxRecDepth 100000 in
theorem lifted (os : Os) (started : os.Started) (H : Type) (enc : TypeId × Value → H) (F : Stop.Interp) :
    ReturnsInHanded {} Tryd.checked os 7 .any ((OpenSpec.ofChange Rows.fnBracketsKeepSpec).preRow enc Tryd.prog Tryd.f7 Rows.fnBracketsKeepRow.domain false Rows.fnBracketsKeepRow.laid) (((OpenSpec.ofChange Rows.fnBracketsKeepSpec).at F).post enc Tryd.prog Tryd.f7 false true false false) := by
  obtain ⟨places, hx⟩ := reads os enc
  refine returnsInHanded_of_row (C := Tryd.checked) (s := OpenSpec.ofChange Rows.fnBracketsKeepSpec) own started (by kernel_rfl) Tryd.func7
    (witness_row_at (enc := enc) (C := Tryd.checked) false (laidWorld os) #[.slice none 0 0, .slice none 0 0, .slice none 0 0, .slice none 0 0, .int .i64 0, .int .i64 0] rfl (by kernel_rfl) (by kernel_rfl) (by kernel_rfl)
      (OpenSpec.preRow_of_cond 8 hx (by kernel_rfl) (fun k hk => by cases hk) (by kernel_rfl) (laid_met os))) ?_
  intro W base args ds gs before hval hW _ _ _ hL _ _
  exact contract H enc W base args ds gs before hval hW hL

theorem said : Rows.FnBracketsKeepSaid :=
  OpenClaim.holds_of_cond 7 Tryd.f7 rfl rfl rfl rfl rfl rfl rfl ⟨rfl, rfl, rfl, rfl, rfl⟩ rfl rfl rfl rfl rfl (by kernel_rfl) Tryd.func7 (by kernel_rfl)
    (of_decide_eq_true (by kernel_rfl)) (by unfold Func.isWrapper; first | (rw [if_pos (by decide +kernel)]; kernel_rfl) | (rw [if_neg (by decide +kernel)]; exact ⟨rfl, rfl⟩))
    (fun os started H enc _ F => by rw [OpenClaim.pre_eq_preRow]; exact lifted os started H enc F)

theorem plain (f : FuncId) (fn : Func) (hf : Tryd.pinned.checked.prog.funcNamed Rows.fnBracketsKeepRow.func = some f) (hfn : Tryd.pinned.checked.prog.funcs[f]? = some fn) :
    true = Tryd.pinned.checked.prog.looks [] ∧ ∀ (j : Nat) t, fn.params[j]? = some t → Tryd.pinned.checked.prog.wantsStandIn t = false := by
  obtain rfl : f = 7 := Option.some.inj ((show Tryd.prog.funcNamed Rows.fnBracketsKeepRow.func = some 7 by kernel_rfl).symm.trans hf) |>.symm
  obtain rfl : fn = Tryd.f7 := (Option.some.inj (Tryd.func7.symm.trans hfn)).symm
  refine ⟨by kernel_rfl, fun j t ht => ?_⟩
  rw [Tryd.params7] at ht
  have ht2 : t = 22 ∨ t = 22 ∨ t = 22 ∨ t = 22 ∨ t = 3 ∨ t = 3 := by simpa using Array.mem_of_getElem? ht
  rcases ht2 with rfl | rfl | rfl | rfl | rfl | rfl
  · exact (show Tryd.prog.wantsStandIn 22 = false by kernel_rfl)
  · exact (show Tryd.prog.wantsStandIn 22 = false by kernel_rfl)
  · exact (show Tryd.prog.wantsStandIn 22 = false by kernel_rfl)
  · exact (show Tryd.prog.wantsStandIn 22 = false by kernel_rfl)
  · exact (show Tryd.prog.wantsStandIn 3 = false by kernel_rfl)
  · exact (show Tryd.prog.wantsStandIn 3 = false by kernel_rfl)

/-- THE CARD. -/
theorem proved : Rows.FnBracketsKeepCardSaid :=
  Claim7.holds_tied_plain_at .later [] _ _ _ _ said (fun _ h => by cases h) (by kernel_rfl) (fun _ h => by cases h) fnBracketsKeep_row_tie rfl ⟨rfl, rfl⟩ (by kernel_rfl) rfl plain (by kernel_rfl)
#print axioms proved
end Go.Proofs.YtmaieenphcnefaaDoor.fnBracketsKeep
