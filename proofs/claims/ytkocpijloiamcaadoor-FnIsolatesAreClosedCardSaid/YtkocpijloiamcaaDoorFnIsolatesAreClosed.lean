/- The law FnIsolatesAreClosed, its tied card: for every input the call returns true, and each argument and the table of classes read afterwards as before. The row's one condition, that the table starts as the program's text lays it, is tied to the text by the given tie. -/
import Derived.Test.YtkocpijloiamcaaDoorCards
import Derived.Test.YtkocpijloiamcaaDoorTie
import Derived.Test.YtkocpijloiamcaaDoorEnc2
import Derived.Test.YtkocpijloiamcaaDoorClo
import Derived.Test.YtkocpijloiamcaaDoorRes0
import Derived.Test.YtkocpijloiamcaaDoorFmt
import Derived.WalkKit
import Derived.ProofKit
import Derived.OpenShut
import Derived.ShutString
import Derived.ChangeOld
import Derived.ChangeVars
import Derived.WalkSmall
import Derived.Below
import Derived.Deep.DeepHandedRow
import Derived.Lib.LaidTab
namespace Go.Proofs.YtkocpijloiamcaaDoor.fnIsolatesAreClosed
open Go.ChangeShapes Go.WideShapes Go.ChangeAt Go.RowKit
open Go.ChangeMaps (open_string shut_string)
set_option linter.unusedVariables false

theorem own : ownKnob Tryd.prog.godebug = none := by kernel_rfl
theorem laidOut : laidOutB Tryd.prog = true := by kernel_rfl
/-- The table's name. -/
def tabName : String := Rows.fnIsolatesAreClosedSpec.vars.headD ""
theorem gTab : Tryd.prog.globalNamed tabName = some 0 := by kernel_rfl
theorem gTabType : (Tryd.prog.globals[0]?).map (·.type) = some 84 := by kernel_rfl
theorem cellsT : Tryd.prog.cellsOf 84 = 23 := by kernel_rfl
theorem cellsC : Tryd.prog.cellsOf 67 = 1 := by kernel_rfl
def tabZ : List Int := [0, 1, 2, 3, 4, 5, 6, 7, 8, 9, 10, 11, 12, 13, 16, 17, 18, 19, 20, 21, 22, 23, 24]

/-- What the row's list gives. -/
theorem table {W : World} (h : laidMetH Tryd.prog Rows.fnIsolatesAreClosedRow.laid W) : Lib.TabIs Tryd.prog W tabName .u64 tabZ :=
  Lib.tabIs_of_head (rest := []) gTab gTabType Tryd.underlying84 Tryd.underlying67 cellsC cellsT h
theorem tab {W : World} (h : laidMetH Tryd.prog Rows.fnIsolatesAreClosedRow.laid W) : Tab W := fun i hi => by
  have h1 := (table h).cell gTab i (by simpa [tabZ] using hi)
  rw [h1]
  congr 2
  have : ∀ j : Fin 23, tabZ.getD j.val 0 = cls (j.val : Int) := by decide
  exact this ⟨i, hi⟩

/-- What the walk is told of a slice of integers that came in. -/
def IsRow (k : IntKind) (w : World) (a : Option Addr) (len cap : Nat) (zs : List Int) : Prop :=
  (a = none ∧ len = 0 ∧ cap = 0 ∧ zs = []) ∨
  ∃ x, a = some x ∧ len ≤ cap ∧ cap ≤ maxLen ∧ zs.length = cap ∧ (∀ i, i < zs.length → w.cell? (x.add i) = some (.int k (zs.getD i 0))) ∧ ∀ n ∈ zs, (Lit.int k n).wf = true

set_option maxHeartbeats 16000000 in
set_option maxRecDepth 100000 in
theorem walk (a0 : Option Addr) (len0 cap0 : Nat) (z0 : List Int) (a1 : Int) (a2 : Option Addr) (len2 cap2 : Nat) (z2 : List Int) (a3 : Option Addr) (len3 cap3 : Nat) (z3 : List Int) (a4 : Option Addr) (len4 cap4 : Nat) (z4 : List Int) (a5 : Int) (w : World) (w0 : IsRow .i64 w a0 len0 cap0 z0) (w1 : (Lit.int .i64 a1).wf = true) (w2 : IsRow .i64 w a2 len2 cap2 z2) (w3 : IsRow .i64 w a3 len3 cap3 z3) (w4 : IsRow .i64 w a4 len4 cap4 z4) (w5 : (Lit.int .i64 a5).wf = true) (ht : Tab w) :
    Calls Tryd.prog 6 #[.slice a0 len0 cap0, .int .i64 a1, .slice a2 len2 cap2, .slice a3 len3 cap3, .slice a4 len4 cap4, .int .i64 a5] w fun e w' => e = .returned (.bool true) ∧ Below w.heap.size w w' := by
  obtain ⟨b0, o0, hr0⟩ := sees_of_row w0
  obtain ⟨x, hx⟩ : ∃ x : Nat → Int, Sees w a0 b0 o0 len0 cap0 (fun i => .int .i64 (x i)) := ⟨_, hr0⟩
  obtain ⟨b2, o2, hr2⟩ := sees_of_row w2
  obtain ⟨u, hu⟩ : ∃ x : Nat → Int, Sees w a2 b2 o2 len2 cap2 (fun i => .int .i64 (x i)) := ⟨_, hr2⟩
  obtain ⟨b3, o3, hr3⟩ := sees_of_row w3
  obtain ⟨v, hv⟩ : ∃ x : Nat → Int, Sees w a3 b3 o3 len3 cap3 (fun i => .int .i64 (x i)) := ⟨_, hr3⟩
  obtain ⟨b4, o4, hr4⟩ := sees_of_row w4
  obtain ⟨z, hz⟩ : ∃ x : Nat → Int, Sees w a4 b4 o4 len4 cap4 (fun i => .int .i64 (x i)) := ⟨_, hr4⟩
  clear hr0 w0 hr2 w2 hr3 w3 hr4 w4
  by_cases hn0 : len0 ≤ 2147483647
  case neg =>
    have hb : (2147483647 : Int) < (len0 : Int) := by omega
    go_enter Tryd.func6, Tryd.ntmps6
    go_wp2_with fail
    go_ret
    exact ⟨rfl, Below.refl _ _⟩
  by_cases hn2 : len2 ≤ 2147483647
  case neg =>
    have hb : (2147483647 : Int) < (len2 : Int) := by omega
    go_enter Tryd.func6, Tryd.ntmps6
    go_wp2_with fail
    go_ret
    exact ⟨rfl, Below.refl _ _⟩
  by_cases hn3 : len3 ≤ 2147483647
  case neg =>
    have hb : (2147483647 : Int) < (len3 : Int) := by omega
    go_enter Tryd.func6, Tryd.ntmps6
    go_wp2_with fail
    go_ret
    exact ⟨rfl, Below.refl _ _⟩
  by_cases hn4 : len4 ≤ 2147483647
  case neg =>
    have hb : (2147483647 : Int) < (len4 : Int) := by omega
    go_enter Tryd.func6, Tryd.ntmps6
    go_wp2_with fail
    go_ret
    exact ⟨rfl, Below.refl _ _⟩
  have HT := Lib.hid ht
  clear ht
  go_enter Tryd.func6, Tryd.ntmps6
  go_wp2_with fail
  refine (isInitiator_any _ _).mono ?_
  rintro e w1 ⟨rfl, rfl⟩
  cases hI : iniB a1 with
  | false =>
    clear hI
    go_wp2_with fail
    go_ret
    exact ⟨rfl, Below.refl _ _⟩
  | true =>
  have HI := Lib.hid hI
  clear hI
  go_wp2_with fail
  refine (isClosed_any _ (by omega) hu).mono ?_
  rintro e w1 ⟨rfl, rfl⟩
  cases hC1 : closB len2 u with
  | false =>
    clear hC1
    go_wp2_with fail
    go_ret
    exact ⟨rfl, Below.refl _ _⟩
  | true =>
  have HC1 := Lib.hid hC1
  clear hC1
  go_wp2_with fail
  refine (isClosed_any _ (by omega) hv).mono ?_
  rintro e w1 ⟨rfl, rfl⟩
  cases hC2 : closB len3 v with
  | false =>
    clear hC2
    go_wp2_with fail
    go_ret
    exact ⟨rfl, Below.refl _ _⟩
  | true =>
  have HC2 := Lib.hid hC2
  clear hC2
  by_cases hb1 : -1 ≤ a5
  case neg =>
    have hb1' : a5 < -1 := by omega
    go_wp2_with fail
    go_ret
    exact ⟨rfl, Below.refl _ _⟩
  by_cases hb2 : a5 ≤ 1
  case neg =>
    have hb2' : 1 < a5 := by omega
    go_wp2_with fail
    go_ret
    exact ⟨rfl, Below.refl _ _⟩
  have hb1' : ¬ a5 < -1 := by omega
  have hb2' : ¬ 1 < a5 := by omega
  go_wp2_with fail
  refine (formats_any _ (by omega) hx).mono ?_
  rintro e w1 ⟨rfl, rfl⟩
  have hfle := fmtN_le x len0
  obtain ⟨F, hF⟩ : ∃ F, F = fmtN x len0 := ⟨_, rfl⟩
  rw [← hF] at hfle ⊢
  have HFM := Lib.hid hF
  clear hF
  by_cases hf0 : F ≤ 60
  case neg =>
    have hfz : (60 : Int) < (F : Int) := by omega
    go_wp2_with fail
    go_ret
    exact ⟨rfl, Below.refl _ _⟩
  have hfz : ¬ (60 : Int) < (F : Int) := by omega
  have HF60 := Lib.hid hf0
  obtain ⟨n1, en1⟩ : ∃ n1, n1 = len0 + 1 + len2 + 1 + len4 := ⟨_, rfl⟩
  obtain ⟨n2, en2⟩ : ∃ n2, n2 = len0 + 1 + len3 + 1 + len4 := ⟨_, rfl⟩
  obtain ⟨F1, hF1d⟩ : ∃ F1, F1 = encF len0 len2 x a1 u z := ⟨_, rfl⟩
  obtain ⟨F2, hF2d⟩ : ∃ F2, F2 = encF len0 len3 x a1 v z := ⟨_, rfl⟩
  have hE1 := enclosed_any (t := a1) w hn0 hn2 hn4 hx hu hz
  rw [← en1, ← hF1d] at hE1
  have hE2 := fun (w' : World) (hs : w.Since w.heap.size w') => enclosed_any (t := a1) w' hn0 hn3 hn4 (hx.since hs) (hv.since hs) (hz.since hs)
  rw [← en2, ← hF2d] at hE2
  have hb3 : a5 = -1 ∨ a5 = 0 ∨ a5 = 1 := by omega
  have HL1 := Lib.hid (show n1 ≤ 8589934592 ∧ 0 < n1 by omega)
  have HL2 := Lib.hid (show n2 ≤ 8589934592 ∧ 0 < n2 by omega)
  have HN := Lib.hid (show n1 = len0 + len2 + len4 + 2 ∧ n2 = len0 + len3 + len4 + 2 by omega)
  have HE1 := Lib.hid hE1
  have HE2 := Lib.hid hE2
  have HD1 := Lib.hid hF1d
  have HD2 := Lib.hid hF2d
  clear hE1 hE2 hF1d hF2d en1 en2 hx hu hv hz hfle
  go_wp2_with fail
  refine HE1.out.mono ?_
  rintro e w1 ⟨q1, B1, O1, C1, rfl, hF1, _, hs1⟩
  have HE3 := Lib.hid (HE2.out w1 hs1)
  clear HE1 HE2
  go_wp2_with fail
  refine HE3.out.mono ?_
  rintro e w6 ⟨q2, B2, O2, C2, rfl, hF2, _, hs2⟩
  have hF1' := hF1.since hs2
  have HS6 := Lib.hid (since2 hs1 hs2)
  have HT6 := Lib.hid (HT.out.since HS6.out)
  clear hs1 hs2 hF1 HE3
  have hnb := (show n1 ≤ 8589934592 ∧ n2 ≤ 8589934592 from ⟨HL1.out.1, HL2.out.1⟩)
  go_wp2_with fail
  refine (isParagraph_any _ (by omega) hF1').mono ?_
  rintro e w7 ⟨rfl, rfl⟩
  cases hP1 : paraB n1 F1 with
  | false =>
    clear hP1
    go_wp2_with fail
    go_ret
    exact ⟨rfl, below_of_since HS6.out⟩
  | true =>
  obtain ⟨_, hpp1⟩ : 0 < n1 ∧ ∀ i, i < n1 → 0 ≤ F1 i ∧ F1 i < 23 ∧ (F1 i = 7 → n1 ≤ i + 1) := of_decide_eq_true hP1
  have HPP1 := Lib.hid hpp1
  clear hP1 hpp1
  go_wp2_with fail
  refine (isParagraph_any _ (by omega) hF2).mono ?_
  rintro e w7 ⟨rfl, rfl⟩
  cases hP2 : paraB n2 F2 with
  | false =>
    clear hP2
    go_wp2_with fail
    go_ret
    exact ⟨rfl, below_of_since HS6.out⟩
  | true =>
  obtain ⟨_, hpp2⟩ : 0 < n2 ∧ ∀ i, i < n2 → 0 ≤ F2 i ∧ F2 i < 23 ∧ (F2 i = 7 → n2 ≤ i + 1) := of_decide_eq_true hP2
  have HPP2 := Lib.hid hpp2
  clear hP2 hpp2
  have HF1 := Lib.hid hF1'
  have HF2 := Lib.hid hF2
  have hENC : Enc F1 F2 len0 len2 len3 len4 := by
    have hini : F1 len0 = a1 := by rw [HD1.out]; unfold encF; rw [if_neg (by omega), if_pos rfl]
    refine ⟨fun i hi => ?_, fun i h1 h2 => ?_, ?_, ?_, closB_clo HC1.out (fun i hi => ?_), closB_clo HC2.out (fun i hi => ?_)⟩
    · rw [HD1.out, HD2.out]
      unfold encF
      by_cases q : i < len0
      · rw [if_pos q, if_pos q]
      · rw [if_neg q, if_neg q, if_pos (by omega), if_pos (by omega)]
    · rw [HD1.out, HD2.out, encF_hi (by omega), encF_hi h1]
      by_cases q : i = len0 + 1 + len2
      · rw [if_pos (by omega), if_pos q]
      · rw [if_neg (by omega), if_neg q, show i - len2 + len3 - (len0 + 2 + len3) = i - (len0 + 2 + len2) by omega]
    · show iniB (F1 len0) = true
      rw [hini]; exact HI.out
    · rw [HD1.out]; unfold encF; rw [if_neg (by omega), if_neg (by omega), if_neg (by omega), if_pos rfl]
    · rw [HD1.out]; unfold encF; rw [if_neg (by omega), if_neg (by omega), if_pos (by omega), show len0 + 1 + i - (len0 + 1) = i by omega]
    · rw [HD2.out]; unfold encF; rw [if_neg (by omega), if_neg (by omega), if_pos (by omega), show len0 + 1 + i - (len0 + 1) = i by omega]
  obtain ⟨BV, hBV⟩ : ∃ BV, BV = baseP F1 n1 a5 := ⟨_, rfl⟩
  have HBV := Lib.hid hBV
  have HBW := Lib.hid (show baseP F2 n2 a5 = BV by
    rw [hBV]
    unfold baseP
    rw [hENC.baseE HN.out.1 HN.out.2])
  have HEN := Lib.hid hENC
  have HBO := Lib.hid (show BV = 0 ∨ BV = 1 by rw [hBV]; exact baseP_or hb3)
  have hmk1 := run_make_row' (P := Tryd.prog) 22 3 (.int .i64 0) 8 Tryd.underlying22 Tryd.infoInt rfl .i64 .i64 n1 (by omega) (by omega)
  have hmk2 := run_make_row' (P := Tryd.prog) 22 3 (.int .i64 0) 8 Tryd.underlying22 Tryd.infoInt rfl .i64 .i64 n2 (by omega) (by omega)
  have HMK1 := Lib.hid hmk1
  have HMK2 := Lib.hid hmk2
  have HB3 := Lib.hid hb3
  clear hENC hBV hmk1 hmk2 hb3 hF1' hF2 hnb hfz hf0
  go_upto_region 8 with fail
  go_cut [15, 16, 17, 18] (fun _ v13 v14 v15 wx => ∃ (fl : Nat → Int) (A : Option Addr) (B O C : Nat), v13 = .slice A n1 C ∧ v14 = .int .i64 BV ∧ v15 = .bool true ∧ Hid (∃ ft, Done F1 (fun _ => 0) (fun _ => 0) BV n1 ft fl) ∧ Hid (Sees wx A B O n1 C (fun i => .int .i64 (fl i))) ∧ Hid (w6.Since w6.heap.size wx))
  case first =>
    have hmk := HMK1.out
    have hr := resolve0 (g := a5) (x := F1) w6 HT6.out HL1.out.1 HL1.out.2 HB3.out (fun i hi => ⟨(HPP1.out i hi).1, (HPP1.out i hi).2.1⟩) (fun i hi => (HPP1.out i hi).2.2) HF1.out
    have HR1 := Lib.hid hr.1
    have HR2 := Lib.hid hr.2
    have HBP := Lib.hid (HBV.out.symm)
    clear hr hb1 hb2 hb1' hb2'
    go_region_with (go_at_call 15; (first | with_reducible refine HR1.out.mono ?_ | with_reducible refine HR2.out.mono ?_); rintro e wx ⟨ft, fl, a, c, a2, b2, o2, c2, hD, rfl, hL, hs⟩; rw [HBP.out] at hD ⊢; have HDD := Lib.hid hD; have HLL := Lib.hid hL; have HSS := Lib.hid hs; clear hD hL hs)
    all_goals
      go_simp
      go_wp2_with fail
      go_meet
      exact ⟨fl, a2, b2, o2, c2, rfl, rfl, rfl, ⟨ft, HDD.out⟩, HLL.out, HSS.out⟩
  obtain ⟨flP, AP, BP, OP, CP, rfl, rfl, rfl, HDPd, HSPe, HSPi⟩ := hcut
  rename World => wxP
  go_upto_region 9 with fail
  go_cut [19, 20, 21, 22] (fun _ v13 v14 v15 wx => ∃ (fl : Nat → Int) (A : Option Addr) (B O C : Nat), v13 = .slice A n2 C ∧ v14 = .int .i64 BV ∧ v15 = .bool true ∧ Hid (∃ ft, Done F2 (fun _ => 0) (fun _ => 0) BV n2 ft fl) ∧ Hid (Sees wx A B O n2 C (fun i => .int .i64 (fl i))) ∧ Hid (wxP.Since wxP.heap.size wx))
  case first =>
    have hmk := HMK2.out
    have hr := resolve0 (g := a5) (x := F2) wxP (HT6.out.since HSPi.out) HL2.out.1 HL2.out.2 HB3.out (fun i hi => ⟨(HPP2.out i hi).1, (HPP2.out i hi).2.1⟩) (fun i hi => (HPP2.out i hi).2.2) (HF2.out.since HSPi.out)
    have HR1 := Lib.hid hr.1
    have HR2 := Lib.hid hr.2
    have HBP := Lib.hid (HBW.out)
    clear hr hb1 hb2 hb1' hb2'
    go_region_with (go_at_call 15; (first | with_reducible refine HR1.out.mono ?_ | with_reducible refine HR2.out.mono ?_); rintro e wx ⟨ft, fl, a, c, a2, b2, o2, c2, hD, rfl, hL, hs⟩; rw [HBP.out] at hD ⊢; have HDD := Lib.hid hD; have HLL := Lib.hid hL; have HSS := Lib.hid hs; clear hD hL hs)
    all_goals
      go_simp
      go_wp2_with fail
      go_meet
      exact ⟨fl, a2, b2, o2, c2, rfl, rfl, rfl, ⟨ft, HDD.out⟩, HLL.out, HSS.out⟩
  obtain ⟨flQ, AQ, BQ, OQ, CQ, rfl, rfl, rfl, HDQd, HSQe, HSQi⟩ := hcut
  rename World => wxQ
  have HM := Lib.hid (show ∀ i, Out len0 len2 i → i < n1 → remN (F1 i) = false → flQ (phi len0 len2 len3 i) = flP i from fun i ho hi hr => by
    obtain ⟨q1, q2⟩ := HN.out
    obtain ⟨ft1, hD1⟩ := HDPd.out
    obtain ⟨ft2, hD2⟩ := HDQd.out
    have hfew : fmtN F1 len0 ≤ 60 := by
      rw [fmtN_congr (x := x) (y := F1) len0 (fun i hi => by rw [HD1.out]; exact if_pos hi), ← HFM.out]
      exact HF60.out
    have E : Encl F1 F2 len0 len2 len3 len4 n1 n2 BV := ⟨HEN.out, q1, q2, HBO.out, hfew, fun i hi => (HPP1.out i hi).2.2, fun i hi => (HPP2.out i hi).2.2⟩
    refine enclosed_ok E (fun _ => ⟨rfl, rfl, rfl, rfl⟩) ?_ hD1 hD2 ho hi hr
    rw [HD1.out, HD2.out, encF_hi (by omega), encF_hi (by omega), if_neg (by omega), if_neg (by omega), show n2 - (len0 + 2 + len3) = n1 - (len0 + 2 + len2) by omega])
  have HXF := Lib.hid (HF1.out.since (since2 HSPi.out HSQi.out))
  have HLP := Lib.hid (HSPe.out.since HSQi.out)
  have HSA := Lib.hid (since2 HS6.out (since2 HSPi.out HSQi.out))
  have HRP := Lib.hid (show ∀ i, i < n1 → 0 ≤ flP i ∧ flP i ≤ 127 from fun i hi => by
    obtain ⟨ft1, hD1⟩ := HDPd.out
    have := (hD1.range HBO.out (fun i hi => (HPP1.out i hi).2.2) (fun i hi => ⟨(HPP1.out i hi).1, (HPP1.out i hi).2.1⟩) i hi).2
    have := HBO.out
    omega)
  have hnz := (show (n1 : Int) ≤ 8589934592 ∧ (n2 : Int) ≤ 8589934592 by have := HL1.out; have := HL2.out; omega)
  obtain ⟨r1, r2, r3, r4⟩ : n1 ≤ len0 + len2 + len4 + 2 ∧ len0 + len2 + len4 + 2 ≤ n1 ∧ n2 ≤ len0 + len3 + len4 + 2 ∧ len0 + len3 + len4 + 2 ≤ n2 := by have := HN.out; omega
  clear HDPd HDQd HPP1 HPP2 HC1 HC2 HFM HF60 HT HT6 HS6 HD1 HD2 HF1 HF2 HSPe HSPi HSQi HMK1 HMK2 HBV HBW HEN HBO HB3 HI HL1 HL2 HN
  have hnn1 : ((n1 : Int) != (n1 : Int)) = false := by simp
  have hnn2 : ((n2 : Int) != (n2 : Int)) = false := by simp
  have hvv : (BV != BV) = false := by simp
  go_wp2_with fail
  go_loopg [24] (len0 + 1) (fun g i wr => ∃ m : Nat, m ≤ len0 + 1 ∧ g = len0 + 1 - m ∧ i = .int .i64 m ∧ Hid (Drawn wxQ wr))
  case atStart => exact ⟨0, Nat.zero_le _, rfl, rfl, Drawn.refl _⟩
  case round =>
    rename World => wo
    obtain ⟨m, hm, rfl, rfl, HDR⟩ := hrel
    by_cases hmn : m < len0 + 1
    · have hmz : (m : Int) < (len0 : Int) + 1 := by omega
      have hm1 : m < n1 := by omega
      have hm2 : m < n2 := by omega
      have hm1z : (m : Int) < (n1 : Int) := by omega
      have hm2z : (m : Int) < (n2 : Int) := by omega
      obtain ⟨rfl, g0⟩ := HXF.out.get hm1
      obtain ⟨rfl, g1⟩ := HLP.out.get hm1
      obtain ⟨rfl, g2⟩ := HSQe.out.get hm2
      have l0 := HXF.out.le
      have l1 := HLP.out.le
      have l2 := HSQe.out.le
      rw [← HDR.out.cell] at g0 g1 g2
      have hM := HM.out m (.inl (by omega)) hm1
      rw [phi_lo (by omega)] at hM
      obtain ⟨X, hX⟩ : ∃ X, X = F1 m := ⟨_, rfl⟩
      obtain ⟨V, hV⟩ : ∃ V, V = flP m := ⟨_, rfl⟩
      obtain ⟨U, hU⟩ : ∃ U, U = flQ m := ⟨_, rfl⟩
      rw [← hX] at g0 hM
      rw [← hV] at g1 hM
      rw [← hU] at g2 hM
      clear hX hV hU
      have HDN := Lib.hid (fun q => HDR.out.drewN q)
      have HIR := Lib.hid (fun q => isRemoved_any X (wo.drewN q))
      have HMM := Lib.hid hM
      clear hM
      cases hr : remN X with
      | true =>
        have HRX := Lib.hid hr
        clear hr
        go_upto_region 16 with fail
        go_big_quiet ((go_at_call 17; exact quiet_same (congrArg Value.bool HRX.out) (HIR.out _)))
        go_wp2_with fail
        go_roundg (len0 + 1 - (m + 1))
        case rel => exact ⟨m + 1, by omega, rfl, by go_num, HDN.out _⟩
        case measure => omega
      | false =>
        have hUV := HMM.out hr
        have HRX := Lib.hid hr
        subst hUV
        have hvv : (U != U) = false := by simp
        clear hr HMM
        go_upto_region 16 with fail
        go_big_quiet ((go_at_call 17; exact quiet_same (congrArg Value.bool HRX.out) (HIR.out _)))
        go_wp2_with fail
        go_roundg (len0 + 1 - (m + 1))
        case rel => exact ⟨m + 1, by omega, rfl, by go_num, HDN.out _⟩
        case measure => omega
    · have hme : m = len0 + 1 := by omega
      have hmz : ¬ (m : Int) < (len0 : Int) + 1 := by omega
      clear hme
      go_wp2_with fail
      go_loopg [25, 26] (len4 + 1) (fun g i _ wr => ∃ j : Nat, j ≤ len4 + 1 ∧ g = len4 + 1 - j ∧ i = .int .i64 j ∧ Hid (Drawn wxQ wr))
      case atStart => exact ⟨0, Nat.zero_le _, rfl, rfl, HDR⟩
      case round =>
        clear HDR
        rename World => wp
        obtain ⟨j, hj, rfl, rfl, HDR⟩ := hrel
        by_cases hjn : j < len4 + 1
        · have hjz : (j : Int) ≤ (len4 : Int) := by omega
          obtain ⟨k1, hk1⟩ : ∃ k1, k1 = len0 + 1 + len2 + j := ⟨_, rfl⟩
          obtain ⟨k2, hk2⟩ : ∃ k2, k2 = len0 + 1 + len3 + j := ⟨_, rfl⟩
          have hm1 : k1 < n1 := by omega
          have hm2 : k2 < n2 := by omega
          have hm1z : (k1 : Int) < (n1 : Int) := by omega
          have hm2z : (k2 : Int) < (n2 : Int) := by omega
          obtain ⟨rfl, g0⟩ := HXF.out.get hm1
          obtain ⟨rfl, g1⟩ := HLP.out.get hm1
          obtain ⟨rfl, g2⟩ := HSQe.out.get hm2
          have l0 := HXF.out.le
          have l1 := HLP.out.le
          have l2 := HSQe.out.le
          rw [← HDR.out.cell] at g0 g1 g2
          have hM := HM.out k1 (.inr (by omega)) hm1
          rw [phi_hi (by omega), show k1 - len2 + len3 = k2 by omega] at hM
          have e1 : (len0 : Int) + 1 + (len2 : Int) + (j : Int) = (k1 : Int) := by omega
          have e2 : (len0 : Int) + 1 + (len3 : Int) + (j : Int) = (k2 : Int) := by omega
          have w1 : IntKind.i64.wrap ((len0 : Int) + 1 + (len3 : Int)) = (len0 : Int) + 1 + (len3 : Int) := by simp [IntKind.wrap, IntKind.bits, IntKind.signed]; omega
          have w2 : IntKind.i64.wrap ((len0 : Int) + 1 + (len3 : Int) + (j : Int)) = (k2 : Int) := by rw [e2]; simp [IntKind.wrap, IntKind.bits, IntKind.signed]; omega
          clear hk1 hk2
          obtain ⟨X, hX⟩ : ∃ X, X = F1 k1 := ⟨_, rfl⟩
          obtain ⟨V, hV⟩ : ∃ V, V = flP k1 := ⟨_, rfl⟩
          obtain ⟨U, hU⟩ : ∃ U, U = flQ k2 := ⟨_, rfl⟩
          rw [← hX] at g0 hM
          rw [← hV] at g1 hM
          rw [← hU] at g2 hM
          clear hX hV hU
          have HDN := Lib.hid (fun q => HDR.out.drewN q)
          have HIR := Lib.hid (fun q => isRemoved_any X (wp.drewN q))
          have HMM := Lib.hid hM
          clear hM
          cases hr : remN X with
          | true =>
            have HRX := Lib.hid hr
            clear hr
            go_upto_region 22 with fail
            go_big_quiet ((go_at_call 17; exact quiet_same (congrArg Value.bool HRX.out) (HIR.out _)))
            go_wp2_with fail
            go_roundg (len4 + 1 - (j + 1))
            case rel => exact ⟨j + 1, by omega, rfl, by go_num, HDN.out _⟩
            case measure => omega
          | false =>
            have hUV := HMM.out hr
            have HRX := Lib.hid hr
            subst hUV
            have hvv : (U != U) = false := by simp
            clear hr HMM
            go_upto_region 22 with fail
            go_big_quiet ((go_at_call 17; exact quiet_same (congrArg Value.bool HRX.out) (HIR.out _)))
            go_wp2_with fail
            go_roundg (len4 + 1 - (j + 1))
            case rel => exact ⟨j + 1, by omega, rfl, by go_num, HDN.out _⟩
            case measure => omega
        · have hjz : ¬ (j : Int) ≤ (len4 : Int) := by omega
          go_wp2_with fail
          go_ret
          obtain ⟨q, hq⟩ := HDR.out
          exact ⟨rfl, by rw [hq]; exact below_of_since (since_drewN HSA.out q)⟩

/-! ### THE ROW's STEP -/
set_option maxRecDepth 100000 in
theorem contract (H : Type) (enc : TypeId × Value → H) (W : World) (base : Nat) (args : Array Value) (ds gs : List (DataW H)) (before : List MemPlace)
    (hval : ∀ (j : Nat) t v, Tryd.f6.params[j]? = some t → args[j]? = some v → Value.okWide Tryd.prog W .any base t v)
    (hW : DataW.Whole enc Tryd.prog Tryd.f6.params.toList Rows.fnIsolatesAreClosedSpec.vars false W args.toList ds gs before) (hL : laidMetH Tryd.prog Rows.fnIsolatesAreClosedRow.laid W) :
    Calls Tryd.prog 6 args W fun e W' => ∃ v, e = .returned v ∧ Rows.fnIsolatesAreClosedSpec.post enc Tryd.prog Tryd.f6 false true false false W args v W' := by
  have hW' := hW
  obtain ⟨p, q, hA0, hV, rfl, hfz, hnd⟩ := hW
  have hA : DataW.TrodAll enc Tryd.prog W 0 (fun _ => true) true Tryd.f6.params.toList args.toList ds p := hA0
  rw [Tryd.params6] at hA hval
  obtain ⟨v0, vs0, d0, ds0, p0, q0, hargs, rfl, rfl, h0, r0⟩ := trodAll_cons hA
  obtain ⟨v1, vs1, d1, ds1, p1, q1, rfl, rfl, rfl, h1, r1⟩ := trodAll_cons r0
  obtain ⟨v2, vs2, d2, ds2, p2, q2, rfl, rfl, rfl, h2, r2⟩ := trodAll_cons r1
  obtain ⟨v3, vs3, d3, ds3, p3, q3, rfl, rfl, rfl, h3, r3⟩ := trodAll_cons r2
  obtain ⟨v4, vs4, d4, ds4, p4, q4, rfl, rfl, rfl, h4, r4⟩ := trodAll_cons r3
  obtain ⟨v5, vs5, d5, ds5, p5, q5, rfl, rfl, rfl, h5, r5⟩ := trodAll_cons r4
  obtain ⟨rfl, rfl, rfl⟩ := trodAll_nil r5
  obtain rfl : args = #[v0, v1, v2, v3, v4, v5] := by cases args; simp_all
  obtain ⟨a0, len0, cap0, rfl⟩ := okWide_slice Tryd.underlying22 (hval 0 22 v0 rfl rfl)
  have k0 := h0
  have lt0 : ∀ x ∈ p0, x.block < W.heap.size := by obtain ⟨m, hm⟩ := k0; exact DataW.trod_lt m _ _ _ hm
  obtain ⟨z0, w0⟩ : ∃ zs, IsRow .i64 W a0 len0 cap0 zs := by
    obtain ⟨fuel, hf⟩ := h0
    rcases open_ints Tryd.underlying22 Tryd.underlying3 (by kernel_rfl) hf with ⟨hcs, _⟩ | ⟨x, l, c, zs, hcs, _, hl, hm, hz, _, hcell, hwz⟩
    · simp [Value.cells] at hcs
      obtain ⟨rfl, rfl, rfl⟩ := hcs
      exact ⟨[], .inl ⟨rfl, rfl, rfl, rfl⟩⟩
    · simp [Value.cells] at hcs
      obtain ⟨rfl, rfl, rfl⟩ := hcs
      exact ⟨zs, .inr ⟨_, rfl, hl, hm, by simpa using hz, hcell, hwz⟩⟩
  obtain ⟨a1, rfl, rfl, rfl, w1⟩ := open_int Tryd.underlying3 (hval 1 3 v1 rfl rfl) h1
  obtain ⟨a2, len2, cap2, rfl⟩ := okWide_slice Tryd.underlying22 (hval 2 22 v2 rfl rfl)
  have k2 := h2
  have lt2 : ∀ x ∈ p2, x.block < W.heap.size := by obtain ⟨m, hm⟩ := k2; exact DataW.trod_lt m _ _ _ hm
  obtain ⟨z2, w2⟩ : ∃ zs, IsRow .i64 W a2 len2 cap2 zs := by
    obtain ⟨fuel, hf⟩ := h2
    rcases open_ints Tryd.underlying22 Tryd.underlying3 (by kernel_rfl) hf with ⟨hcs, _⟩ | ⟨x, l, c, zs, hcs, _, hl, hm, hz, _, hcell, hwz⟩
    · simp [Value.cells] at hcs
      obtain ⟨rfl, rfl, rfl⟩ := hcs
      exact ⟨[], .inl ⟨rfl, rfl, rfl, rfl⟩⟩
    · simp [Value.cells] at hcs
      obtain ⟨rfl, rfl, rfl⟩ := hcs
      exact ⟨zs, .inr ⟨_, rfl, hl, hm, by simpa using hz, hcell, hwz⟩⟩
  obtain ⟨a3, len3, cap3, rfl⟩ := okWide_slice Tryd.underlying22 (hval 3 22 v3 rfl rfl)
  have k3 := h3
  have lt3 : ∀ x ∈ p3, x.block < W.heap.size := by obtain ⟨m, hm⟩ := k3; exact DataW.trod_lt m _ _ _ hm
  obtain ⟨z3, w3⟩ : ∃ zs, IsRow .i64 W a3 len3 cap3 zs := by
    obtain ⟨fuel, hf⟩ := h3
    rcases open_ints Tryd.underlying22 Tryd.underlying3 (by kernel_rfl) hf with ⟨hcs, _⟩ | ⟨x, l, c, zs, hcs, _, hl, hm, hz, _, hcell, hwz⟩
    · simp [Value.cells] at hcs
      obtain ⟨rfl, rfl, rfl⟩ := hcs
      exact ⟨[], .inl ⟨rfl, rfl, rfl, rfl⟩⟩
    · simp [Value.cells] at hcs
      obtain ⟨rfl, rfl, rfl⟩ := hcs
      exact ⟨zs, .inr ⟨_, rfl, hl, hm, by simpa using hz, hcell, hwz⟩⟩
  obtain ⟨a4, len4, cap4, rfl⟩ := okWide_slice Tryd.underlying22 (hval 4 22 v4 rfl rfl)
  have k4 := h4
  have lt4 : ∀ x ∈ p4, x.block < W.heap.size := by obtain ⟨m, hm⟩ := k4; exact DataW.trod_lt m _ _ _ hm
  obtain ⟨z4, w4⟩ : ∃ zs, IsRow .i64 W a4 len4 cap4 zs := by
    obtain ⟨fuel, hf⟩ := h4
    rcases open_ints Tryd.underlying22 Tryd.underlying3 (by kernel_rfl) hf with ⟨hcs, _⟩ | ⟨x, l, c, zs, hcs, _, hl, hm, hz, _, hcell, hwz⟩
    · simp [Value.cells] at hcs
      obtain ⟨rfl, rfl, rfl⟩ := hcs
      exact ⟨[], .inl ⟨rfl, rfl, rfl, rfl⟩⟩
    · simp [Value.cells] at hcs
      obtain ⟨rfl, rfl, rfl⟩ := hcs
      exact ⟨zs, .inr ⟨_, rfl, hl, hm, by simpa using hz, hcell, hwz⟩⟩
  obtain ⟨a5, rfl, rfl, rfl, w5⟩ := open_int Tryd.underlying3 (hval 5 3 v5 rfl rfl) h5
  obtain ⟨g, tv, cs, fuel, dv, pv, rfl, hg1, hg2, hg3, hg4, rfl⟩ := trodVars_one hV
  obtain rfl : g = 0 := Option.some.inj (hg1.symm.trans gTab)
  obtain rfl : tv = 84 := Option.some.inj (hg2.symm.trans gTabType)
  have ltv : ∀ x ∈ pv, x.block < W.heap.size := DataW.trod_lt fuel _ _ _ hg4
  have hT := tab hL
  clear hA0
  refine (walk a0 len0 cap0 z0 a1 a2 len2 cap2 z2 a3 len3 cap3 z3 a4 len4 cap4 z4 a5 W w0 w1 w2 w3 w4 w5 hT).mono fun e W' ⟨he, bel⟩ => ?_
  subst he
  have hg4' := DataW.trod_stays (sp' := fun b => decide (b < W.heap.size)) (w' := W') (kids_book laidOut (by kernel_rfl)) (book_sized (by kernel_rfl)) (fun h => by cases h) ⟨of_decide_eq_true (by kernel_rfl), book_self 84⟩ hg4 (fun x hx => bel.same (ltv x hx)) (fun x hx => by simpa using ltv x hx)
  exact ⟨_, rfl, _, _, _, [], _, _, hW', trodAll_mk1 (shut_bool Tryd.underlying4 _), (trodAll_cons_mk (Below.trod laidOut (by kernel_rfl) (of_decide_eq_true (by kernel_rfl)) k0 bel lt0) (trodAll_cons_mk (shut_int Tryd.underlying3 w1) (trodAll_cons_mk (Below.trod laidOut (by kernel_rfl) (of_decide_eq_true (by kernel_rfl)) k2 bel lt2) (trodAll_cons_mk (Below.trod laidOut (by kernel_rfl) (of_decide_eq_true (by kernel_rfl)) k3 bel lt3) (trodAll_cons_mk (Below.trod laidOut (by kernel_rfl) (of_decide_eq_true (by kernel_rfl)) k4 bel lt4) (trodAll_cons_mk (shut_int Tryd.underlying3 w5) trodAll_mk0)))))), trodVars_mk1 hg1 hg2 (var?_below bel hg1 hT.lt hg3) hg4', bel.frame _, fun h => by cases h⟩

/-- A world for the witness: the table holding what its initialiser lays. -/
noncomputable def laidWorld (os : Os) : World :=
  { World.holding Tryd.prog os ⟨#[], #[], []⟩ with heap := (World.holding Tryd.prog os ⟨#[], #[], []⟩).heap.modify 0 fun
      | .cells _ t frozen => .cells (tabZ.map fun z => Value.int .u64 z).toArray t frozen
      | o => o }
theorem laid_met (os : Os) : laidMet Tryd.prog Rows.fnIsolatesAreClosedRow.laid ((laidWorld os).forCall (fun _ _ => 0) ⟨#[], #[.slice none 0 0, .int .i64 0, .slice none 0 0, .slice none 0 0, .slice none 0 0, .int .i64 0], []⟩).memory :=
  laidMet_of_run' 8 (by kernel_rfl) (by kernel_rfl)
theorem reads (os : Os) {H : Type} (enc : TypeId × Value → H) : ∃ places, DataW.whole enc Tryd.prog ((laidWorld os).forCall (fun _ _ => 0) ⟨#[], #[.slice none 0 0, .int .i64 0, .slice none 0 0, .slice none 0 0, .slice none 0 0, .int .i64 0], []⟩).memory Tryd.f6.params.toList Rows.fnIsolatesAreClosedSpec.vars false (#[.slice none 0 0, .int .i64 0, .slice none 0 0, .slice none 0 0, .slice none 0 0, .int .i64 0] : Array Value).toList 8 = some ([.nil, .lit (.int .i64 0), .nil, .nil, .nil, .lit (.int .i64 0)], [Rows.laid_loop_example_pub_g01449_impl_classes], places) :=
  ⟨MemPlace.row ⟨0, 0, none⟩ 23, by kernel_rfl⟩

set_option maxRecDepth 100000 in
theorem lifted (os : Os) (started : os.Started) (H : Type) (enc : TypeId × Value → H) (F : Stop.Interp) :
    ReturnsInHanded {} Tryd.checked os 6 .any ((OpenSpec.ofChange Rows.fnIsolatesAreClosedSpec).preRow enc Tryd.prog Tryd.f6 Rows.fnIsolatesAreClosedRow.domain false Rows.fnIsolatesAreClosedRow.laid) (((OpenSpec.ofChange Rows.fnIsolatesAreClosedSpec).at F).post enc Tryd.prog Tryd.f6 false true false false) := by
  obtain ⟨places, hx⟩ := reads os enc
  refine returnsInHanded_of_row (C := Tryd.checked) (s := OpenSpec.ofChange Rows.fnIsolatesAreClosedSpec) own started (by kernel_rfl) Tryd.func6
    (witness_row_at (enc := enc) (C := Tryd.checked) false (laidWorld os) #[.slice none 0 0, .int .i64 0, .slice none 0 0, .slice none 0 0, .slice none 0 0, .int .i64 0] rfl (by kernel_rfl) (by kernel_rfl) (by kernel_rfl)
      (OpenSpec.preRow_of_cond 8 hx (by kernel_rfl) (fun k hk => by cases hk) (by kernel_rfl) (laid_met os))) ?_
  intro W base args ds gs before hval hW _ _ _ hL _ _
  exact contract H enc W base args ds gs before hval hW hL

theorem said : Rows.FnIsolatesAreClosedSaid :=
  OpenClaim.holds_of_cond 6 Tryd.f6 rfl rfl rfl rfl rfl rfl rfl ⟨rfl, rfl, rfl, rfl, rfl⟩ rfl rfl rfl rfl rfl (by kernel_rfl) Tryd.func6 (by kernel_rfl)
    (of_decide_eq_true (by kernel_rfl)) (by unfold Func.isWrapper; first | (rw [if_pos (by decide +kernel)]; kernel_rfl) | (rw [if_neg (by decide +kernel)]; exact ⟨rfl, rfl⟩))
    (fun os started H enc _ F => by rw [OpenClaim.pre_eq_preRow]; exact lifted os started H enc F)

theorem plain (f : FuncId) (fn : Func) (hf : Tryd.pinned.checked.prog.funcNamed Rows.fnIsolatesAreClosedRow.func = some f) (hfn : Tryd.pinned.checked.prog.funcs[f]? = some fn) :
    true = Tryd.pinned.checked.prog.looks [] ∧ ∀ (j : Nat) t, fn.params[j]? = some t → Tryd.pinned.checked.prog.wantsStandIn t = false := by
  obtain rfl : f = 6 := Option.some.inj ((show Tryd.prog.funcNamed Rows.fnIsolatesAreClosedRow.func = some 6 by kernel_rfl).symm.trans hf) |>.symm
  obtain rfl : fn = Tryd.f6 := (Option.some.inj (Tryd.func6.symm.trans hfn)).symm
  refine ⟨by kernel_rfl, fun j t ht => ?_⟩
  rw [Tryd.params6] at ht
  have ht2 : t = 22 ∨ t = 3 ∨ t = 22 ∨ t = 22 ∨ t = 22 ∨ t = 3 := by simpa using Array.mem_of_getElem? ht
  rcases ht2 with rfl | rfl | rfl | rfl | rfl | rfl
  · exact (show Tryd.prog.wantsStandIn 22 = false by kernel_rfl)
  · exact (show Tryd.prog.wantsStandIn 3 = false by kernel_rfl)
  · exact (show Tryd.prog.wantsStandIn 22 = false by kernel_rfl)
  · exact (show Tryd.prog.wantsStandIn 22 = false by kernel_rfl)
  · exact (show Tryd.prog.wantsStandIn 22 = false by kernel_rfl)
  · exact (show Tryd.prog.wantsStandIn 3 = false by kernel_rfl)

/-- THE CARD. -/
theorem proved : Rows.FnIsolatesAreClosedCardSaid :=
  Claim7.holds_tied_plain_at .later [] _ _ _ _ said (fun _ h => by cases h) (by kernel_rfl) (fun _ h => by cases h) fnIsolatesAreClosed_row_tie rfl ⟨rfl, rfl⟩ (by kernel_rfl) rfl plain (by kernel_rfl)
#print axioms proved
end Go.Proofs.YtkocpijloiamcaaDoor.fnIsolatesAreClosed
