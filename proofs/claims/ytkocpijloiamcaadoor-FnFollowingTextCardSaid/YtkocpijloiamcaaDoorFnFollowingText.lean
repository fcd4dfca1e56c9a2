/- The law FnFollowingText, its tied card: for every input the call returns true, and each argument and the table of classes read afterwards as before. The row's one condition, that the table starts as the program's text lays it, is tied to the text by the given tie. -/
import Derived.Test.YtkocpijloiamcaaDoorCards
import Derived.Test.YtkocpijloiamcaaDoorTie
import Derived.Test.YtkocpijloiamcaaDoorFol
import Derived.Test.YtkocpijloiamcaaDoorClo
import Derived.Test.YtkocpijloiamcaaDoorRes0
import Derived.Test.YtkocpijloiamcaaDoorIsB
import Derived.Test.YtkocpijloiamcaaDoorFmt
import Derived.WalkKit
import Derived.ProofKit
import Derived.OpenShut
import Derived.ShutString
import Derived.ChangeOld
import Derived.ChangeVars
import Derived.WalkSmall
import Derived.Below
import Derived.Deep.DeepHandedRow
import Derived.Lib.LaidTab
namespace Go.Proofs.YtkocpijloiamcaaDoor.fnFollowingText
open Go.ChangeShapes Go.WideShapes Go.ChangeAt Go.RowKit
open Go.ChangeMaps (open_string shut_string)
set_option linter.unusedVariables false

theorem own : ownKnob Tryd.prog.godebug = none := by kernel_rfl
theorem laidOut : laidOutB Tryd.prog = true := by kernel_rfl
/-- The table's name. -/
def tabName : String := Rows.fnFollowingTextSpec.vars.headD ""
theorem gTab : Tryd.prog.globalNamed tabName = some 0 := by kernel_rfl
theorem gTabType : (Tryd.prog.globals[0]?).map (·.type) = some 84 := by kernel_rfl
theorem cellsT : Tryd.prog.cellsOf 84 = 23 := by kernel_rfl
theorem cellsC : Tryd.prog.cellsOf 67 = 1 := by kernel_rfl
def tabZ : List Int := [0, 1, 2, 3, 4, 5, 6, 7, 8, 9, 10, 11, 12, 13, 16, 17, 18, 19, 20, 21, 22, 23, 24]

/-- What the row's list gives. -/
theorem table {W : World} (h : laidMetH Tryd.prog Rows.fnFollowingTextRow.laid W) : Lib.TabIs Tryd.prog W tabName .u64 tabZ :=
  Lib.tabIs_of_head (rest := []) gTab gTabType Tryd.underlying84 Tryd.underlying67 cellsC cellsT h
theorem tab {W : World} (h : laidMetH Tryd.prog Rows.fnFollowingTextRow.laid W) : Tab W := fun i hi => by
  have h1 := (table h).cell gTab i (by simpa [tabZ] using hi)
  rw [h1]
  congr 2
  have : ∀ j : Fin 23, tabZ.getD j.val 0 = cls (j.val : Int) := by decide
  exact this ⟨i, hi⟩

/-- What the walk is told of a slice of integers that came in. -/
def IsRow (k : IntKind) (w : World) (a : Option Addr) (len cap : Nat) (zs : List Int) : Prop :=
  (a = none ∧ len = 0 ∧ cap = 0 ∧ zs = []) ∨
  ∃ x, a = some x ∧ len ≤ cap ∧ cap ≤ maxLen ∧ zs.length = cap ∧ (∀ i, i < zs.length → w.cell? (x.add i) = some (.int k (zs.getD i 0))) ∧ ∀ n ∈ zs, (Lit.int k n).wf = true

set_option maxHeartbeats 16000000 in
set_option maxRecDepth 100000 in
theorem walk (a0 : Option Addr) (len0 cap0 : Nat) (z0 : List Int) (a1 : Option Addr) (len1 cap1 : Nat) (z1 : List Int) (a2 : Option Addr) (len2 cap2 : Nat) (z2 : List Int) (a3 : Int) (w : World) (w0 : IsRow .i64 w a0 len0 cap0 z0) (w1 : IsRow .i64 w a1 len1 cap1 z1) (w2 : IsRow .i64 w a2 len2 cap2 z2) (w3 : (Lit.int .i64 a3).wf = true) (ht : Tab w) :
    Calls Tryd.prog 5 #[.slice a0 len0 cap0, .slice a1 len1 cap1, .slice a2 len2 cap2, .int .i64 a3] w fun e w' => e = .returned (.bool true) ∧ Below w.heap.size w w' := by
  obtain ⟨b0, o0, hr0⟩ := sees_of_row w0
  obtain ⟨x, hx⟩ : ∃ x : Nat → Int, Sees w a0 b0 o0 len0 cap0 (fun i => .int .i64 (x i)) := ⟨_, hr0⟩
  obtain ⟨b1, o1, hr1⟩ := sees_of_row w1
  obtain ⟨u, hu⟩ : ∃ x : Nat → Int, Sees w a1 b1 o1 len1 cap1 (fun i => .int .i64 (x i)) := ⟨_, hr1⟩
  obtain ⟨b2, o2, hr2⟩ := sees_of_row w2
  obtain ⟨z, hz⟩ : ∃ x : Nat → Int, Sees w a2 b2 o2 len2 cap2 (fun i => .int .i64 (x i)) := ⟨_, hr2⟩
  clear hr0 w0 hr1 w1 hr2 w2
  by_cases hn0 : len0 ≤ 2147483647
  case neg =>
    have hb : (2147483647 : Int) < (len0 : Int) := by omega
    go_enter Tryd.func5, Tryd.ntmps5
    go_wp2_with fail
    go_ret
    exact ⟨rfl, Below.refl _ _⟩
  by_cases hn1 : len1 ≤ 2147483647
  case neg =>
    have hb : (2147483647 : Int) < (len1 : Int) := by omega
    go_enter Tryd.func5, Tryd.ntmps5
    go_wp2_with fail
    go_ret
    exact ⟨rfl, Below.refl _ _⟩
  by_cases hn2 : len2 ≤ 2147483647
  case neg =>
    have hb : (2147483647 : Int) < (len2 : Int) := by omega
    go_enter Tryd.func5, Tryd.ntmps5
    go_wp2_with fail
    go_ret
    exact ⟨rfl, Below.refl _ _⟩
  have HT := Lib.hid ht
  clear ht
  go_enter Tryd.func5, Tryd.ntmps5
  go_wp2_with fail
  refine (isBase_q _ _).mono ?_
  rintro e w1 ⟨rfl, rfl⟩
  cases hB : baseQ a3 with
  | false =>
    clear hB
    go_wp2_with fail
    go_ret
    exact ⟨rfl, Below.refl _ _⟩
  | true =>
  have hb01 := baseQ_iff.1 hB
  clear hB
  go_wp2_with fail
  refine (isClosed_any _ (by omega) hx).mono ?_
  rintro e w1 ⟨rfl, rfl⟩
  cases hC : closB len0 x with
  | false =>
    clear hC
    go_wp2_with fail
    go_ret
    exact ⟨rfl, Below.refl _ _⟩
  | true =>
  have HC := Lib.hid hC
  clear hC
  go_wp2_with fail
  refine (formats_any _ (by omega) hx).mono ?_
  rintro e w1 ⟨rfl, rfl⟩
  have hfle := fmtN_le x len0
  obtain ⟨F, hF⟩ : ∃ F, F = fmtN x len0 := ⟨_, rfl⟩
  rw [← hF] at hfle ⊢
  have HF := Lib.hid hF
  clear hF
  by_cases hf0 : F = 0
  case neg =>
    have hfz : (0 : Int) < (F : Int) := by omega
    go_wp2_with fail
    go_ret
    exact ⟨rfl, Below.refl _ _⟩
  subst hf0
  have g0 := Gr.empty w w.heap.size 3 (fun _ => .int .i64 0) (Nat.le_refl _)
  have hs0 : w.Since w.heap.size (w.alloc (.cells #[] 3)) := (World.Since.refl _ _).alloc (Nat.le_refl _) _
  have hx0 := hx.since hs0
  have HU := Lib.hid hu
  have HZ := Lib.hid hz
  clear hx hu hz
  go_wp2_with (at_builtin; go_must (refine wpList_cat _ rfl _ _ 22 rfl w.heap.size 3 (.int .i64 0) 8 Tryd.underlying22 Tryd.infoInt rfl _ _ _ rfl g0 rfl hx0 (fun _ _ => rfl) (by omega) (by omega) (by simp) ?_))
  intro v1 w1 hg1 hgr1 _
  have hs1 : w.Since w.heap.size w1 := hs0.grown hgr1 (by simp) (fun k hk => (g0.ge k hk).1)
  have hg1' : Gr w1 w.heap.size 3 v1 len0 (fun i => .int .i64 (x i)) := by
    first
      | exact hg1
      | (rw [Nat.zero_add] at hg1; exact hg1.congr fun i _ => by rw [if_neg (by omega)]; rfl)
  have hz1 := hs1.size
  clear g0 hs0 hx0 hg1 hgr1
  go_wp2_with fail
  refine (direction_any _ (by omega) (by omega)).mono ?_
  rintro e w2 ⟨rfl, rfl⟩
  rw [show a3 % 2 = a3 by omega]
  go_wp2_with (at_builtin; go_must (refine wpList_push w1 rfl _ _ 22 rfl w.heap.size 3 (.int .i64 0) 8 Tryd.underlying22 Tryd.infoInt rfl _ _ _ _ (by rfl) hg1' (by rfl) rfl (by omega) (by omega) hz1 ?_))
  intro v2 w2 hg2 hgr2 _
  have hs2 : w.Since w.heap.size w2 := (hs1.alloc hz1 _).grown hgr2 (by simp; omega) (fun k hk => (hg1'.ge k hk).1)
  have hz2 := hs2.size
  obtain ⟨p1, hp1⟩ : ∃ p1, p1 = len0 + 1 := ⟨_, rfl⟩
  rw [← hp1] at hg2
  have hgh : Gr w2 w.heap.size 3 v2 p1 (fun i => .int .i64 (hdF len0 x a3 i)) := hg2.congr (fun i hi => by
    unfold hdF
    by_cases q : i = len0
    · rw [if_pos q, if_neg (by omega)]
    · rw [if_neg q, if_pos (by omega)])
  obtain ⟨lp1, lp2⟩ : p1 ≤ len0 + 1 ∧ len0 + 1 ≤ p1 := by omega
  clear hp1
  obtain ⟨qh, ch, rfl, hqh⟩ := hgh.form (by omega)
  have hsh := hgh.sees' (by omega)
  clear hg1' hs1 hgr2 hz1 hg2 hgh hqh
  have HS2 := Lib.hid hs2
  have hu2 := HU.out.since hs2
  have hzz2 := HZ.out.since hs2
  clear hs2
  have gE1 := Gr.empty w2 w2.heap.size 3 (fun _ => .int .i64 0) (Nat.le_refl _)
  have hE1 : w2.Since w2.heap.size (w2.alloc (.cells #[] 3)) := (World.Since.refl _ _).alloc (Nat.le_refl _) _
  have hh1 := hsh.since hE1
  have hzE1 := hE1.size
  go_wp2_with (at_builtin; go_must (refine wpList_cat _ rfl _ _ 22 rfl w2.heap.size 3 (.int .i64 0) 8 Tryd.underlying22 Tryd.infoInt rfl _ _ _ rfl gE1 rfl hh1 (fun _ _ => rfl) (by omega) (by omega) hzE1 ?_))
  intro v3 w3 hgB1 hgrB1 _
  have hB1 : w2.Since w2.heap.size w3 := hE1.grown hgrB1 hzE1 (fun k hk => (gE1.ge k hk).1)
  have hgB1' : Gr w3 w2.heap.size 3 v3 p1 (fun i => .int .i64 (hdF len0 x a3 i)) := by
    first
      | exact hgB1
      | (rw [Nat.zero_add] at hgB1; exact hgB1.congr fun i _ => by rw [if_neg (by omega)]; rfl)
  have hzB1 := hB1.size
  have hu1 := hu2.since hB1
  clear gE1 hE1 hh1 hzE1 hgB1 hgrB1
  go_wp2_with (at_builtin; go_must (refine wpList_cat _ rfl _ _ 22 rfl w2.heap.size 3 (.int .i64 0) 8 Tryd.underlying22 Tryd.infoInt rfl _ _ _ rfl hgB1' rfl hu1 (fun _ _ => rfl) (by omega) (by omega) hzB1 ?_))
  intro v4 w4 hgC1 hgrC1 _
  have hC1 : w2.Since w2.heap.size w4 := hB1.grown hgrC1 hzB1 (fun k hk => (hgB1'.ge k hk).1)
  obtain ⟨n1, en1⟩ : ∃ n1, n1 = p1 + len1 := ⟨_, rfl⟩
  rw [← en1] at hgC1
  have hgF1 : Gr w4 w2.heap.size 3 v4 n1 (fun i => .int .i64 (folF len0 x a3 u i)) := hgC1.congr (fun i hi => by
    unfold folF
    by_cases q : i < len0 + 1
    · rw [if_pos q, if_pos (by omega)]
    · rw [if_neg q, if_neg (by omega), show i - (len0 + 1) = i - p1 by omega])
  obtain ⟨ln1, rn1⟩ : n1 ≤ p1 + len1 ∧ p1 + len1 ≤ n1 := by omega
  clear en1
  obtain ⟨qF1, cF1, rfl, _⟩ := hgF1.form (by omega)
  have hF1 := hgF1.sees' (by omega)
  clear hB1 hgB1' hzB1 hu1 hgC1 hgrC1 hgF1
  have hzz4 := hzz2.since hC1
  have hsh4 := hsh.since hC1
  have HS4 := Lib.hid (since2 HS2.out hC1)
  clear hsh hu2 hzz2 hC1
  have gE2 := Gr.empty w4 w4.heap.size 3 (fun _ => .int .i64 0) (Nat.le_refl _)
  have hE2 : w4.Since w4.heap.size (w4.alloc (.cells #[] 3)) := (World.Since.refl _ _).alloc (Nat.le_refl _) _
  have hh2 := hsh4.since hE2
  have hzE2 := hE2.size
  go_wp2_with (at_builtin; go_must (refine wpList_cat _ rfl _ _ 22 rfl w4.heap.size 3 (.int .i64 0) 8 Tryd.underlying22 Tryd.infoInt rfl _ _ _ rfl gE2 rfl hh2 (fun _ _ => rfl) (by omega) (by omega) hzE2 ?_))
  intro v5 w5 hgB2 hgrB2 _
  have hB2 : w4.Since w4.heap.size w5 := hE2.grown hgrB2 hzE2 (fun k hk => (gE2.ge k hk).1)
  have hgB2' : Gr w5 w4.heap.size 3 v5 p1 (fun i => .int .i64 (hdF len0 x a3 i)) := by
    first
      | exact hgB2
      | (rw [Nat.zero_add] at hgB2; exact hgB2.congr fun i _ => by rw [if_neg (by omega)]; rfl)
  have hzB2 := hB2.size
  have hu2 := hzz4.since hB2
  clear gE2 hE2 hh2 hzE2 hgB2 hgrB2
  go_wp2_with (at_builtin; go_must (refine wpList_cat _ rfl _ _ 22 rfl w4.heap.size 3 (.int .i64 0) 8 Tryd.underlying22 Tryd.infoInt rfl _ _ _ rfl hgB2' rfl hu2 (fun _ _ => rfl) (by omega) (by omega) hzB2 ?_))
  intro v6 w6 hgC2 hgrC2 _
  have hC2 : w4.Since w4.heap.size w6 := hB2.grown hgrC2 hzB2 (fun k hk => (hgB2'.ge k hk).1)
  obtain ⟨n2, en2⟩ : ∃ n2, n2 = p1 + len2 := ⟨_, rfl⟩
  rw [← en2] at hgC2
  have hgF2 : Gr w6 w4.heap.size 3 v6 n2 (fun i => .int .i64 (folF len0 x a3 z i)) := hgC2.congr (fun i hi => by
    unfold folF
    by_cases q : i < len0 + 1
    · rw [if_pos q, if_pos (by omega)]
    · rw [if_neg q, if_neg (by omega), show i - (len0 + 1) = i - p1 by omega])
  obtain ⟨ln2, rn2⟩ : n2 ≤ p1 + len2 ∧ p1 + len2 ≤ n2 := by omega
  clear en2
  obtain ⟨qF2, cF2, rfl, _⟩ := hgF2.form (by omega)
  have hF2 := hgF2.sees' (by omega)
  clear hB2 hgB2' hzB2 hu2 hgC2 hgrC2 hgF2
  have hF1' := hF1.since hC2
  have hsh6 := hsh4.since hC2
  have hs6 := since2 HS4.out hC2
  have HS6 := Lib.hid hs6
  have HT6 := Lib.hid (HT.out.since hs6)
  have HSH := Lib.hid hsh6
  clear hF1 hzz4 hsh4 hC2 hs6 hsh6
  obtain ⟨F1, hF1d⟩ : ∃ F1, F1 = folF len0 x a3 u := ⟨_, rfl⟩
  obtain ⟨F2, hF2d⟩ : ∃ F2, F2 = folF len0 x a3 z := ⟨_, rfl⟩
  rw [← hF1d] at hF1'
  rw [← hF2d] at hF2
  have HD1 := Lib.hid hF1d
  have HD2 := Lib.hid hF2d
  clear hF1d hF2d
  go_wp2_with fail
  refine (isParagraph_any _ (by omega) hF1').mono ?_
  rintro e w7 ⟨rfl, rfl⟩
  cases hP1 : paraB n1 F1 with
  | false =>
    clear hP1
    go_wp2_with fail
    go_ret
    exact ⟨rfl, below_of_since HS6.out⟩
  | true =>
  obtain ⟨_, hpp1⟩ : 0 < n1 ∧ ∀ i, i < n1 → 0 ≤ F1 i ∧ F1 i < 23 ∧ (F1 i = 7 → n1 ≤ i + 1) := of_decide_eq_true hP1
  have HPP1 := Lib.hid hpp1
  clear hP1 hpp1
  go_wp2_with fail
  refine (isParagraph_any _ (by omega) hF2).mono ?_
  rintro e w7 ⟨rfl, rfl⟩
  cases hP2 : paraB n2 F2 with
  | false =>
    clear hP2
    go_wp2_with fail
    go_ret
    exact ⟨rfl, below_of_since HS6.out⟩
  | true =>
  obtain ⟨_, hpp2⟩ : 0 < n2 ∧ ∀ i, i < n2 → 0 ≤ F2 i ∧ F2 i < 23 ∧ (F2 i = 7 → n2 ≤ i + 1) := of_decide_eq_true hP2
  have HPP2 := Lib.hid hpp2
  clear hP2 hpp2
  have hb3 : a3 = -1 ∨ a3 = 0 ∨ a3 = 1 := by omega
  have HL1 : n1 ≤ 8589934592 ∧ 0 < n1 := by omega
  have HL2 : n2 ≤ 8589934592 ∧ 0 < n2 := by omega
  have HF1 := Lib.hid hF1'
  have HF2 := Lib.hid hF2
  have HN := Lib.hid (show p1 = len0 + 1 ∧ n1 = p1 + len1 ∧ n2 = p1 + len2 from ⟨by omega, by omega, by omega⟩)
  clear hn0 hn1 hn2 hfle hz2 lp1 lp2 ln1 ln2 rn1 rn2 hF1' hF2
  have hmk1 := run_make_row' (P := Tryd.prog) 22 3 (.int .i64 0) 8 Tryd.underlying22 Tryd.infoInt rfl .i64 .i64 n1 (by omega) (by omega)
  have hmk2 := run_make_row' (P := Tryd.prog) 22 3 (.int .i64 0) 8 Tryd.underlying22 Tryd.infoInt rfl .i64 .i64 n2 (by omega) (by omega)
  have HMK1 := Lib.hid hmk1
  have HMK2 := Lib.hid hmk2
  have HLA := Lib.hid HL1
  have HLB := Lib.hid HL2
  clear hmk1 hmk2 HL1 HL2
  go_upto_region 9 with fail
  go_cut [12, 13, 14, 15] (fun _ v13 _ v15 wx => ∃ (fl : Nat → Int) (A : Option Addr) (B O C : Nat), v13 = .slice A n1 C ∧ v15 = .bool true ∧ Hid (∃ ft, Done F1 (fun _ => 0) (fun _ => 0) a3 n1 ft fl) ∧ Hid (Sees wx A B O n1 C (fun i => .int .i64 (fl i))) ∧ Hid (w6.Since w6.heap.size wx))
  case first =>
    have hmk := HMK1.out
    have hr := resolve0 (g := a3) (x := F1) w6 HT6.out HLA.out.1 HLA.out.2 hb3 (fun i hi => ⟨(HPP1.out i hi).1, (HPP1.out i hi).2.1⟩) (fun i hi => (HPP1.out i hi).2.2) HF1.out
    have HR1 := Lib.hid hr.1
    have HR2 := Lib.hid hr.2
    have HBP := Lib.hid (show baseP F1 n1 a3 = a3 from if_neg (by omega))
    clear hr hb3 hb01
    go_region_with (go_at_call 15; (first | with_reducible refine HR1.out.mono ?_ | with_reducible refine HR2.out.mono ?_); rintro e wx ⟨ft, fl, a, c, a2, b2, o2, c2, hD, rfl, hL, hs⟩; rw [HBP.out] at hD; have HDD := Lib.hid hD; have HLL := Lib.hid hL; have HSS := Lib.hid hs; clear hD hL hs)
    all_goals
      go_simp
      go_wp2_with fail
      go_meet
      exact ⟨fl, a2, b2, o2, c2, rfl, rfl, ⟨ft, HDD.out⟩, HLL.out, HSS.out⟩
  obtain ⟨flP, AP, BP, OP, CP, rfl, rfl, HDPd, HSPe, HSPi⟩ := hcut
  rename World => wxP
  go_upto_region 10 with fail
  go_cut [16, 17, 18, 19] (fun _ v13 _ v15 wx => ∃ (fl : Nat → Int) (A : Option Addr) (B O C : Nat), v13 = .slice A n2 C ∧ v15 = .bool true ∧ Hid (∃ ft, Done F2 (fun _ => 0) (fun _ => 0) a3 n2 ft fl) ∧ Hid (Sees wx A B O n2 C (fun i => .int .i64 (fl i))) ∧ Hid (wxP.Since wxP.heap.size wx))
  case first =>
    have hmk := HMK2.out
    have hr := resolve0 (g := a3) (x := F2) wxP (HT6.out.since HSPi.out) HLB.out.1 HLB.out.2 hb3 (fun i hi => ⟨(HPP2.out i hi).1, (HPP2.out i hi).2.1⟩) (fun i hi => (HPP2.out i hi).2.2) (HF2.out.since HSPi.out)
    have HR1 := Lib.hid hr.1
    have HR2 := Lib.hid hr.2
    have HBP := Lib.hid (show baseP F2 n2 a3 = a3 from if_neg (by omega))
    clear hr hb3 hb01
    go_region_with (go_at_call 15; (first | with_reducible refine HR1.out.mono ?_ | with_reducible refine HR2.out.mono ?_); rintro e wx ⟨ft, fl, a, c, a2, b2, o2, c2, hD, rfl, hL, hs⟩; rw [HBP.out] at hD; have HDD := Lib.hid hD; have HLL := Lib.hid hL; have HSS := Lib.hid hs; clear hD hL hs)
    all_goals
      go_simp
      go_wp2_with fail
      go_meet
      exact ⟨fl, a2, b2, o2, c2, rfl, rfl, ⟨ft, HDD.out⟩, HLL.out, HSS.out⟩
  obtain ⟨flQ, AQ, BQ, OQ, CQ, rfl, rfl, HDQd, HSQe, HSQi⟩ := hcut
  rename World => wxQ
  have HM := Lib.hid (show ∀ m, m < p1 → remN (hdF len0 x a3 m) = false → flP m = flQ m from fun m hm hr => by
    obtain ⟨q1, q2, q3⟩ := HN.out
    obtain ⟨ft1, hD1⟩ := HDPd.out
    obtain ⟨ft2, hD2⟩ := HDQd.out
    have hco := of_decide_eq_true HC.out
    have hx1 : ∀ j, j ≤ len0 → F1 j = hdF len0 x a3 j := fun j hj => by rw [HD1.out]; exact if_pos (by omega)
    have hx2 : ∀ j, j ≤ len0 → F2 j = hdF len0 x a3 j := fun j hj => by rw [HD2.out]; exact if_pos (by omega)
    have hlast : hdF len0 x a3 len0 = a3 := if_neg (by omega)
    have hplain : ∀ j, j ≤ len0 → plainH (hdF len0 x a3 j) := fun j hj => by
      by_cases e : j = len0
      · rw [e, hlast]; unfold plainH; omega
      · have e1 : hdF len0 x a3 j = x j := if_pos (by omega)
        rw [e1]
        refine head_plain HC.out HF.out (by omega) ?_
        have := HPP1.out j (by omega)
        rw [hx1 j hj, e1] at this
        omega
    have hh1 : Head F1 a3 len0 n1 := ⟨by omega, fun j hj => by rw [hx1 j hj]; exact hplain j hj, by rw [hx1 _ (Nat.le_refl _)]; exact hlast⟩
    have hh2 : Head F2 a3 len0 n2 := ⟨by omega, fun j hj => by rw [hx2 j hj]; exact hplain j hj, by rw [hx2 _ (Nat.le_refl _)]; exact hlast⟩
    exact following hb01 (fun i hi => (HPP1.out i hi).2.2) (fun i hi => (HPP2.out i hi).2.2) (fun _ => rfl) (fun _ => rfl) hh1 hh2 (fun j hj => by rw [hx1 j hj, hx2 j hj]) hD1 hD2 (i := m) (by omega) (by rw [hx1 m (by omega)]; exact hr))
  have HXH := Lib.hid (HSH.out.since (since2 HSPi.out HSQi.out))
  have HL1 := Lib.hid (HSPe.out.since HSQi.out)
  have HSA := Lib.hid (since2 HS6.out (since2 HSPi.out HSQi.out))
  have hp1 : (p1 : Int) ≤ n1 ∧ (p1 : Int) ≤ n2 := by have := HN.out; omega
  have hp1n : p1 ≤ n1 ∧ p1 ≤ n2 := by omega
  have hnz := (show (n1 : Int) ≤ 8589934592 ∧ (n2 : Int) ≤ 8589934592 by have := HLA.out; have := HLB.out; omega)
  clear HDPd HDQd HPP1 HPP2 HC HF HT HT6 HU HZ HS2 HS4 HD1 HD2 HF1 HF2 HSH HSPe HSPi HSQi HMK1 HMK2
  have hnn1 : ((n1 : Int) != (n1 : Int)) = false := by simp
  have hnn2 : ((n2 : Int) != (n2 : Int)) = false := by simp
  go_wp2_with fail
  go_loopg [20, 21, 123] p1 (fun g _ _ i wr => ∃ m : Nat, m ≤ p1 ∧ g = p1 - m ∧ i = .int .i64 m ∧ Hid (Drawn wxQ wr))
  case atStart => exact ⟨0, Nat.zero_le _, rfl, rfl, Drawn.refl _⟩
  case round =>
    rename World => wo
    obtain ⟨m, hm, rfl, rfl, HDR⟩ := hrel
    by_cases hmn : m < p1
    · have hmz : (m : Int) < (p1 : Int) := by omega
      have hm1 : m < n1 := by omega
      have hm2 : m < n2 := by omega
      have hm1z : (m : Int) < (n1 : Int) := by omega
      have hm2z : (m : Int) < (n2 : Int) := by omega
      obtain ⟨e0, g0⟩ := HXH.out.get hmn
      obtain ⟨rfl, g1⟩ := HL1.out.get hm1
      obtain ⟨rfl, g2⟩ := HSQe.out.get hm2
      have l0 := HXH.out.le
      have l1 := HL1.out.le
      have l2 := HSQe.out.le
      rw [← HDR.out.cell] at g0 g1 g2
      rw [Nat.zero_add] at g0
      have hM := HM.out m hmn
      obtain ⟨X, hX⟩ : ∃ X, X = hdF len0 x a3 m := ⟨_, rfl⟩
      obtain ⟨V, hV⟩ : ∃ V, V = flP m := ⟨_, rfl⟩
      obtain ⟨U, hU⟩ : ∃ U, U = flQ m := ⟨_, rfl⟩
      rw [← hX] at g0 hM
      rw [← hV] at g1 hM
      rw [← hU] at g2 hM
      clear hX hV hU e0
      have HDN := Lib.hid (fun q => HDR.out.drewN q)
      have HIR := Lib.hid (fun q => isRemoved_any X (wo.drewN q))
      have HMM := Lib.hid hM
      clear hM
      cases hr : remN X with
      | true =>
        have HRX := Lib.hid hr
        clear hr
        go_upto_region 16 with fail
        go_big_quiet ((go_at_call 17; exact quiet_same (congrArg Value.bool HRX.out) (HIR.out _)))
        go_wp2_with fail
        go_roundg (p1 - (m + 1))
        case rel => exact ⟨m + 1, by omega, rfl, by go_num, HDN.out _⟩
        case measure => omega
      | false =>
        have hUV := HMM.out hr
        have HRX := Lib.hid hr
        subst hUV
        have hvv : (V != V) = false := by simp
        clear hr HMM
        go_upto_region 16 with fail
        go_big_quiet ((go_at_call 17; exact quiet_same (congrArg Value.bool HRX.out) (HIR.out _)))
        go_wp2_with fail
        go_roundg (p1 - (m + 1))
        case rel => exact ⟨m + 1, by omega, rfl, by go_num, HDN.out _⟩
        case measure => omega
    · obtain rfl : m = p1 := by omega
      go_wp2_with fail
      go_ret
      obtain ⟨q, hq⟩ := HDR.out
      exact ⟨rfl, by rw [hq]; exact below_of_since (since_drewN HSA.out q)⟩

/-! ### THE ROW's STEP -/
set_option maxRecDepth 100000 in
theorem contract (H : Type) (enc : TypeId × Value → H) (W : World) (base : Nat) (args : Array Value) (ds gs : List (DataW H)) (before : List MemPlace)
    (hval : ∀ (j : Nat) t v, Tryd.f5.params[j]? = some t → args[j]? = some v → Value.okWide Tryd.prog W .any base t v)
    (hW : DataW.Whole enc Tryd.prog Tryd.f5.params.toList Rows.fnFollowingTextSpec.vars false W args.toList ds gs before) (hL : laidMetH Tryd.prog Rows.fnFollowingTextRow.laid W) :
    Calls Tryd.prog 5 args W fun e W' => ∃ v, e = .returned v ∧ Rows.fnFollowingTextSpec.post enc Tryd.prog Tryd.f5 false true false false W args v W' := by
  have hW' := hW
  obtain ⟨p, q, hA0, hV, rfl, hfz, hnd⟩ := hW
  have hA : DataW.TrodAll enc Tryd.prog W 0 (fun _ => true) true Tryd.f5.params.toList args.toList ds p := hA0
  rw [Tryd.params5] at hA hval
  obtain ⟨v0, vs0, d0, ds0, p0, q0, hargs, rfl, rfl, h0, r0⟩ := trodAll_cons hA
  obtain ⟨v1, vs1, d1, ds1, p1, q1, rfl, rfl, rfl, h1, r1⟩ := trodAll_cons r0
  obtain ⟨v2, vs2, d2, ds2, p2, q2, rfl, rfl, rfl, h2, r2⟩ := trodAll_cons r1
  obtain ⟨v3, vs3, d3, ds3, p3, q3, rfl, rfl, rfl, h3, r3⟩ := trodAll_cons r2
  obtain ⟨rfl, rfl, rfl⟩ := trodAll_nil r3
  obtain rfl : args = #[v0, v1, v2, v3] := by cases args; simp_all
  obtain ⟨a0, len0, cap0, rfl⟩ := okWide_slice Tryd.underlying22 (hval 0 22 v0 rfl rfl)
  have k0 := h0
  have lt0 : ∀ x ∈ p0, x.block < W.heap.size := by obtain ⟨m, hm⟩ := k0; exact DataW.trod_lt m _ _ _ hm
  obtain ⟨z0, w0⟩ : ∃ zs, IsRow .i64 W a0 len0 cap0 zs := by
    obtain ⟨fuel, hf⟩ := h0
    rcases open_ints Tryd.underlying22 Tryd.underlying3 (by kernel_rfl) hf with ⟨hcs, _⟩ | ⟨x, l, c, zs, hcs, _, hl, hm, hz, _, hcell, hwz⟩
    · simp [Value.cells] at hcs
      obtain ⟨rfl, rfl, rfl⟩ := hcs
      exact ⟨[], .inl ⟨rfl, rfl, rfl, rfl⟩⟩
    · simp [Value.cells] at hcs
      obtain ⟨rfl, rfl, rfl⟩ := hcs
      exact ⟨zs, .inr ⟨_, rfl, hl, hm, by simpa using hz, hcell, hwz⟩⟩
  obtain ⟨a1, len1, cap1, rfl⟩ := okWide_slice Tryd.underlying22 (hval 1 22 v1 rfl rfl)
  have k1 := h1
  have lt1 : ∀ x ∈ p1, x.block < W.heap.size := by obtain ⟨m, hm⟩ := k1; exact DataW.trod_lt m _ _ _ hm
  obtain ⟨z1, w1⟩ : ∃ zs, IsRow .i64 W a1 len1 cap1 zs := by
    obtain ⟨fuel, hf⟩ := h1
    rcases open_ints Tryd.underlying22 Tryd.underlying3 (by kernel_rfl) hf with ⟨hcs, _⟩ | ⟨x, l, c, zs, hcs, _, hl, hm, hz, _, hcell, hwz⟩
    · simp [Value.cells] at hcs
      obtain ⟨rfl, rfl, rfl⟩ := hcs
      exact ⟨[], .inl ⟨rfl, rfl, rfl, rfl⟩⟩
    · simp [Value.cells] at hcs
      obtain ⟨rfl, rfl, rfl⟩ := hcs
      exact ⟨zs, .inr ⟨_, rfl, hl, hm, by simpa using hz, hcell, hwz⟩⟩
  obtain ⟨a2, len2, cap2, rfl⟩ := okWide_slice Tryd.underlying22 (hval 2 22 v2 rfl rfl)
  have k2 := h2
  have lt2 : ∀ x ∈ p2, x.block < W.heap.size := by obtain ⟨m, hm⟩ := k2; exact DataW.trod_lt m _ _ _ hm
  obtain ⟨z2, w2⟩ : ∃ zs, IsRow .i64 W a2 len2 cap2 zs := by
    obtain ⟨fuel, hf⟩ := h2
    rcases open_ints Tryd.underlying22 Tryd.underlying3 (by kernel_rfl) hf with ⟨hcs, _⟩ | ⟨x, l, c, zs, hcs, _, hl, hm, hz, _, hcell, hwz⟩
    · simp [Value.cells] at hcs
      obtain ⟨rfl, rfl, rfl⟩ := hcs
      exact ⟨[], .inl ⟨rfl, rfl, rfl, rfl⟩⟩
    · simp [Value.cells] at hcs
      obtain ⟨rfl, rfl, rfl⟩ := hcs
      exact ⟨zs, .inr ⟨_, rfl, hl, hm, by simpa using hz, hcell, hwz⟩⟩
  obtain ⟨a3, rfl, rfl, rfl, w3⟩ := open_int Tryd.underlying3 (hval 3 3 v3 rfl rfl) h3
  obtain ⟨g, tv, cs, fuel, dv, pv, rfl, hg1, hg2, hg3, hg4, rfl⟩ := trodVars_one hV
  obtain rfl : g = 0 := Option.some.inj (hg1.symm.trans gTab)
  obtain rfl : tv = 84 := Option.some.inj (hg2.symm.trans gTabType)
  have ltv : ∀ x ∈ pv, x.block < W.heap.size := DataW.trod_lt fuel _ _ _ hg4
  have hT := tab hL
  clear hA0
  refine (walk a0 len0 cap0 z0 a1 len1 cap1 z1 a2 len2 cap2 z2 a3 W w0 w1 w2 w3 hT).mono fun e W' ⟨he, bel⟩ => ?_
  subst he
  have hg4' := DataW.trod_stays (sp' := fun b => decide (b < W.heap.size)) (w' := W') (kids_book laidOut (by kernel_rfl)) (book_sized (by kernel_rfl)) (fun h => by cases h) ⟨of_decide_eq_true (by kernel_rfl), book_self 84⟩ hg4 (fun x hx => bel.same (ltv x hx)) (fun x hx => by simpa using ltv x hx)
  exact ⟨_, rfl, _, _, _, [], _, _, hW', trodAll_mk1 (shut_bool Tryd.underlying4 _), (trodAll_cons_mk (Below.trod laidOut (by kernel_rfl) (of_decide_eq_true (by kernel_rfl)) k0 bel lt0) (trodAll_cons_mk (Below.trod laidOut (by kernel_rfl) (of_decide_eq_true (by kernel_rfl)) k1 bel lt1) (trodAll_cons_mk (Below.trod laidOut (by kernel_rfl) (of_decide_eq_true (by kernel_rfl)) k2 bel lt2) (trodAll_cons_mk (shut_int Tryd.underlying3 w3) trodAll_mk0)))), trodVars_mk1 hg1 hg2 (var?_below bel hg1 hT.lt hg3) hg4', bel.frame _, fun h => by cases h⟩

/-- A world for the witness: the table holding what its initialiser lays. -/
noncomputable def laidWorld (os : Os) : World :=
  { World.holding Tryd.prog os ⟨#[], #[], []⟩ with heap := (World.holding Tryd.prog os ⟨#[], #[], []⟩).heap.modify 0 fun
      | .cells _ t frozen => .cells (tabZ.map fun z => Value.int .u64 z).toArray t frozen
      | o => o }
theorem laid_met (os : Os) : laidMet Tryd.prog Rows.fnFollowingTextRow.laid ((laidWorld os).forCall (fun _ _ => 0) ⟨#[], #[.slice none 0 0, .slice none 0 0, .slice none 0 0, .int .i64 0], []⟩).memory :=
  laidMet_of_run' 8 (by kernel_rfl) (by kernel_rfl)
theorem reads (os : Os) {H : Type} (enc : TypeId × Value → H) : ∃ places, DataW.whole enc Tryd.prog ((laidWorld os).forCall (fun _ _ => 0) ⟨#[], #[.slice none 0 0, .slice none 0 0, .slice none 0 0, .int .i64 0], []⟩).memory Tryd.f5.params.toList Rows.fnFollowingTextSpec.vars false (#[.slice none 0 0, .slice none 0 0, .slice none 0 0, .int .i64 0] : Array Value).toList 8 = some ([.nil, .nil, .nil, .lit (.int .i64 0)], [Rows.laid_loop_example_pub_g01449_impl_classes], places) :=
  ⟨MemPlace.row ⟨0, 0, none⟩ 23, by kernel_rfl⟩

set_option maxRecDepth 100000 in
theorem lifted (os : Os) (started : os.Started) (H : Type) (enc : TypeId × Value → H) (F : Stop.Interp) :
    ReturnsInHanded {} Tryd.checked os 5 .any ((OpenSpec.ofChange Rows.fnFollowingTextSpec).preRow enc Tryd.prog Tryd.f5 Rows.fnFollowingTextRow.domain false Rows.fnFollowingTextRow.laid) (((OpenSpec.ofChange Rows.fnFollowingTextSpec).at F).post enc Tryd.prog Tryd.f5 false true false false) := by
  obtain ⟨places, hx⟩ := reads os enc
  refine returnsInHanded_of_row (C := Tryd.checked) (s := OpenSpec.ofChange Rows.fnFollowingTextSpec) own started (by kernel_rfl) Tryd.func5
    (witness_row_at (enc := enc) (C := Tryd.checked) false (laidWorld os) #[.slice none 0 0, .slice none 0 0, .slice none 0 0, .int .i64 0] rfl (by kernel_rfl) (by kernel_rfl) (by kernel_rfl)
      (OpenSpec.preRow_of_cond 8 hx (by kernel_rfl) (fun k hk => by cases hk) (by kernel_rfl) (laid_met os))) ?_
  intro W base args ds gs before hval hW _ _ _ hL _ _
  exact contract H enc W base args ds gs before hval hW hL

theorem said : Rows.FnFollowingTextSaid :=
  OpenClaim.holds_of_cond 5 Tryd.f5 rfl rfl rfl rfl rfl rfl rfl ⟨rfl, rfl, rfl, rfl, rfl⟩ rfl rfl rfl rfl rfl (by kernel_rfl) Tryd.func5 (by kernel_rfl)
    (of_decide_eq_true (by kernel_rfl)) (by unfold Func.isWrapper; first | (rw [if_pos (by decide +kernel)]; kernel_rfl) | (rw [if_neg (by decide +kernel)]; exact ⟨rfl, rfl⟩))
    (fun os started H enc _ F => by rw [OpenClaim.pre_eq_preRow]; exact lifted os started H enc F)

theorem plain (f : FuncId) (fn : Func) (hf : Tryd.pinned.checked.prog.funcNamed Rows.fnFollowingTextRow.func = some f) (hfn : Tryd.pinned.checked.prog.funcs[f]? = some fn) :
    true = Tryd.pinned.checked.prog.looks [] ∧ ∀ (j : Nat) t, fn.params[j]? = some t → Tryd.pinned.checked.prog.wantsStandIn t = false := by
  obtain rfl : f = 5 := Option.some.inj ((show Tryd.prog.funcNamed Rows.fnFollowingTextRow.func = some 5 by kernel_rfl).symm.trans hf) |>.symm
  obtain rfl : fn = Tryd.f5 := (Option.some.inj (Tryd.func5.symm.trans hfn)).symm
  refine ⟨by kernel_rfl, fun j t ht => ?_⟩
  rw [Tryd.params5] at ht
  have ht2 : t = 22 ∨ t = 22 ∨ t = 22 ∨ t = 3 := by simpa using Array.mem_of_getElem? ht
  rcases ht2 with rfl | rfl | rfl | rfl
  · exact (show Tryd.prog.wantsStandIn 22 = false by kernel_rfl)
  · exact (show Tryd.prog.wantsStandIn 22 = false by kernel_rfl)
  · exact (show Tryd.prog.wantsStandIn 22 = false by kernel_rfl)
  · exact (show Tryd.prog.wantsStandIn 3 = false by kernel_rfl)

/-- THE CARD. -/
theorem proved : Rows.FnFollowingTextCardSaid :=
  Claim7.holds_tied_plain_at .later [] _ _ _ _ said (fun _ h => by cases h) (by kernel_rfl) (fun _ h => by cases h) fnFollowingText_row_tie rfl ⟨rfl, rfl⟩ (by kernel_rfl) rfl plain (by kernel_rfl)
#print axioms proved
end Go.Proofs.YtkocpijloiamcaaDoor.fnFollowingText
