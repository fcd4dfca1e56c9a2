/- The law FnRunsCover, its tied card: for every input the call returns true, and each argument and the table of classes read afterwards as before. The row's one condition, that the table starts as the program's text lays it, is tied to the text by the given tie. -/
import Derived.Test.YtjelgbfgciaapaaDoorCards
import Derived.Test.YtjelgbfgciaapaaDoorTie
import Derived.Test.YtjelgbfgciaapaaDoorLawX
import Derived.Test.YtjelgbfgciaapaaDoorRunsL
import Derived.Test.YtjelgbfgciaapaaDoorRunsS
import Derived.WalkKit
import Derived.ProofKit
import Derived.OpenShut
import Derived.ShutString
import Derived.ChangeOld
import Derived.ChangeVars
import Derived.WalkSmall
import Derived.Below
import Derived.Deep.DeepHandedRow
import Derived.Lib.LaidTab
namespace Go.Proofs.YtjelgbfgciaapaaDoor.fnRunsCover
open Go.ChangeShapes Go.WideShapes Go.ChangeAt Go.RowKit
open Go.ChangeMaps (open_string shut_string)
set_option linter.unusedVariables false

theorem own : ownKnob Tryd.prog.godebug = none := by kernel_rfl
theorem laidOut : laidOutB Tryd.prog = true := by kernel_rfl
/-- The table's name. -/
def tabName : String := Rows.fnRunsCoverSpec.vars.headD ""
theorem gTab : Tryd.prog.globalNamed tabName = some 0 := by kernel_rfl
theorem gTabType : (Tryd.prog.globals[0]?).map (·.type) = some 88 := by kernel_rfl
theorem cellsT : Tryd.prog.cellsOf 88 = 23 := by kernel_rfl
theorem cellsC : Tryd.prog.cellsOf 67 = 1 := by kernel_rfl
def tabZ : List Int := [0, 1, 2, 3, 4, 5, 6, 7, 8, 9, 10, 11, 12, 13, 16, 17, 18, 19, 20, 21, 22, 23, 24]

/-- What the row's list gives. -/
theorem table {W : World} (h : laidMetH Tryd.prog Rows.fnRunsCoverRow.laid W) : Lib.TabIs Tryd.prog W tabName .u64 tabZ :=
  Lib.tabIs_of_head (rest := []) gTab gTabType Tryd.underlying88 Tryd.underlying67 cellsC cellsT h
theorem tab {W : World} (h : laidMetH Tryd.prog Rows.fnRunsCoverRow.laid W) : Tab W := fun i hi => by
  have h1 := (table h).cell gTab i (by simpa [tabZ] using hi)
  rw [h1]
  congr 2
  have : ∀ j : Fin 23, tabZ.getD j.val 0 = cls (j.val : Int) := by decide
  exact this ⟨i, hi⟩

/-- What the walk is told of a slice of integers that came in. -/
def IsRow (k : IntKind) (w : World) (a : Option Addr) (len cap : Nat) (zs : List Int) : Prop :=
  (a = none ∧ len = 0 ∧ cap = 0 ∧ zs = []) ∨
  ∃ x, a = some x ∧ len ≤ cap ∧ cap ≤ maxLen ∧ zs.length = cap ∧ (∀ i, i < zs.length → w.cell? (x.add i) = some (.int k (zs.getD i 0))) ∧ ∀ n ∈ zs, (Lit.int k n).wf = true

set_option maxHeartbeats 4000000 in
set_option maxRecDepth 100000 in
theorem walk (a0 : Option Addr) (len0 cap0 : Nat) (z0 : List Int) (a1 : Int) (w : World) (w0 : IsRow .i64 w a0 len0 cap0 z0) (w1 : (Lit.int .i64 a1).wf = true) (ht : Tab w) :
    Calls Tryd.prog 7 #[.slice a0 len0 cap0, .int .i64 a1] w fun e w' => e = .returned (.bool true) ∧ Below w.heap.size w w' := by
  obtain ⟨b0, o0, hx0⟩ := sees_of_row w0
  obtain ⟨x, hx⟩ : ∃ x : Nat → Int, Sees w a0 b0 o0 len0 cap0 (fun i => .int .i64 (x i)) := ⟨_, hx0⟩
  clear hx0 w0 w1
  by_cases hn : len0 ≤ 2147483647
  case neg =>
    have hb : (2147483647 : Int) < (len0 : Int) := by omega
    go_enter Tryd.func7, Tryd.ntmps7
    go_wp2_with fail
    go_ret
    exact ⟨rfl, Below.refl _ _⟩
  by_cases hp : paraB len0 x = true
  case neg =>
    have hp' : paraB len0 x = false := by simpa using hp
    clear hp
    go_enter Tryd.func7, Tryd.ntmps7
    go_wp2_with fail
    refine (isParagraph_any _ (by omega) hx).mono ?_
    rintro e w1 ⟨rfl, rfl⟩
    rw [hp']
    go_wp2_with fail
    go_ret
    exact ⟨rfl, Below.refl _ _⟩
  have hpp := (of_decide_eq_true hp : 0 < len0 ∧ ∀ i, i < len0 → 0 ≤ x i ∧ x i < 23 ∧ (x i = 7 → len0 ≤ i + 1))
  have hpos := hpp.1
  have HOK := Lib.hid (show ∀ i, i < len0 → clsOk (x i) from fun i hi => ⟨(hpp.2 i hi).1, (hpp.2 i hi).2.1⟩)
  have HB := Lib.hid (show ∀ i, i < len0 → x i = 7 → len0 ≤ i + 1 from fun i hi => (hpp.2 i hi).2.2)
  have HPA := Lib.hid hp
  clear hpp hp
  by_cases hbs : baseB a1 = true
  case neg =>
    have hbs' : baseB a1 = false := by simpa using hbs
    have HBS := Lib.hid hbs'
    clear hbs hbs'
    go_enter Tryd.func7, Tryd.ntmps7
    go_wp2_with fail
    refine (isParagraph_any _ (by omega) hx).mono ?_
    rintro e w1 ⟨rfl, rfl⟩
    rw [HPA.out]
    go_wp2_with fail
    refine (isBase_any _ _).mono ?_
    rintro e w1 ⟨rfl, rfl⟩
    rw [HBS.out]
    go_wp2_with fail
    go_ret
    exact ⟨rfl, Below.refl _ _⟩
  have HBA := Lib.hid (show a1 = 0 ∨ a1 = 1 from of_decide_eq_true hbs)
  have HBS := Lib.hid hbs
  clear hbs
  go_enter Tryd.func7, Tryd.ntmps7
  go_wp2_with fail
  refine (isParagraph_any _ (by omega) hx).mono ?_
  rintro e w1 ⟨rfl, rfl⟩
  rw [HPA.out]
  go_wp2_with fail
  refine (isBase_any _ _).mono ?_
  rintro e w1 ⟨rfl, rfl⟩
  rw [HBS.out]
  go_wp2_with fail
  refine (implExplicit_any _ ht (by omega) hpos HBA.out HOK.out HB.out hx).mono ?_
  rintro e w1 ⟨cl, hcl, a3, b3, o3, c3, a4, b4, o4, c4, rfl, hs3, hs4, hb3, hb4, hsi1⟩
  have HCL := Lib.hid (show ∀ i, i < len0 → lvS x (fsI len0 x) a1 i ≠ -1 → cl i = lvS x (fsI len0 x) a1 i from fun i hi h => by rw [hcl i hi (lvS_ne h), lvS_of (lvS_ne h)])
  have hs0 : w1.Since w1.heap.size (w1.alloc (.cells #[] 3)) := (World.Since.refl _ _).alloc (Nat.le_refl _) _
  have hgA := Gr.empty w1 w1.heap.size 3 (cellsOf []) (Nat.le_refl _)
  have hxlt : 0 < len0 → b0 < w.heap.size := fun h => hx.lt h
  have hs4b : 0 < len0 → b4 < w1.heap.size := fun h => hs4.lt h
  have hx1 := (hx.since hsi1).since hs0
  have ht1 := (ht.since hsi1).since hs0
  have hs4a := hs4.since hs0
  have hsi01 := since2 hsi1 hs0
  clear hcl ht hx hs3 hs4
  have hrl := runs_len (lvS x (fsI len0 x) a1) len0
  have HRL := Lib.hid (fun j => @runs_row_len (lvS x (fsI len0 x) a1) len0 j)
  have HRA := Lib.hid (fun j => @runs_at (lvS x (fsI len0 x) a1) len0 j)
  have HDF := Lib.hid (runs_dif (lvS x (fsI len0 x) a1) len0)
  have HFL := Lib.hid (runs_flat (lvS x (fsI len0 x) a1) len0)
  have HRM := Lib.hid (show ∀ i, remN (x i) = true ↔ lvS x (fsI len0 x) a1 i = -1 from fun i => ⟨lvS_rem, fun h => by
    cases hr : remN (x i) with
    | true => rfl
    | false =>
      rw [lvS_of hr] at h
      have := lvl_range (x := x) (fs := fsI len0 x) (base := a1) (by have := HBA.out; omega) (by have := HBA.out; omega) i
      have := HBA.out
      omega⟩)
  obtain ⟨RR, hRR⟩ : ∃ RR, RR = runs (lvS x (fsI len0 x) a1) len0 := ⟨_, rfl⟩
  rw [← hRR] at hrl HRL HRA HDF HFL
  have HRR := Lib.hid hRR
  clear hRR
  go_wp2_with fail
  refine (implLevelRuns_any _ ht1 (by omega) hpos HBA.out HOK.out HB.out hx1).mono ?_
  rintro e w2 ⟨v, rfl, hl, hsi2⟩
  rw [← HRR.out] at hl
  obtain ⟨ao2, c2, rfl⟩ := hl.form
  have hHL := hl
  have hx2 := hx1.since hsi2
  have hs42 := hs4a.since hsi2
  have hgA2 := hgA.since hsi2
  have hz01 : w1.heap.size < (w1.alloc (.cells #[] 3)).heap.size := by simp
  have hz12 := hsi2.size
  have hz0 := hsi1.size
  have hx0b : b0 < w.heap.size := hxlt hpos
  have hb4lt := hs4b hpos
  have hsi02 := since2 hsi01 hsi2
  clear hl hx1 hs4a hgA hsi01 ht1 hs0
  go_wp2_with fail
  go_loopg [7, 8, 10, 12, 43] RR.length (fun g all lst _ _ i wr => ∃ (k : Nat) (l : Int), k ≤ RR.length ∧ g = RR.length - k ∧ i = .int .i64 k ∧ lst = .int .i64 l ∧ Hid (l = if k = 0 then -1 else lvS x (fsI len0 x) a1 (hd (RR.getD (k - 1) []))) ∧
    Gr wr w1.heap.size 3 all (RR.take k).flatten.length (cellsOf (RR.take k).flatten) ∧ (∀ q, all.ownBlock = some q → q = w1.heap.size ∨ w2.heap.size ≤ q) ∧ Kp (fun q => q = w1.heap.size) w2 wr)
  case atStart => exact ⟨0, -1, by omega, rfl, rfl, rfl, rfl, hgA2, fun q hq => by simp only [Value.ownBlock, Option.some.injEq] at hq; exact .inl hq.symm, Kp.refl _ _⟩
  case round =>
    clear hgA2
    obtain ⟨k, l, hk, rfl, rfl, rfl, HLST, hA, hob, hs⟩ := hrel
    have hsw := hs.size
    by_cases hkn : k < RR.length
    · have hkz : (k : Int) < (RR.length : Int) := by omega
      obtain ⟨_, b2, hb2, f, q1, q2⟩ := (hHL.keptFrom hs (fun q hq => by omega)).sees
      obtain ⟨rfl, hc⟩ := q1.get hkn
      rw [Nat.zero_add] at hc
      obtain ⟨a5, b5, o5, c5, e5, s5⟩ := q2 k hkn
      rw [e5] at hc
      have hlen := HRL.out k hkn
      have HRO := Lib.hid (HRA.out k hkn)
      have hpl : 0 < (RR.getD k []).length := List.length_pos_iff.2 HRO.out.ne
      have HDK := Lib.hid (show lvS x (fsI len0 x) a1 (hd (RR.getD k [])) ≠ l from fun e => HDF.out k hkn (e.trans HLST.out))
      have HTK := Lib.hid (take_snoc hkn)
      clear q1 q2 e5
      obtain ⟨r, hr⟩ : ∃ r, r = RR.getD k [] := ⟨_, rfl⟩
      rw [← hr] at hc s5 hlen HRO hpl HDK HTK
      have HRD := Lib.hid hr
      clear hr
      have hx4 := hs.sees hx2 (fun _ => show ¬ b0 = w1.heap.size by omega)
      have hs44 := hs.sees hs42 (fun _ => show ¬ b4 = w1.heap.size by omega)
      have hlz : ((r.length : Int) == 0) = false := by rw [beq_eq_false_iff_ne]; omega
      obtain ⟨h, hh⟩ : ∃ h, h = hd r := ⟨_, rfl⟩
      have hr0 : (cellsOf r) 0 = .int .i64 (h : Int) := by rw [hh]; rfl
      obtain ⟨hhlt, hhm⟩ : h < len0 ∧ lvS x (fsI len0 x) a1 h ≠ -1 := by
        rw [hh]
        refine ⟨HRO.out.lt _ ?_, HRO.out.nr⟩
        obtain ⟨y, ys, rfl⟩ := List.exists_cons_of_ne_nil HRO.out.ne
        exact List.mem_cons_self
      obtain ⟨rfl, hch⟩ := hs44.get hhlt
      rw [HCL.out h hhlt hhm] at hch
      obtain ⟨L, hL⟩ : ∃ L, L = lvS x (fsI len0 x) a1 h := ⟨_, rfl⟩
      rw [← hL] at hch
      obtain ⟨rfl, hc50⟩ := s5.get hpl
      rw [hr0, Nat.add_zero] at hc50
      have hhz : (0 : Int) ≤ (h : Int) := by omega
      have hhz2 : (h : Int) < (len0 : Int) := by omega
      have hplz : (0 : Int) < (r.length : Int) := by omega
      have HHH := Lib.hid hh
      have HLL := Lib.hid hL
      clear hh hL hhm hr0
      have hAl : (RR.take k).flatten.length ≤ 4294967296 := by
        have h1 := HFL.out
        have h2 : (RR.take k).flatten.length ≤ RR.flatten.length := by
          conv => rhs; rw [← List.take_append_drop k RR, List.flatten_append, List.length_append]
          omega
        have h3 : RR.flatten.length ≤ len0 := by
          rw [h1]
          have := List.length_filter_le (fun i => decide (lvS x (fsI len0 x) a1 i ≠ -1)) (List.range len0)
          simpa using this
        omega
      go_upto_block 2 with fail
      go_cut [12] (fun _ wx => ∃ nq, wx = wr.drewN nq)
      case first =>
        go_wp2_with fail
        go_loopg [12, 52] r.length (fun g _ i wx => ∃ q : Nat, q ≤ r.length ∧ g = r.length - q ∧ i = .int .i64 q ∧ ∃ nq, wx = wr.drewN nq)
        case atStart => exact ⟨0, by omega, rfl, rfl, 0, rfl⟩
        case round =>
          obtain ⟨q, hq, rfl, rfl, nq, rfl⟩ := hrel
          by_cases hqn : q < r.length
          · have hqz : (q : Int) < (r.length : Int) := by omega
            have hcq := (s5.get hqn).2
            obtain ⟨y, hy⟩ : ∃ y, y = r.getD q 0 := ⟨_, rfl⟩
            have hcy : cellsOf r q = .int .i64 (y : Int) := by rw [hy]; rfl
            rw [hcy] at hcq
            have hmem : y ∈ r := by rw [hy, List.getD_eq_getElem?_getD, List.getElem?_eq_getElem hqn]; exact List.getElem_mem hqn
            have hylt := HRO.out.lt y hmem
            have hyl := HRO.out.lvl y hmem
            have hyv : cl y = L := by rw [HCL.out y hylt (by rw [hyl]; exact HRO.out.nr), hyl, HLL.out, HHH.out]
            have hcl2 := (hs44.get hylt).2
            rw [hyv] at hcl2
            have hyz : ¬ (y : Int) < 0 := by omega
            have hyz1 : (0 : Int) ≤ (y : Int) := by omega
            have hyz2 : (y : Int) < (len0 : Int) := by omega
            have hyz3 : ¬ (len0 : Int) ≤ (y : Int) := by omega
            have hbb : (L != L) = false := by simp
            clear hy hcy hmem hyl hyv
            go_upto_region 18 with fail
            go_quiet (fail)
            go_wp2_with fail
            go_roundg (r.length - (q + 1))
            case rel => exact ⟨q + 1, by omega, rfl, by go_num, _, rfl⟩
            case measure => omega
          · obtain rfl : q = r.length := by omega
            go_wp2_with fail
            go_meet
            exact ⟨nq, rfl⟩
      obtain ⟨nq, rfl⟩ := hcut
      have hA' : Gr (wr.drewN nq) w1.heap.size 3 u7 (RR.take k).flatten.length (cellsOf (RR.take k).flatten) := hA
      have s5' : Sees (wr.drewN nq) (some ⟨b5, o5, none⟩) b5 o5 r.length c5 (cellsOf r) := s5
      have hkN := hs.drewN nq
      have hne : (L == l) = false := by
        rw [beq_eq_false_iff_ne]
        intro e
        exact HDK.out (by rw [← HHH.out, ← HLL.out]; exact e)
      have hrl2 : r.length ≤ 4294967296 := by omega
      clear hA s5 hs hx4
      have hw1r : w1.heap.size ≤ (wr.drewN nq).heap.size := by show w1.heap.size ≤ wr.heap.size; omega
      have hz2r : w2.heap.size ≤ wr.heap.size := hsw
      have HTKF := Lib.hid (show (RR.take (k + 1)).flatten = (RR.take k).flatten ++ r by rw [HTK.out]; simp)
      have HOB := Lib.hid (show ∀ q, u7.ownBlock = some q → q = w1.heap.size ∨ w2.heap.size ≤ q from hob)
      obtain ⟨A, hAA⟩ : ∃ A, A = (RR.take k).flatten := ⟨_, rfl⟩
      rw [← hAA] at hA' HTKF hAl
      have HAA := Lib.hid hAA
      clear hAA hob
      go_wp2_with (at_builtin; go_must (refine wpList_cat _ rfl _ _ 22 rfl w1.heap.size 3 (.int .i64 0) 8 Tryd.underlying22 Tryd.infoInt rfl _ _ _ (by rfl) hA' (by rfl) s5' (fun _ _ => rfl) (by omega) (by omega) hw1r ?_))
      intro v' w5 hg5 hgr5 hat5
      have hA5 : Gr w5 w1.heap.size 3 v' (RR.take (k + 1)).flatten.length (cellsOf (RR.take (k + 1)).flatten) := by
        rw [HTKF.out, List.length_append]
        exact hg5.congr (fun i _ => (cellsOf_app A r i).symm)
      have hk5 : Kp (fun q => q = w1.heap.size) w2 w5 := hkN.grown hgr5 (fun q hq => HOB.out q hq)
      have hob5 : ∀ q, v'.ownBlock = some q → q = w1.heap.size ∨ w2.heap.size ≤ q := fun q hq => by
        rcases hat5 with e | e
        · exact HOB.out q (by rw [← e]; exact hq)
        · rw [e] at hq
          simp only [Option.some.injEq] at hq
          right
          have : (wr.drewN nq).heap.size = wr.heap.size := rfl
          omega
      have HLN : Hid (L = if k + 1 = 0 then -1 else lvS x (fsI len0 x) a1 (hd (RR.getD (k + 1 - 1) []))) := Lib.hid (by
        rw [if_neg (by omega), Nat.add_sub_cancel, ← HRD.out, ← HHH.out]; exact HLL.out)
      clear hg5 hgr5 hat5 hA' s5' hkN
      go_wp2_with fail
      go_roundg (RR.length - (k + 1))
      case rel => exact ⟨k + 1, L, by omega, rfl, by go_num, rfl, HLN.out, hA5, hob5, hk5⟩
      case measure => omega
    · obtain rfl : k = RR.length := by omega
      obtain ⟨wO, rfl⟩ : ∃ wO, wO = wr := ⟨_, rfl⟩
      have hx4 := hs.sees hx2 (fun _ => show ¬ b0 = w1.heap.size by omega)
      have hbel : w.Since w.heap.size wO := since_kp hsi02 hs (by have := hsi02.size; omega) (fun q hq => by omega)
      rw [List.take_length, HFL.out] at hA
      have hgW := Gr.empty wO wO.heap.size 3 (cellsOf []) (Nat.le_refl _)
      have hsW : wO.Since wO.heap.size (wO.alloc (.cells #[] 3)) := (World.Since.refl _ _).alloc (Nat.le_refl _) _
      obtain ⟨F, hF⟩ : ∃ F, F = (List.range len0).filter (fun i => decide (lvS x (fsI len0 x) a1 i ≠ -1)) := ⟨_, rfl⟩
      rw [← hF] at hA
      have HF := Lib.hid hF
      have hFl : F.length ≤ len0 := by
        rw [hF]
        have := List.length_filter_le (fun i => decide (lvS x (fsI len0 x) a1 i ≠ -1)) (List.range len0)
        simpa using this
      clear hF hs hob hs42 hx2 HLST
      obtain ⟨aA, bA, cA, hAv, hbA, hsA⟩ := hA.sees
      subst hAv
      clear hA
      go_wp2_with fail
      go_loopg [13, 14, 15, 99] len0 (fun g want _ _ i wr => ∃ q : Nat, q ≤ len0 ∧ g = len0 - q ∧ i = .int .i64 q ∧ Gr wr wO.heap.size 3 want ((List.range q).filter (fun i => decide (lvS x (fsI len0 x) a1 i ≠ -1))).length (cellsOf ((List.range q).filter (fun i => decide (lvS x (fsI len0 x) a1 i ≠ -1)))) ∧ wO.Since wO.heap.size wr)
      case atStart => exact ⟨0, by omega, rfl, rfl, hgW, hsW⟩
      case round =>
        clear hgW hsW
        obtain ⟨q, hq, rfl, rfl, hW, hsx⟩ := hrel
        by_cases hqn : q < len0
        · have hqz : (q : Int) < (len0 : Int) := by omega
          obtain ⟨rfl, hc⟩ := (hx4.since hsx).get hqn
          have hszx : wO.heap.size ≤ wr.heap.size := hsx.size
          have HSN := Lib.hid (show (List.range (q + 1)).filter (fun i => decide (lvS x (fsI len0 x) a1 i ≠ -1)) = (List.range q).filter (fun i => decide (lvS x (fsI len0 x) a1 i ≠ -1)) ++ (if remN (x q) = true then [] else [q]) by
            rw [List.range_succ, List.filter_append]
            congr 1
            by_cases hr : remN (x q) = true
            · rw [if_pos hr]; simp [(HRM.out q).1 hr]
            · rw [if_neg hr]
              have : lvS x (fsI len0 x) a1 q ≠ -1 := fun e => hr ((HRM.out q).2 e)
              simp [this])
          have hWl : ((List.range q).filter (fun i => decide (lvS x (fsI len0 x) a1 i ≠ -1))).length ≤ 4294967296 := by
            have := List.length_filter_le (fun i => decide (lvS x (fsI len0 x) a1 i ≠ -1)) (List.range q)
            simp only [List.length_range] at this
            omega
          obtain ⟨W, hWW⟩ : ∃ W, W = (List.range q).filter (fun i => decide (lvS x (fsI len0 x) a1 i ≠ -1)) := ⟨_, rfl⟩
          rw [← hWW] at hW HSN hWl
          clear hWW
          cases hr : remN (x q) with
          | true =>
            have HR := Lib.hid hr
            rw [hr] at HSN
            clear hr
            go_wp2_with fail
            refine (isRemoved_any _ _).mono ?_
            rintro e w7 ⟨rfl, rfl⟩
            rw [HR.out]
            go_wp2_with fail
            go_roundg (len0 - (q + 1))
            case rel => exact ⟨q + 1, by omega, rfl, by go_num, (by rw [HSN.out]; simpa using hW), hsx⟩
            case measure => omega
          | false =>
            have HR := Lib.hid hr
            rw [hr] at HSN
            clear hr
            go_wp2_with fail
            refine (isRemoved_any _ _).mono ?_
            rintro e w7 ⟨rfl, rfl⟩
            rw [HR.out]
            go_wp2_with (at_builtin; go_must (refine wpList_push wr rfl _ _ 22 rfl wO.heap.size 3 (.int .i64 0) 8 Tryd.underlying22 Tryd.infoInt rfl _ _ _ _ (by rfl) hW (by rfl) rfl (by omega) (by omega) hszx ?_))
            intro v' w8 hg8 hgr8 hat8
            have hW8 : Gr w8 wO.heap.size 3 v' (W ++ [q]).length (cellsOf (W ++ [q])) := by
              rw [List.length_append]
              exact hg8.congr (fun i _ => (cellsOf_snoc W q i).symm)
            have hs8 : wO.Since wO.heap.size w8 := (hsx.alloc hszx _).grown hgr8 (by simp; omega) (fun k hk => (hW.ge k hk).1)
            clear hg8 hgr8 hat8 hW hsx
            go_wp2_with fail
            go_roundg (len0 - (q + 1))
            case rel => exact ⟨q + 1, by omega, rfl, by go_num, (by rw [HSN.out]; simpa using hW8), hs8⟩
            case measure => omega
        · obtain rfl : q = len0 := by omega
          rw [← HF.out] at hW
          obtain ⟨aW, bW, cW, hWv, hbW, hsW⟩ := hW.sees
          subst hWv
          have hsA' : Sees wr aA bA 0 F.length cA (fun i => .int .i64 ((F.getD i 0 : Nat) : Int)) := hsA.since hsx
          have hsW' : Sees wr aW bW 0 F.length cW (fun i => .int .i64 ((F.getD i 0 : Nat) : Int)) := hsW
          have HSB := Lib.hid (show sameB F.length F.length (fun i => ((F.getD i 0 : Nat) : Int)) (fun i => ((F.getD i 0 : Nat) : Int)) = true from decide_eq_true ⟨rfl, fun _ _ => rfl⟩)
          clear hW hsA hsW
          go_wp2_with fail
          refine (same_any _ (by omega) (by omega) hsA' hsW').mono ?_
          rintro e w9 ⟨rfl, hs9⟩
          rw [HSB.out]
          go_wp2_with fail
          go_ret
          exact ⟨rfl, (below_of_since hbel).trans ((below_of_since (since2 hsx hs9)).mono hbel.size)⟩

/-! ### THE ROW's STEP -/
set_option maxRecDepth 100000 in
theorem contract (H : Type) (enc : TypeId × Value → H) (W : World) (base : Nat) (args : Array Value) (ds gs : List (DataW H)) (before : List MemPlace)
    (hval : ∀ (j : Nat) t v, Tryd.f7.params[j]? = some t → args[j]? = some v → Value.okWide Tryd.prog W .any base t v)
    (hW : DataW.Whole enc Tryd.prog Tryd.f7.params.toList Rows.fnRunsCoverSpec.vars false W args.toList ds gs before) (hL : laidMetH Tryd.prog Rows.fnRunsCoverRow.laid W) :
    Calls Tryd.prog 7 args W fun e W' => ∃ v, e = .returned v ∧ Rows.fnRunsCoverSpec.post enc Tryd.prog Tryd.f7 false true false false W args v W' := by
  have hW' := hW
  obtain ⟨p, q, hA0, hV, rfl, hfz, hnd⟩ := hW
  have hA : DataW.TrodAll enc Tryd.prog W 0 (fun _ => true) true Tryd.f7.params.toList args.toList ds p := hA0
  rw [Tryd.params7] at hA hval
  obtain ⟨v0, vs0, d0, ds0, p0, q0, hargs, rfl, rfl, h0, r0⟩ := trodAll_cons hA
  obtain ⟨v1, vs1, d1, ds1, p1, q1, rfl, rfl, rfl, h1, r1⟩ := trodAll_cons r0
  obtain ⟨rfl, rfl, rfl⟩ := trodAll_nil r1
  obtain rfl : args = #[v0, v1] := by cases args; simp_all
  obtain ⟨a0, len0, cap0, rfl⟩ := okWide_slice Tryd.underlying22 (hval 0 22 v0 rfl rfl)
  have k0 := h0
  have lt0 : ∀ x ∈ p0, x.block < W.heap.size := by obtain ⟨m, hm⟩ := k0; exact DataW.trod_lt m _ _ _ hm
  obtain ⟨z0, w0⟩ : ∃ zs, IsRow .i64 W a0 len0 cap0 zs := by
    obtain ⟨fuel, hf⟩ := h0
    rcases open_ints Tryd.underlying22 Tryd.underlying3 (by kernel_rfl) hf with ⟨hcs, _⟩ | ⟨x, l, c, zs, hcs, _, hl, hm, hz, _, hcell, hwz⟩
    · simp [Value.cells] at hcs
      obtain ⟨rfl, rfl, rfl⟩ := hcs
      exact ⟨[], .inl ⟨rfl, rfl, rfl, rfl⟩⟩
    · simp [Value.cells] at hcs
      obtain ⟨rfl, rfl, rfl⟩ := hcs
      exact ⟨zs, .inr ⟨_, rfl, hl, hm, by simpa using hz, hcell, hwz⟩⟩
  obtain ⟨a1, rfl, rfl, rfl, w1⟩ := open_int Tryd.underlying3 (hval 1 3 v1 rfl rfl) h1
  obtain ⟨g, tv, cs, fuel, dv, pv, rfl, hg1, hg2, hg3, hg4, rfl⟩ := trodVars_one hV
  obtain rfl : g = 0 := Option.some.inj (hg1.symm.trans gTab)
  obtain rfl : tv = 88 := Option.some.inj (hg2.symm.trans gTabType)
  have ltv : ∀ x ∈ pv, x.block < W.heap.size := DataW.trod_lt fuel _ _ _ hg4
  have hT := tab hL
  clear hA0
  refine (walk a0 len0 cap0 z0 a1 W w0 w1 hT).mono fun e W' ⟨he, bel⟩ => ?_
  subst he
  have hg4' := DataW.trod_stays (sp' := fun b => decide (b < W.heap.size)) (w' := W') (kids_book laidOut (by kernel_rfl)) (book_sized (by kernel_rfl)) (fun h => by cases h) ⟨of_decide_eq_true (by kernel_rfl), book_self 88⟩ hg4 (fun x hx => bel.same (ltv x hx)) (fun x hx => by simpa using ltv x hx)
  exact ⟨_, rfl, _, _, _, [], _, _, hW', trodAll_mk1 (shut_bool Tryd.underlying4 _), (trodAll_cons_mk (Below.trod laidOut (by kernel_rfl) (of_decide_eq_true (by kernel_rfl)) k0 bel lt0) (trodAll_cons_mk (shut_int Tryd.underlying3 w1) trodAll_mk0)), trodVars_mk1 hg1 hg2 (var?_below bel hg1 hT.lt hg3) hg4', bel.frame _, fun h => by cases h⟩

/-- A world for the witness: the table holding what its initialiser lays. -/
noncomputable def laidWorld (os : Os) : World :=
  { World.holding Tryd.prog os ⟨#[], #[], []⟩ with heap := (World.holding Tryd.prog os ⟨#[], #[], []⟩).heap.modify 0 fun
      | .cells _ t frozen => .cells (tabZ.map fun z => Value.int .u64 z).toArray t frozen
      | o => o }
theorem laid_met (os : Os) : laidMet Tryd.prog Rows.fnRunsCoverRow.laid ((laidWorld os).forCall (fun _ _ => 0) ⟨#[], #[.slice none 0 0, .int .i64 0], []⟩).memory :=
  laidMet_of_run' 8 (by kernel_rfl) (by kernel_rfl)
theorem reads (os : Os) {H : Type} (enc : TypeId × Value → H) : ∃ places, DataW.whole enc Tryd.prog ((laidWorld os).forCall (fun _ _ => 0) ⟨#[], #[.slice none 0 0, .int .i64 0], []⟩).memory Tryd.f7.params.toList Rows.fnRunsCoverSpec.vars false (#[.slice none 0 0, .int .i64 0] : Array Value).toList 8 = some ([.nil, .lit (.int .i64 0)], [Rows.laid_loop_example_pub_g01449_impl_classes], places) :=
  ⟨MemPlace.row ⟨0, 0, none⟩ 23, by kernel_rfl⟩

set_option maxRecDepth 100000 in
theorem lifted (os : Os) (started : os.Started) (H : Type) (enc : TypeId × Value → H) (F : Stop.Interp) :
    ReturnsInHanded {} Tryd.checked os 7 .any ((OpenSpec.ofChange Rows.fnRunsCoverSpec).preRow enc Tryd.prog Tryd.f7 Rows.fnRunsCoverRow.domain false Rows.fnRunsCoverRow.laid) (((OpenSpec.ofChange Rows.fnRunsCoverSpec).at F).post enc Tryd.prog Tryd.f7 false true false false) := by
  obtain ⟨places, hx⟩ := reads os enc
  refine returnsInHanded_of_row (C := Tryd.checked) (s := OpenSpec.ofChange Rows.fnRunsCoverSpec) own started (by kernel_rfl) Tryd.func7
    (witness_row_at (enc := enc) (C := Tryd.checked) false (laidWorld os) #[.slice none 0 0, .int .i64 0] rfl (by kernel_rfl) (by kernel_rfl) (by kernel_rfl)
      (OpenSpec.preRow_of_cond 8 hx (by kernel_rfl) (fun k hk => by cases hk) (by kernel_rfl) (laid_met os))) ?_
  intro W base args ds gs before hval hW _ _ _ hL _ _
  exact contract H enc W base args ds gs before hval hW hL

theorem said : Rows.FnRunsCoverSaid :=
  OpenClaim.holds_of_cond 7 Tryd.f7 rfl rfl rfl rfl rfl rfl rfl ⟨rfl, rfl, rfl, rfl, rfl⟩ rfl rfl rfl rfl rfl (by kernel_rfl) Tryd.func7 (by kernel_rfl)
    (of_decide_eq_true (by kernel_rfl)) (by unfold Func.isWrapper; first | (rw [if_pos (by decide +kernel)]; kernel_rfl) | (rw [if_neg (by decide +kernel)]; exact ⟨rfl, rfl⟩))
    (fun os started H enc _ F => by rw [OpenClaim.pre_eq_preRow]; exact lifted os started H enc F)

theorem plain (f : FuncId) (fn : Func) (hf : Tryd.pinned.checked.prog.funcNamed Rows.fnRunsCoverRow.func = some f) (hfn : Tryd.pinned.checked.prog.funcs[f]? = some fn) :
    false = Tryd.pinned.checked.prog.looks [] ∧ ∀ (j : Nat) t, fn.params[j]? = some t → Tryd.pinned.checked.prog.wantsStandIn t = false := by
  obtain rfl : f = 7 := Option.some.inj ((show Tryd.prog.funcNamed Rows.fnRunsCoverRow.func = some 7 by kernel_rfl).symm.trans hf) |>.symm
  obtain rfl : fn = Tryd.f7 := (Option.some.inj (Tryd.func7.symm.trans hfn)).symm
  refine ⟨by kernel_rfl, fun j t ht => ?_⟩
  rw [Tryd.params7] at ht
  have ht2 : t = 22 ∨ t = 3 := by simpa using Array.mem_of_getElem? ht
  rcases ht2 with rfl | rfl
  · exact (show Tryd.prog.wantsStandIn 22 = false by kernel_rfl)
  · exact (show Tryd.prog.wantsStandIn 3 = false by kernel_rfl)

/-- THE CARD. -/
theorem proved : Rows.FnRunsCoverCardSaid :=
  Claim7.holds_tied_plain_at .later [] _ _ _ _ said (fun _ h => by cases h) (by kernel_rfl) (fun _ h => by cases h) fnRunsCover_row_tie rfl ⟨rfl, rfl⟩ (by kernel_rfl) rfl plain (by kernel_rfl)
#print axioms proved
end Go.Proofs.YtjelgbfgciaapaaDoor.fnRunsCover
