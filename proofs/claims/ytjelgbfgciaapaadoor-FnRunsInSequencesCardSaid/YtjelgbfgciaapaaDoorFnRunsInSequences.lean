/- The law FnRunsInSequences, its tied card: for every input the call returns true, and each argument and the table of classes read afterwards as before. The row's one condition, that the table starts as the program's text lays it, is tied to the text by the given tie. -/
import Derived.Test.YtjelgbfgciaapaaDoorCards
import Derived.Test.YtjelgbfgciaapaaDoorTie
import Derived.Test.YtjelgbfgciaapaaDoorLawX
import Derived.Test.YtjelgbfgciaapaaDoorSeqI
import Derived.Test.YtjelgbfgciaapaaDoorTakeA
import Derived.WalkKit
import Derived.ProofKit
import Derived.OpenShut
import Derived.ShutString
import Derived.ChangeOld
import Derived.ChangeVars
import Derived.WalkSmall
import Derived.Below
import Derived.Deep.DeepHandedRow
import Derived.Lib.LaidTab
namespace Go.Proofs.YtjelgbfgciaapaaDoor.fnRunsInSequences
open Go.ChangeShapes Go.WideShapes Go.ChangeAt Go.RowKit
open Go.ChangeMaps (open_string shut_string)
set_option linter.unusedVariables false

theorem own : ownKnob Tryd.prog.godebug = none := by kernel_rfl
theorem laidOut : laidOutB Tryd.prog = true := by kernel_rfl
/-- The table's name. -/
def tabName : String := Rows.fnRunsInSequencesSpec.vars.headD ""
theorem gTab : Tryd.prog.globalNamed tabName = some 0 := by kernel_rfl
theorem gTabType : (Tryd.prog.globals[0]?).map (·.type) = some 88 := by kernel_rfl
theorem cellsT : Tryd.prog.cellsOf 88 = 23 := by kernel_rfl
theorem cellsC : Tryd.prog.cellsOf 67 = 1 := by kernel_rfl
def tabZ : List Int := [0, 1, 2, 3, 4, 5, 6, 7, 8, 9, 10, 11, 12, 13, 16, 17, 18, 19, 20, 21, 22, 23, 24]

/-- What the row's list gives. -/
theorem table {W : World} (h : laidMetH Tryd.prog Rows.fnRunsInSequencesRow.laid W) : Lib.TabIs Tryd.prog W tabName .u64 tabZ :=
  Lib.tabIs_of_head (rest := []) gTab gTabType Tryd.underlying88 Tryd.underlying67 cellsC cellsT h
theorem tab {W : World} (h : laidMetH Tryd.prog Rows.fnRunsInSequencesRow.laid W) : Tab W := fun i hi => by
  have h1 := (table h).cell gTab i (by simpa [tabZ] using hi)
  rw [h1]
  congr 2
  have : ∀ j : Fin 23, tabZ.getD j.val 0 = cls (j.val : Int) := by decide
  exact this ⟨i, hi⟩

/-- What the walk is told of a slice of integers that came in. -/
def IsRow (k : IntKind) (w : World) (a : Option Addr) (len cap : Nat) (zs : List Int) : Prop :=
  (a = none ∧ len = 0 ∧ cap = 0 ∧ zs = []) ∨
  ∃ x, a = some x ∧ len ≤ cap ∧ cap ≤ maxLen ∧ zs.length = cap ∧ (∀ i, i < zs.length → w.cell? (x.add i) = some (.int k (zs.getD i 0))) ∧ ∀ n ∈ zs, (Lit.int k n).wf = true

set_option maxHeartbeats 4000000 in
set_option maxRecDepth 100000 in
theorem walk (a0 : Option Addr) (len0 cap0 : Nat) (z0 : List Int) (a1 : Int) (w : World) (w0 : IsRow .i64 w a0 len0 cap0 z0) (w1 : (Lit.int .i64 a1).wf = true) (ht : Tab w) :
    Calls Tryd.prog 9 #[.slice a0 len0 cap0, .int .i64 a1] w fun e w' => e = .returned (.bool true) ∧ Below w.heap.size w w' := by
  obtain ⟨b0, o0, hx0⟩ := sees_of_row w0
  obtain ⟨x, hx⟩ : ∃ x : Nat → Int, Sees w a0 b0 o0 len0 cap0 (fun i => .int .i64 (x i)) := ⟨_, hx0⟩
  clear hx0 w0 w1
  by_cases hn : len0 ≤ 2147483647
  case neg =>
    have hb : (2147483647 : Int) < (len0 : Int) := by omega
    go_enter Tryd.func9, Tryd.ntmps9
    go_wp2_with fail
    go_ret
    exact ⟨rfl, Below.refl _ _⟩
  by_cases hp : paraB len0 x = true
  case neg =>
    have hp' : paraB len0 x = false := by simpa using hp
    clear hp
    go_enter Tryd.func9, Tryd.ntmps9
    go_wp2_with fail
    refine (isParagraph_any _ (by omega) hx).mono ?_
    rintro e w1 ⟨rfl, rfl⟩
    rw [hp']
    go_wp2_with fail
    go_ret
    exact ⟨rfl, Below.refl _ _⟩
  have hpp := (of_decide_eq_true hp : 0 < len0 ∧ ∀ i, i < len0 → 0 ≤ x i ∧ x i < 23 ∧ (x i = 7 → len0 ≤ i + 1))
  have hpos := hpp.1
  have HOK := Lib.hid (show ∀ i, i < len0 → clsOk (x i) from fun i hi => ⟨(hpp.2 i hi).1, (hpp.2 i hi).2.1⟩)
  have HB := Lib.hid (show ∀ i, i < len0 → x i = 7 → len0 ≤ i + 1 from fun i hi => (hpp.2 i hi).2.2)
  have HPA := Lib.hid hp
  clear hpp hp
  by_cases hbs : baseB a1 = true
  case neg =>
    have hbs' : baseB a1 = false := by simpa using hbs
    have HBS := Lib.hid hbs'
    clear hbs hbs'
    go_enter Tryd.func9, Tryd.ntmps9
    go_wp2_with fail
    refine (isParagraph_any _ (by omega) hx).mono ?_
    rintro e w1 ⟨rfl, rfl⟩
    rw [HPA.out]
    go_wp2_with fail
    refine (isBase_any _ _).mono ?_
    rintro e w1 ⟨rfl, rfl⟩
    rw [HBS.out]
    go_wp2_with fail
    go_ret
    exact ⟨rfl, Below.refl _ _⟩
  have HBA := Lib.hid (show a1 = 0 ∨ a1 = 1 from of_decide_eq_true hbs)
  have HBS := Lib.hid hbs
  clear hbs
  go_enter Tryd.func9, Tryd.ntmps9
  go_wp2_with fail
  refine (isParagraph_any _ (by omega) hx).mono ?_
  rintro e w1 ⟨rfl, rfl⟩
  rw [HPA.out]
  go_wp2_with fail
  refine (isBase_any _ _).mono ?_
  rintro e w1 ⟨rfl, rfl⟩
  rw [HBS.out]
  go_wp2_with fail
  refine (implLevelRuns_any _ ht (by omega) hpos HBA.out HOK.out HB.out hx).mono ?_
  rintro e w1 ⟨vR, rfl, hR, hsi1⟩
  have ht1 := ht.since hsi1
  have hx1 := hx.since hsi1
  clear ht hx
  go_wp2_with fail
  refine (implSequences_any _ ht1 (by omega) hpos HBA.out HOK.out HB.out hx1).mono ?_
  rintro e w2 ⟨vI, rfl, hI, hsi2⟩
  have ht2 := ht1.since hsi2
  have hx2 := hx1.since hsi2
  clear ht1 hx1
  go_wp2_with fail
  refine (implExplicit_any _ ht2 (by omega) hpos HBA.out HOK.out HB.out hx2).mono ?_
  rintro e w3 ⟨cl, hcl, a3, b3, o3, c3, a4, b4, o4, c4, rfl, hs3, hs4, hb3, hb4, hsi3⟩
  have hx3 := hx2.since hsi3
  have hsi03 := since2 (since2 hsi1 hsi2) hsi3
  have hR3 : LL w3 w.heap.size vR (runs (lvR x (fsI len0 x) a1) len0) := (hR.since hsi2).since hsi3
  have hI3 := hI.since hsi3
  have HCL := Lib.hid (show ∀ i, i < len0 → lvR x (fsI len0 x) a1 i ≠ -1 → cl i = lvR x (fsI len0 x) a1 i from fun i hi h => by
    have h1 := (lvR_ne HBA.out).1 h
    rw [hcl i hi h1, lvR_of h1])
  have HIS := Lib.hid (fun l (h : l ∈ seqs x (fsI len0 x) a1 len0) => seqs_is (fs := fsI len0 x) HBA.out HB.out h)
  have HSU := runs_succ (x := x) (fs := fsI len0 x) HBA.out HB.out
  have HPR := runs_pred (x := x) (fs := fsI len0 x) HBA.out HB.out
  have HHD := Lib.hid (show ∀ l, l ∈ seqs x (fsI len0 x) a1 len0 → ∃ r, r < (runs (lvR x (fsI len0 x) a1) len0).length ∧ chn (runs (lvR x (fsI len0 x) a1) len0) (nxR x (fsI len0 x) a1 len0) (runs (lvR x (fsI len0 x) a1) len0).length r = l from fun l hl => by
    unfold seqs chains at hl
    obtain ⟨h, hh, rfl⟩ := List.mem_map.1 hl
    exact ⟨h, (heads_mem.1 hh).1, rfl⟩)
  have HCU := Lib.hid (fun r (hr : r < (runs (lvR x (fsI len0 x) a1) len0).length) => chn_unfold (R := runs (lvR x (fsI len0 x) a1) len0) HSU hr)
  have HNX := Lib.hid (show ∀ r r', nxR x (fsI len0 x) a1 len0 r = some r' → r' < (runs (lvR x (fsI len0 x) a1) len0).length from fun r r' h => (HSU.lt r r' h).2)
  have HRH := Lib.hid (fun A l r j hr hj hl => @run_here x (fsI len0 x) a1 len0 HBA.out HB.out A l r j hr hj hl)
  have HLV := Lib.hid (fun r hr => @chT_lvl x (fsI len0 x) a1 len0 HBA.out HB.out (runs (lvR x (fsI len0 x) a1) len0).length r hr)
  have HRA := Lib.hid (fun j => @runs_at (lvR x (fsI len0 x) a1) len0 j)
  have HRL := Lib.hid (fun j => @runs_row_len (lvR x (fsI len0 x) a1) len0 j)
  have HTO := Lib.hid (show (seqs x (fsI len0 x) a1 len0).flatten.length = ((List.range len0).filter (fun i => decide (lvR x (fsI len0 x) a1 i ≠ -1))).length by
    have h1 := chains_total (R := runs (lvR x (fsI len0 x) a1) len0) HSU HPR _ (Nat.le_refl _)
    rw [List.take_length] at h1
    unfold total at h1
    rw [runs_flat] at h1
    exact h1)
  have hrl := runs_len (lvR x (fsI len0 x) a1) len0
  have hLl := seqs_len (x := x) (fs := fsI len0 x) (base := a1) (n := len0)
  obtain ⟨RR, hRR⟩ : ∃ RR, RR = runs (lvR x (fsI len0 x) a1) len0 := ⟨_, rfl⟩
  obtain ⟨L, hL⟩ : ∃ L, L = seqs x (fsI len0 x) a1 len0 := ⟨_, rfl⟩
  obtain ⟨nx, hnx⟩ : ∃ nx, nx = nxR x (fsI len0 x) a1 len0 := ⟨_, rfl⟩
  rw [← hRR, ← hnx] at HHD HCU HRH HLV HNX
  rw [← hRR] at hR3 HRA HRL hrl
  rw [← hL] at hI3 HIS HHD HTO hLl
  have HTB := Lib.hid (show ∀ k, k < L.length → (L.take k).flatten.length + (L.getD k []).length ≤ len0 ∧ (L.take (k + 1)).flatten.length = (L.take k).flatten.length + (L.getD k []).length from fun k hk => by
    have h1 : (L.take (k + 1)).flatten.length = (L.take k).flatten.length + (L.getD k []).length := by
      rw [take_snoc hk]; simp
    have h2 : (L.take (k + 1)).flatten.length ≤ L.flatten.length := by
      conv => rhs; rw [← List.take_append_drop (k + 1) L, List.flatten_append, List.length_append]
      omega
    have h3 : L.flatten.length ≤ len0 := by
      rw [HTO.out]
      have := List.length_filter_le (fun i => decide (lvR x (fsI len0 x) a1 i ≠ -1)) (List.range len0)
      simpa using this
    exact ⟨by omega, h1⟩)
  obtain ⟨f, g1, g2, _, _⟩ := hR3
  obtain ⟨aR, cR, rfl⟩ := g1.len
  obtain ⟨bR, hbR, hsR⟩ := g1.see
  have HG2 := Lib.hid g2
  obtain ⟨FI, hFI, hQI⟩ := hI3
  obtain ⟨aI, cI, rfl⟩ := hFI.len
  have HFI := Lib.hid hFI
  have HQI := Lib.hid hQI
  have HLI := Lib.hid (show ∀ i, i < L.length → (FI i).length = 4 from fun i hi => by
    obtain ⟨a, b, o, c, h1, _⟩ := HQI.out i hi
    rw [h1]; rfl)
  have HRRD := Lib.hid hRR
  clear hcl hR hI hx2 ht2 hs3 hsi1 hsi2 hsi3 HSU HPR hRR hL hnx g1 g2 hFI hQI
  go_wp2_with fail
  go_loopg [9, 11, 12, 13, 15, 48] L.length (fun g tot _ _ _ _ i wr => ∃ k : Nat, k ≤ L.length ∧ g = L.length - k ∧ i = .int .i64 k ∧ tot = .int .i64 (((L.take k).flatten.length : Nat) : Int) ∧ w3.Since w3.heap.size wr)
  case atStart => exact ⟨0, Nat.zero_le _, rfl, rfl, rfl, World.Since.refl _ _⟩
  case round =>
    rename World => wk
    obtain ⟨k, hk, rfl, rfl, rfl, hs⟩ := hrel
    by_cases hkn : k < L.length
    · have hkz : (k : Int) < (L.length : Int) := by omega
      obtain ⟨qI, cI', hv1, hqI, _⟩ := HFI.out.form (by omega)
      simp only [Value.slice.injEq] at hv1
      obtain ⟨rfl, _, rfl⟩ := hv1
      obtain ⟨a5, b5, o5, c5, h3, h4, _⟩ := HQI.out k hkn
      obtain ⟨l, hl⟩ : ∃ l, l = L.getD k [] := ⟨_, rfl⟩
      obtain ⟨i0, i1, i2, i3⟩ := (HFI.out.since hs).cells4 HLI.out hkn h3
      have h4r := h4.since hs
      obtain ⟨hT1, hT2⟩ := HTB.out k hkn
      rw [← hl] at i0 i1 i2 i3 h4r hT1 hT2
      have hlm : l ∈ L := by rw [hl]; exact getD_memL hkn
      have hII := HIS.out l hlm
      have hlp : 0 < l.length := List.length_pos_iff.2 hII.ne
      have HIL := Lib.hid (show lvR x (fsI len0 x) a1 (hd0 l) = lvl x (fsI len0 x) a1 (hd0 l) from lvR_of (hII.nr _ (hd0_mem hII.ne)))
      have HM0 := Lib.hid (hd0_mem hII.ne)
      obtain ⟨r0, hr0, hr0l⟩ := HHD.out l hlm
      have HR0 := Lib.hid hr0l
      obtain ⟨lv0, hlv0⟩ : ∃ lv0, lv0 = lvl x (fsI len0 x) a1 (hd0 l) := ⟨_, rfl⟩
      rw [← hlv0] at i1 HIL
      change _ = some (Value.int .i64 (soV x (fsI len0 x) a1 len0 l)) at i2
      change _ = some (Value.int .i64 (eoV x (fsI len0 x) (fun i => cls (tI x (fsI len0 x) a1 i)) a1 len0 l)) at i3
      obtain ⟨so, hso⟩ : ∃ so, so = soV x (fsI len0 x) a1 len0 l := ⟨_, rfl⟩
      obtain ⟨eo, heo⟩ : ∃ eo, eo = eoV x (fsI len0 x) (fun i => cls (tI x (fsI len0 x) a1 i)) a1 len0 l := ⟨_, rfl⟩
      rw [← hso] at i2
      rw [← heo] at i3
      have HT2 := Lib.hid hT2
      obtain ⟨T0, hT0⟩ : ∃ T0, T0 = (L.take k).flatten.length := ⟨_, rfl⟩
      rw [← hT0] at hT1 HT2 ⊢
      obtain ⟨len, hlen⟩ : ∃ len, len = l.length := ⟨_, rfl⟩
      have HLN := Lib.hid hlen
      have HH4 := Lib.hid h4r
      rw [← hlen] at i0 hlp hT1 HT2
      clear hl hlm hII h3 h4 h4r hT2 hr0l hlv0 hso heo hT0 hlen
      go_upto_region 14 with fail
      obtain ⟨S0, hS0⟩ : ∃ S0, S0 = wk.heap.size := ⟨_, rfl⟩
      have hsa : wk.Since wk.heap.size (wk.alloc (.cells #[.slice a5 len c5, .int .i64 lv0, .int .i64 so, .int .i64 eo] 41)) := (World.Since.refl _ _).alloc (Nat.le_refl _) _
      have hrow : (wk.alloc (.cells #[.slice a5 len c5, .int .i64 lv0, .int .i64 so, .int .i64 eo] 41)).rowIs S0 41 4 (fun i => (#[Value.slice a5 len c5, .int .i64 lv0, .int .i64 so, .int .i64 eo][i]?).getD undef) := by
        rw [hS0]
        exact World.rowIs_alloc wk _ _ _ (fun i hi => by rw [Array.getElem?_eq_getElem hi]; rfl)
      have hswa := since2 hs hsa
      have h4a := HH4.out.since hsa
      rw [← hS0]
      generalize wk.alloc (.cells #[.slice a5 len c5, .int .i64 lv0, .int .i64 so, .int .i64 eo] 41) = wa at hsa hrow hswa h4a ⊢
      have e0 : wa.cell? ⟨S0, 0, none⟩ = some (.slice a5 len c5) := hrow.cell (by omega)
      have e1 : wa.cell? ⟨S0, 1, none⟩ = some (.int .i64 lv0) := hrow.cell (by omega)
      clear hs hsa hrow hS0 i0 i1 i2 i3
      go_wp2_with fail
      go_loopg [12, 13, 15] len (fun g at_ _ _ wx => ∃ (A : List Nat) (r : Nat), A.length ≤ len ∧ g = len - A.length ∧ at_ = .int .i64 ((A.length : Nat) : Int) ∧ Hid (A.length < len → r < RR.length ∧ A ++ chn RR nx RR.length r = l) ∧ wa.Since wa.heap.size wx)
      case atStart => exact ⟨[], r0, Nat.zero_le _, rfl, rfl, fun _ => ⟨hr0, HR0.out⟩, World.Since.refl _ _⟩
      case round =>
        rename World => wo2
        obtain ⟨A, r, hAl, rfl, rfl, HA, hsx⟩ := hrel
        obtain ⟨at_, hat⟩ : ∃ at_, at_ = A.length := ⟨_, rfl⟩
        rw [← hat] at hAl HA ⊢
        have HAT := Lib.hid hat
        clear hat
        by_cases hal : at_ < len
        · have halz : (at_ : Int) < (len : Int) := by omega
          obtain ⟨hr, hAr⟩ := HA.out hal
          have HAR := Lib.hid hAr
          have e0x := (hsx.cell (World.block_lt_of_cell? _ _ e0)).trans e0
          have e1x := (hsx.cell (World.block_lt_of_cell? _ _ e1)).trans e1
          clear hAr HA
          go_wp2_with fail
          go_loopg [12, 13, 15, 64] RR.length (fun g av fnd _ i wy => ∃ j : Nat, j ≤ r ∧ g = RR.length - j ∧ i = .int .i64 j ∧ av = .int .i64 at_ ∧ fnd = .bool false ∧ wo2.Since wo2.heap.size wy)
          case atStart => exact ⟨0, Nat.zero_le _, rfl, rfl, rfl, rfl, World.Since.refl _ _⟩
          case round =>
            obtain ⟨j, hj, rfl, rfl, rfl, rfl, hsy⟩ := hrel
            have hjn : j < RR.length := by omega
            have hjz : (j : Int) < (RR.length : Int) := by omega
            have hsw3 := since2 hswa (since2 hsx hsy)
            obtain ⟨rfl, hc⟩ := (hsR.since hsw3).get hjn
            rw [Nat.zero_add] at hc
            have hg6 := (HG2.out j hjn).since hsw3
            obtain ⟨a6, c6, hv6⟩ := hg6.len
            rw [hv6] at hg6 hc
            obtain ⟨b6, hb6, hs6⟩ := hg6.see
            have HRJ := HRA.out j hjn
            have hrlj := HRL.out j hjn
            have HRB := HRH.out A l r j hr hjn HAR.out
            rw [← HAT.out, ← HLN.out] at HRB
            have HLJ := Lib.hid (show j = r → lvR x (fsI len0 x) a1 (hd (RR.getD j [])) = lv0 from fun e => by
              have hml : hd (RR.getD j []) ∈ l := by
                rw [← HAR.out, HCU.out r hr, e]
                exact List.mem_append_right _ (List.mem_append_left _ (hd_memL (e ▸ HRA.out j hjn).ne))
              have hm0 := HM0.out
              have h2 := HR0.out
              rw [← h2] at hml hm0
              have k1 := HLV.out r0 hr0 _ hml
              have k2 := HLV.out r0 hr0 _ hm0
              rw [k1, ← k2, h2]
              exact HIL.out)
            obtain ⟨rr, hrr⟩ : ∃ rr, rr = RR.getD j [] := ⟨_, rfl⟩
            rw [← hrr] at hg6 hc hs6 HRJ hrlj HRB HLJ
            have HRD := Lib.hid hrr
            have hrp : 0 < rr.length := List.length_pos_iff.2 HRJ.ne
            obtain ⟨rfl, hc6⟩ := hs6.get hrp
            change _ = some (Value.int .i64 ((hd rr : Nat) : Int)) at hc6
            rw [Nat.zero_add] at hc6
            have hyn := HRJ.lt _ (hd_memL HRJ.ne)
            have HCY := HCL.out (hd rr) hyn HRJ.nr
            obtain ⟨y, hy⟩ : ∃ y, y = hd rr := ⟨_, rfl⟩
            rw [← hy] at hc6 hyn HCY HLJ
            have HYD := Lib.hid hy
            have HCYD := Lib.hid HCY
            obtain ⟨rfl, hcy⟩ := (hs4.since hsw3).get hyn
            rw [HCY] at hcy
            obtain ⟨ly, hly⟩ : ∃ ly, ly = lvR x (fsI len0 x) a1 y := ⟨_, rfl⟩
            rw [← hly] at HLJ
            have HLY := Lib.hid hly
            have h4y := (h4a.since hsx).since hsy
            have h4len : Sees wr a5 b5 o5 len c5 (fun i => .int .i64 ((l.getD i 0 : Nat) : Int)) := by rw [HLN.out]; exact h4y
            have h6y : Sees wr (some ⟨b6, 0, none⟩) b6 0 rr.length c6 (fun i => .int .i64 ((rr.getD i 0 : Nat) : Int)) := hs6
            have hs4y := hs4.since hsw3
            have q0 := (hsy.cell (World.block_lt_of_cell? _ _ e0x)).trans e0x
            have q1 := (hsy.cell (World.block_lt_of_cell? _ _ e1x)).trans e1x
            obtain ⟨lj, hlj⟩ : ∃ lj, lj = rr.length := ⟨_, rfl⟩
            rw [← hlj] at hc hrlj HRB hrp h6y
            have HLJD := Lib.hid hlj
            obtain ⟨H, hH⟩ : ∃ H, H = at_ + lj := ⟨_, rfl⟩
            have hadd : IntKind.i64.wrap ((at_ : Int) + (lj : Int)) = (H : Int) := by
              rw [show ((at_ : Int) + (lj : Int)) = (H : Int) by omega]; exact wrap_nat (by omega)
            have hlj0 : (0 : Int) < (lj : Int) := by omega
            have HRBH := Lib.hid HRB
            have HHH := Lib.hid hH
            clear hg6 hs6 HRJ hrr hy HCY hly hlj HRB hv6 h4y hH
            obtain ⟨g3, hg3⟩ : ∃ g3 : Bool, g3 = decide (j = r) := ⟨_, rfl⟩
            have HG3 := Lib.hid hg3
            clear hg3
            go_upto_region 21 with fail
            go_cut [103] (fun v wx => v = .bool g3 ∧ wr.Since wr.heap.size wx)
            case first =>
              by_cases hle : H ≤ len
              · obtain ⟨ac, hcu, hsc⟩ := cut_lh (P := Tryd.prog) 22 3 Tryd.underlying22 Tryd.sizeInt h4len at_ H (by have := HHH.out; omega) hle
                have hHs : H - at_ = lj := by have := HHH.out; omega
                rw [hHs] at hcu hsc
                have hHz : (H : Int) ≤ (len : Int) := by omega
                have hlq : lj ≤ 17179869184 := by omega
                cases hsm : sameB lj lj (fun i => ((rr.getD i 0 : Nat) : Int)) (fun i => ((l.getD (at_ + i) 0 : Nat) : Int)) with
                | false =>
                  have HG4 := Lib.hid (show g3 = false by
                    rw [HG3.out, decide_eq_false_iff_not]
                    intro e
                    have h1 := (HRBH.out.2 e).2
                    have h2 : sameB lj lj (fun i => ((rr.getD i 0 : Nat) : Int)) (fun i => ((l.getD (at_ + i) 0 : Nat) : Int)) = true := decide_eq_true ⟨rfl, fun i hi => by
                      show ((rr.getD i 0 : Nat) : Int) = ((l.getD (at_ + i) 0 : Nat) : Int)
                      rw [h1 i hi]⟩
                    rw [h2] at hsm; cases hsm)
                  have HSM := Lib.hid hsm
                  have hSq : ∀ k, Calls Tryd.prog 21 #[.slice (some ⟨b6, 0, none⟩) lj c6, .slice ac lj (c5 - at_)] (wr.drewN k) fun e w' => e = .returned (.bool false) ∧ Drawn (wr.drewN k) w' := fun k =>
                    (same_q (wr.drewN k) hlq hlq h6y hsc).mono fun _ _ ⟨he, hd⟩ => ⟨he.trans (by rw [HSM.out]), hd⟩
                  have HSQ := Lib.hid hSq
                  clear hsm hHs hSq
                  go_big_quiet ((go_at_call 21; exact Calls.quiet_of (HSQ.out _)))
                  go_wp2_with fail
                  go_meet
                  exact ⟨by rw [HG4.out], since_drewN (World.Since.refl _ _) nq⟩
                | true =>
                  have hjr : j = r := HRBH.out.1 ⟨by have := HHH.out; omega, fun i hi => by
                    have h1 : ((rr.getD i 0 : Nat) : Int) = ((l.getD (at_ + i) 0 : Nat) : Int) := (of_decide_eq_true hsm).2 i hi
                    omega⟩
                  have HG4 := Lib.hid (show g3 = true by rw [HG3.out, decide_eq_true_eq]; exact hjr)
                  have HLE := Lib.hid (HLJ.out hjr)
                  have HSM := Lib.hid hsm
                  have hSame : Calls Tryd.prog 21 #[.slice (some ⟨b6, 0, none⟩) lj c6, .slice ac lj (c5 - at_)] wr.drew fun e w' => e = .returned (.bool true) ∧ Drawn wr.drew w' :=
                    (same_q wr.drew hlq hlq h6y hsc).mono fun _ _ ⟨he, hd⟩ => ⟨he.trans (by rw [HSM.out]), hd⟩
                  obtain ⟨ar, hcr, hsr1⟩ := cut_h1 (P := Tryd.prog) 22 3 Tryd.underlying22 Tryd.sizeInt h6y hrp
                  have HVAL := Lib.hid (show cl (rr.getD (0 : Nat) 0) = lv0 by
                    have h1 : rr.getD 0 0 = y := HYD.out.symm
                    rw [h1, HCYD.out, ← HLY.out]
                    exact HLE.out)
                  have HRLT := Lib.hid (show ∀ i, i < 1 → rr.getD i 0 < len0 from fun i hi => by
                    obtain rfl : i = 0 := by omega
                    have h1 : rr.getD 0 0 = y := HYD.out.symm
                    rw [h1]; exact hyn)
                  have hTake : ∀ nq, Calls Tryd.prog 24 #[.slice (some ⟨b4, o4, none⟩) len0 c4, .slice ar 1 c6] (wr.drewN nq) (RetSees (wr.drewN nq) 1 (fun i => .int .i64 (cl (rr.getD i 0)))) := fun nq =>
                    takeA_any (wr.drewN nq) (by omega) (by omega) HRLT.out hs4y hsr1
                  have HTK := Lib.hid hTake
                  have hbb : (lv0 == lv0) = true := by simp
                  clear hsm hHs hjr hTake hsr1 hsc
                  refine wp_region_noPanic ?_
                  refine wp_region_held_drew (S := fun wx => wx.cell? ⟨S0, 0, none⟩ = some (.slice a5 len c5) ∧ wx.cell? ⟨S0, 1, none⟩ = some (.int .i64 lv0)) (by kernel_rfl) ⟨q0, q1⟩ (fun hHeld => ?_)
                  refine wpAnyH_takeD (i := 0) (d := 68) (v := ?_) rfl rfl (by kernel_rfl) (by kernel_rfl) (by kernel_rfl) (fun _ _ _ h => h) (Or.inl ⟨by rfl, (by intro w hSw; (try dsimp only at hSw); go_simp; try with_reducible rfl)⟩) (by assumption) ?_
                  try simp only [Act.put, List.setIfInBounds_toArray, List.set_cons_zero, List.set_cons_succ]
                  refine wpAnyH_takeD (i := 1) (d := 69) (v := ?_) rfl rfl (by kernel_rfl) (by kernel_rfl) (by kernel_rfl) (fun _ _ _ h => h) (Or.inl ⟨by rfl, (by intro w hSw; (try dsimp only at hSw); go_simp; try with_reducible rfl)⟩) (by assumption) ?_
                  try simp only [Act.put, List.setIfInBounds_toArray, List.set_cons_zero, List.set_cons_succ]
                  refine wpAnyH_takeD (i := 2) (d := 70) (v := ?_) rfl rfl (by kernel_rfl) (by kernel_rfl) (by kernel_rfl) (fun _ _ _ h => h) (Or.inl ⟨by rfl, (by intro w hSw; (try dsimp only at hSw); go_simp; try with_reducible rfl)⟩) (by assumption) ?_
                  try simp only [Act.put, List.setIfInBounds_toArray, List.set_cons_zero, List.set_cons_succ]
                  refine wpAnyH_takeD (i := 3) (d := 71) (v := ?_) rfl rfl (by kernel_rfl) (by kernel_rfl) (by kernel_rfl) (fun _ _ _ h => h) (Or.inl ⟨by rfl, (by intro w hSw; (try dsimp only at hSw); go_simp; try with_reducible rfl)⟩) (by assumption) ?_
                  try simp only [Act.put, List.setIfInBounds_toArray, List.set_cons_zero, List.set_cons_succ]
                  refine wpAnyH_takeD (i := 4) (d := 72) (v := ?_) rfl rfl (by kernel_rfl) (by kernel_rfl) (by kernel_rfl) (fun _ _ _ h => h) (Or.inl ⟨by rfl, (by intro w hSw; (try dsimp only at hSw); go_simp; try with_reducible rfl)⟩) (by assumption) ?_
                  try simp only [Act.put, List.setIfInBounds_toArray, List.set_cons_zero, List.set_cons_succ]
                  refine wpAnyH_takeD (i := 5) (d := 73) (v := ?_) rfl rfl (by kernel_rfl) (by kernel_rfl) (by kernel_rfl) (fun _ _ _ h => h) (Or.inl ⟨by rfl, (by intro w hSw; (try dsimp only at hSw); go_simp; try with_reducible rfl)⟩) (by assumption) ?_
                  try simp only [Act.put, List.setIfInBounds_toArray, List.set_cons_zero, List.set_cons_succ]
                  refine wpAnyH_takeD (i := 8) (d := 76) (v := ?_) rfl rfl (by kernel_rfl) (by kernel_rfl) (by kernel_rfl) (fun _ _ _ h => h) (Or.inl ⟨by rfl, (by intro w hSw; (try dsimp only at hSw); go_simp; try with_reducible rfl)⟩) (by assumption) ?_
                  try simp only [Act.put, List.setIfInBounds_toArray, List.set_cons_zero, List.set_cons_succ]
                  refine wpAnyH_takeD (i := 9) (d := 77) (v := ?_) rfl rfl (by kernel_rfl) (by kernel_rfl) (by kernel_rfl) (fun _ _ _ h => h) (Or.inl ⟨by rfl, (by intro w hSw; (try dsimp only at hSw); go_simp; try with_reducible rfl)⟩) (by assumption) ?_
                  try simp only [Act.put, List.setIfInBounds_toArray, List.set_cons_zero, List.set_cons_succ]
                  refine wpAnyH_takeD (i := 6) (d := 74) (v := ?_) rfl rfl (by kernel_rfl) (by kernel_rfl) (by kernel_rfl) (fun _ _ _ h => h) (Or.inl ⟨by rfl, (by intro w hSw; (try dsimp only at hSw); go_simp; try with_reducible rfl)⟩) (by assumption) ?_
                  try simp only [Act.put, List.setIfInBounds_toArray, List.set_cons_zero, List.set_cons_succ]
                  refine wpAnyH_takeD (i := 10) (d := 78) (v := ?_) rfl rfl (by kernel_rfl) (by kernel_rfl) (by kernel_rfl) (fun _ _ _ h => h) (Or.inl ⟨by rfl, (by intro w hSw; (try dsimp only at hSw); go_simp; try with_reducible rfl)⟩) (by assumption) ?_
                  try simp only [Act.put, List.setIfInBounds_toArray, List.set_cons_zero, List.set_cons_succ]
                  refine wpAnyH_takeD (i := 7) (d := 75) (v := ?_) rfl rfl (by kernel_rfl) (by kernel_rfl) (by kernel_rfl) (fun _ _ _ h => h) (Or.inl ⟨by rfl, (by intro w hSw; (try dsimp only at hSw); go_simp; try with_reducible rfl)⟩) (by assumption) ?_
                  try simp only [Act.put, List.setIfInBounds_toArray, List.set_cons_zero, List.set_cons_succ]
                  refine wpAnyH_takeD (i := 11) (d := 79) (v := ?_) rfl rfl (by kernel_rfl) (by kernel_rfl) (by kernel_rfl) (fun _ _ _ h => h) (Or.inl ⟨by rfl, (by intro w hSw; (try dsimp only at hSw); go_simp; try with_reducible rfl)⟩) (by assumption) ?_
                  try simp only [Act.put, List.setIfInBounds_toArray, List.set_cons_zero, List.set_cons_succ]
                  refine wpAnyH_takeD (i := 12) (d := 80) (v := ?_) rfl rfl (by kernel_rfl) (by kernel_rfl) (by kernel_rfl) (fun _ _ _ h => h) (Or.inl ⟨by rfl, (by intro w hSw; (try dsimp only at hSw); go_simp; try with_reducible rfl)⟩) (by assumption) ?_
                  try simp only [Act.put, List.setIfInBounds_toArray, List.set_cons_zero, List.set_cons_succ]
                  refine wpAnyH_takeD (i := 13) (d := 81) (v := ?_) rfl rfl (by kernel_rfl) (by kernel_rfl) (by kernel_rfl) (fun _ _ _ h => h) (Or.inl ⟨by rfl, (by intro w hSw; (try dsimp only at hSw); go_simp; try with_reducible rfl)⟩) (by assumption) ?_
                  try simp only [Act.put, List.setIfInBounds_toArray, List.set_cons_zero, List.set_cons_succ]
                  refine wpAnyH_takeD (i := 14) (d := 82) (v := ?_) rfl rfl (by kernel_rfl) (by kernel_rfl) (by kernel_rfl) (fun _ _ _ h => h) (Or.inl ⟨by rfl, (by intro w hSw; (try dsimp only at hSw); go_simp; try with_reducible rfl)⟩) (by assumption) ?_
                  try simp only [Act.put, List.setIfInBounds_toArray, List.set_cons_zero, List.set_cons_succ]
                  refine wpAnyH_takeD (i := 15) (d := 83) (v := ?_) rfl rfl (by kernel_rfl) (by kernel_rfl) (by kernel_rfl) (fun _ _ _ h => h) (Or.inl ⟨by rfl, (by intro w hSw; (try dsimp only at hSw); go_simp; try with_reducible rfl)⟩) (by assumption) ?_
                  try simp only [Act.put, List.setIfInBounds_toArray, List.set_cons_zero, List.set_cons_succ]
                  refine wpAnyH_takeD (i := 16) (d := 84) (v := ?_) rfl rfl (by kernel_rfl) (by kernel_rfl) (by kernel_rfl) (fun _ _ _ h => h) (Or.inl ⟨by rfl, (by intro w hSw; (try dsimp only at hSw); go_simp; try with_reducible rfl)⟩) (by assumption) ?_
                  try simp only [Act.put, List.setIfInBounds_toArray, List.set_cons_zero, List.set_cons_succ]
                  refine wpAnyH_takeD (i := 17) (d := 85) (v := ?_) rfl rfl (by kernel_rfl) (by kernel_rfl) (by kernel_rfl) (fun _ _ _ h => h) (Or.inl ⟨by rfl, (by intro w hSw; (try dsimp only at hSw); go_simp; try with_reducible rfl)⟩) (by assumption) ?_
                  try simp only [Act.put, List.setIfInBounds_toArray, List.set_cons_zero, List.set_cons_succ]
                  refine wpAnyH_takeD (i := 18) (d := 86) (v := ?_) rfl rfl (by kernel_rfl) (by kernel_rfl) (by kernel_rfl) (fun _ _ _ h => h) (Or.inl ⟨by rfl, (by intro w hSw; (try dsimp only at hSw); go_simp; try with_reducible rfl)⟩) (by assumption) ?_
                  try simp only [Act.put, List.setIfInBounds_toArray, List.set_cons_zero, List.set_cons_succ]
                  refine wpAnyH_takeD (i := 19) (d := 87) (v := ?_) rfl rfl (by kernel_rfl) (by kernel_rfl) (by kernel_rfl) (fun _ _ _ h => h) (Or.inl ⟨by rfl, (by intro w hSw; (try dsimp only at hSw); go_simp; try with_reducible rfl)⟩) (by assumption) ?_
                  try simp only [Act.put, List.setIfInBounds_toArray, List.set_cons_zero, List.set_cons_succ]
                  refine wpAnyH_takeD (i := 20) (d := 88) (v := ?_) rfl rfl (by kernel_rfl) (by kernel_rfl) (by kernel_rfl) (fun _ _ _ h => h) (Or.inl ⟨by rfl, (by intro w hSw; (try dsimp only at hSw); go_simp; try with_reducible rfl)⟩) (by assumption) ?_
                  try simp only [Act.put, List.setIfInBounds_toArray, List.set_cons_zero, List.set_cons_succ]
                  refine wpAnyH_takeD (i := 21) (d := 89) (v := ?_) rfl rfl (by kernel_rfl) (by kernel_rfl) (by kernel_rfl) (fun _ _ _ h => h) (Or.inl ⟨by rfl, (by intro w hSw; (try dsimp only at hSw); go_simp; try with_reducible rfl)⟩) (by assumption) ?_
                  try simp only [Act.put, List.setIfInBounds_toArray, List.set_cons_zero, List.set_cons_succ]
                  refine wpAnyH_takeD (i := 22) (d := 90) (v := ?_) rfl rfl (by kernel_rfl) (by kernel_rfl) (by kernel_rfl) (fun _ _ _ h => h) (Or.inl ⟨by rfl, (by intro w hSw; (try dsimp only at hSw); go_simp; try with_reducible rfl)⟩) (by assumption) ?_
                  try simp only [Act.put, List.setIfInBounds_toArray, List.set_cons_zero, List.set_cons_succ]
                  refine wpAnyH_ready (rs := [23]) (by kernel_rfl) (by simp) ?_
                  refine AllReadyH.cons rfl (fun K hK => ?_) AllReadyH.nil
                  go_simp
                  (go_at_call 21; refine hSame.mono ?_; rintro e w5 ⟨rfl, ⟨nq, rfl⟩⟩)
                  go_wp2_with fail
                  refine hK.out _ _ ⟨q0, q1⟩ (fun hHeld => ?_)
                  clear hK K
                  try simp only [Act.put, List.setIfInBounds_toArray, List.set_cons_zero, List.set_cons_succ]
                  refine wpAnyH_takeD (i := 24) (d := 92) (v := ?_) rfl rfl (by kernel_rfl) (by kernel_rfl) (by kernel_rfl) (fun _ _ _ h => h) (Or.inl ⟨by rfl, (by intro w hSw; (try dsimp only at hSw); go_simp; try with_reducible rfl)⟩) (by assumption) ?_
                  try simp only [Act.put, List.setIfInBounds_toArray, List.set_cons_zero, List.set_cons_succ]
                  refine wpAnyH_takeD (i := 25) (d := 93) (v := ?_) rfl rfl (by kernel_rfl) (by kernel_rfl) (by kernel_rfl) (fun _ _ _ h => h) (Or.inl ⟨by rfl, (by intro w hSw; (try dsimp only at hSw); go_simp; try with_reducible rfl)⟩) (by assumption) ?_
                  try simp only [Act.put, List.setIfInBounds_toArray, List.set_cons_zero, List.set_cons_succ]
                  refine wpAnyH_takeD (i := 26) (d := 94) (v := ?_) rfl rfl (by kernel_rfl) (by kernel_rfl) (by kernel_rfl) (fun _ _ _ h => h) (Or.inl ⟨by rfl, (by intro w hSw; (try dsimp only at hSw); go_simp; try with_reducible rfl)⟩) (by assumption) ?_
                  try simp only [Act.put, List.setIfInBounds_toArray, List.set_cons_zero, List.set_cons_succ]
                  refine wpAnyH_takeD (i := 27) (d := 95) (v := ?_) rfl rfl (by kernel_rfl) (by kernel_rfl) (by kernel_rfl) (fun _ _ _ h => h) (Or.inl ⟨by rfl, (by intro w hSw; (try dsimp only at hSw); go_simp; try with_reducible rfl)⟩) (by assumption) ?_
                  try simp only [Act.put, List.setIfInBounds_toArray, List.set_cons_zero, List.set_cons_succ]
                  refine wpAnyH_takeD (i := 28) (d := 96) (v := ?_) rfl rfl (by kernel_rfl) (by kernel_rfl) (by kernel_rfl) (fun _ _ _ h => h) (Or.inl ⟨by rfl, (by intro w hSw; (try dsimp only at hSw); go_simp; try with_reducible rfl)⟩) (by assumption) ?_
                  try simp only [Act.put, List.setIfInBounds_toArray, List.set_cons_zero, List.set_cons_succ]
                  refine wpAnyH_takeD (i := 32) (d := 100) (v := ?_) rfl rfl (by kernel_rfl) (by kernel_rfl) (by kernel_rfl) (fun _ _ _ h => h) (Or.inl ⟨by rfl, (by intro w hSw; (try dsimp only at hSw); go_simp; try with_reducible rfl)⟩) (by assumption) ?_
                  try simp only [Act.put, List.setIfInBounds_toArray, List.set_cons_zero, List.set_cons_succ]
                  refine wpAnyH_takeD (i := 33) (d := 101) (v := ?_) rfl rfl (by kernel_rfl) (by kernel_rfl) (by kernel_rfl) (fun _ _ _ h => h) (Or.inl ⟨by rfl, (by intro w hSw; (try dsimp only at hSw); go_simp; try with_reducible rfl)⟩) (by assumption) ?_
                  try simp only [Act.put, List.setIfInBounds_toArray, List.set_cons_zero, List.set_cons_succ]
                  refine wpAnyH_ready (rs := [29]) (by kernel_rfl) (by simp) ?_
                  refine AllReadyH.cons rfl (fun K hK => ?_) AllReadyH.nil
                  go_simp
                  (go_at_call 24; refine (HTK.out _).mono ?_; rintro e w6 ⟨a8, b8, o8, c8, rfl, hs8, hb8, hsi8⟩; have hsi9 : wr.Since wr.heap.size w6 := ⟨hsi8.os, hsi8.tape, hsi8.output, hsi8.size, hsi8.block⟩; have hk6 : w6.cell? ⟨S0, 0, none⟩ = some (.slice a5 len c5) ∧ w6.cell? ⟨S0, 1, none⟩ = some (.int .i64 lv0) := ⟨(hsi9.cell (World.block_lt_of_cell? _ _ q0)).trans q0, (hsi9.cell (World.block_lt_of_cell? _ _ q1)).trans q1⟩; obtain ⟨rfl, hc8⟩ := hs8.get (Nat.zero_lt_one); rw [HVAL.out, Nat.add_zero] at hc8)
                  go_wp2_with fail
                  refine hK.out _ _ hk6 (fun hHeld => ?_)
                  clear hK K
                  try simp only [Act.put, List.setIfInBounds_toArray, List.set_cons_zero, List.set_cons_succ]
                  refine wpAnyH_mono (S' := fun wx => wx.cell? ⟨S0, 0, none⟩ = some (.slice a5 len c5) ∧ wx.cell? ⟨S0, 1, none⟩ = some (.int .i64 lv0) ∧ wx.cell? ⟨b8, o8, none⟩ = some (.int .i64 lv0)) (fun _ h => ⟨h.1, h.2.1⟩) _ _ _ _ ?_
                  have hHeld2 : w6.cell? ⟨S0, 0, none⟩ = some (.slice a5 len c5) ∧ w6.cell? ⟨S0, 1, none⟩ = some (.int .i64 lv0) ∧ w6.cell? ⟨b8, o8, none⟩ = some (.int .i64 lv0) := ⟨hk6.1, hk6.2, hc8⟩
                  refine wpAnyH_takeD (i := 30) (d := 98) (v := ?_) rfl rfl (by kernel_rfl) (by kernel_rfl) (by kernel_rfl) (fun _ _ _ h => h) (Or.inl ⟨by rfl, (by intro w hSw; (try dsimp only at hSw); go_simp; try with_reducible rfl)⟩) (by assumption) ?_
                  try simp only [Act.put, List.setIfInBounds_toArray, List.set_cons_zero, List.set_cons_succ]
                  refine wpAnyH_takeD (i := 31) (d := 99) (v := ?_) rfl rfl (by kernel_rfl) (by kernel_rfl) (by kernel_rfl) (fun _ _ _ h => h) (Or.inl ⟨by rfl, (by intro w hSw; (try dsimp only at hSw); go_simp; try with_reducible rfl)⟩) (by assumption) ?_
                  try simp only [Act.put, List.setIfInBounds_toArray, List.set_cons_zero, List.set_cons_succ]
                  refine wpAnyH_takeD (i := 34) (d := 102) (v := ?_) rfl rfl (by kernel_rfl) (by kernel_rfl) (by kernel_rfl) (fun _ _ _ h => h) (Or.inl ⟨by rfl, (by intro w hSw; (try dsimp only at hSw); go_simp; try with_reducible rfl)⟩) (by assumption) ?_
                  try simp only [Act.put, List.setIfInBounds_toArray, List.set_cons_zero, List.set_cons_succ]
                  refine wpAnyH_takeD (i := 35) (d := 103) (v := ?_) rfl rfl (by kernel_rfl) (by kernel_rfl) (by kernel_rfl) (fun _ _ _ h => h) (Or.inl ⟨by rfl, (by intro w hSw; (try dsimp only at hSw); go_simp; try with_reducible rfl)⟩) (by assumption) ?_
                  try simp only [Act.put, List.setIfInBounds_toArray, List.set_cons_zero, List.set_cons_succ]
                  refine wpAnyH_done (by kernel_rfl) ?_ _
                  refine NoPanic.normal ?_
                  go_wp2_with fail
                  go_meet
                  exact ⟨by rw [HG4.out], hsi9⟩
              · have HG4 := Lib.hid (show g3 = false by
                  rw [HG3.out, decide_eq_false_iff_not]
                  intro e
                  have h1 := (HRBH.out.2 e).1
                  have := HHH.out
                  omega)
                have hHp : ¬ ((H : Int) ≤ (len : Int)) := by omega
                have hHz : decide ((H : Int) ≤ (len : Int)) = false := decide_eq_false hHp
                clear hle
                go_big_quiet (fail)
                go_wp2_with fail
                go_meet
                exact ⟨by rw [HG4.out], since_drewN (World.Since.refl _ _) nq⟩
            obtain ⟨rfl, hsc⟩ := hcut
            have hsy2 := since2 hsy hsc
            cases g3 with
            | false =>
              have hjr : j ≠ r := of_decide_eq_false HG3.out.symm
              clear hc hc6 hcy q0 q1 hadd h4len h6y hs4y
              go_wp2_with fail
              go_roundg (RR.length - (j + 1))
              case rel => exact ⟨j + 1, by omega, rfl, by go_num, rfl, rfl, hsy2⟩
              case measure => omega
            | true =>
              have hjr : j = r := of_decide_eq_true HG3.out.symm
              have HNEW := Lib.hid (show ∃ r', ((A ++ rr).length < len → r' < RR.length ∧ (A ++ rr) ++ chn RR nx RR.length r' = l) from by
                have h1 := HCU.out r hr
                rw [← hjr, ← HRD.out] at h1
                rw [hjr] at h1
                cases hnx2 : nx r with
                | none =>
                  rw [hnx2] at h1
                  refine ⟨0, fun h => ?_⟩
                  have h2 := HAR.out
                  rw [h1] at h2
                  rw [HLN.out, ← h2] at h
                  simp at h
                | some r' =>
                  rw [hnx2] at h1
                  refine ⟨r', fun _ => ⟨HNX.out r r' hnx2, ?_⟩⟩
                  have h2 := HAR.out
                  rw [h1] at h2
                  rw [← h2, List.append_assoc])
              have hH2 : (A ++ rr).length = at_ + lj := by rw [List.length_append, ← HAT.out, ← HLJD.out]
              have hHle : at_ + lj ≤ len := (HRBH.out.2 hjr).1
              have HH2 := Lib.hid hH2
              clear hc hc6 hcy q0 q1 hadd h4len h6y hs4y hH2
              go_wp2_with fail
              obtain ⟨r', hr'⟩ := HNEW.out
              go_roundg (len - (at_ + lj))
              case rel => exact ⟨A ++ rr, r', by rw [HH2.out]; exact hHle, by rw [HH2.out], by rw [HH2.out]; go_num, hr', since2 hsx hsy2⟩
              case measure => (have h1 := HAT.out; omega)
        · obtain rfl : at_ = len := by omega
          have e0x := (hsx.cell (World.block_lt_of_cell? _ _ e0)).trans e0
          go_wp2_with fail
          go_roundg (L.length - (k + 1))
          case rel => exact ⟨k + 1, by omega, rfl, by go_num, by rw [HT2.out]; go_num, since2 hswa hsx⟩
          case measure => omega
    · obtain rfl : k = L.length := by omega
      have HCN := Lib.hid HTO.out
      rw [List.take_length]
      have hCl : L.flatten.length ≤ len0 := by
        rw [HTO.out]
        have := List.length_filter_le (fun i => decide (lvR x (fsI len0 x) a1 i ≠ -1)) (List.range len0)
        simpa using this
      obtain ⟨C, hC⟩ : ∃ C, C = L.flatten.length := ⟨_, rfl⟩
      rw [← hC] at hCl ⊢
      have HCD := Lib.hid hC
      clear hC
      go_wp2_with fail
      go_loopg [9, 17, 114] len0 (fun g tot _ i wx => ∃ (q : Nat) (d : Int), q ≤ len0 ∧ g = len0 - q ∧ i = .int .i64 q ∧ tot = .int .i64 d ∧ Hid (d = (C : Int) - (((List.range q).filter (fun i => decide (lvR x (fsI len0 x) a1 i ≠ -1))).length : Nat)) ∧ -4294967296 ≤ d ∧ d ≤ 4294967296 ∧ wk = wx)
      case atStart => exact ⟨0, C, Nat.zero_le _, rfl, rfl, rfl, (by show (C : Int) = C - ((0 : Nat) : Int); omega), by omega, by omega, rfl⟩
      case round =>
        obtain ⟨q, d, hq, rfl, rfl, rfl, HD, hd1, hd2, rfl⟩ := hrel
        by_cases hqn : q < len0
        · have hqz : (q : Int) < (len0 : Int) := by omega
          obtain ⟨rfl, hcq⟩ := (hx3.since hs).get hqn
          have HSN := Lib.hid (show (List.range (q + 1)).filter (fun i => decide (lvR x (fsI len0 x) a1 i ≠ -1)) = (List.range q).filter (fun i => decide (lvR x (fsI len0 x) a1 i ≠ -1)) ++ (if remN (x q) = true then [] else [q]) by
            rw [List.range_succ, List.filter_append]
            congr 1
            cases hr : remN (x q) with
            | true =>
              have : lvR x (fsI len0 x) a1 q = -1 := by unfold lvR; rw [if_pos hr]
              simp [this]
            | false =>
              have := (lvR_ne (x := x) (fs := fsI len0 x) HBA.out).2 hr
              simp [this])
          have hcl0 : ((List.range q).filter (fun i => decide (lvR x (fsI len0 x) a1 i ≠ -1))).length ≤ len0 := by
            have := List.length_filter_le (fun i => decide (lvR x (fsI len0 x) a1 i ≠ -1)) (List.range q)
            simp only [List.length_range] at this
            omega
          obtain ⟨W, hW⟩ : ∃ W, W = (List.range q).filter (fun i => decide (lvR x (fsI len0 x) a1 i ≠ -1)) := ⟨_, rfl⟩
          rw [← hW] at HSN hcl0 HD
          have HDD := HD.out
          clear hW HD
          cases hr : remN (x q) with
          | true =>
            have HR := Lib.hid hr
            rw [hr] at HSN
            have HDH := Lib.hid HDD
            clear hr HDD
            go_wp2_with fail
            refine (isRemoved_any _ _).mono ?_
            rintro e w7 ⟨rfl, rfl⟩
            rw [HR.out]
            go_wp2_with fail
            go_roundg (len0 - (q + 1))
            case rel => exact ⟨q + 1, d, by omega, rfl, by go_num, rfl, (by rw [HSN.out]; have h1 := HDH.out; show d = _; simp only [if_true, List.append_nil]; exact h1), hd1, hd2, rfl⟩
            case measure => omega
          | false =>
            have HR := Lib.hid hr
            rw [hr] at HSN
            have hd3 : -4294967296 ≤ d - 1 := by omega
            have HDH := Lib.hid HDD
            clear hr HDD
            go_wp2_with fail
            refine (isRemoved_any _ _).mono ?_
            rintro e w7 ⟨rfl, rfl⟩
            rw [HR.out]
            go_wp2_with fail
            go_roundg (len0 - (q + 1))
            case rel => exact ⟨q + 1, d - 1, by omega, rfl, by go_num, by go_num, (by rw [HSN.out]; have h1 := HDH.out; show d - 1 = _; rw [if_neg (by decide), List.length_append, List.length_singleton]; omega), hd3, by omega, rfl⟩
            case measure => omega
        · obtain rfl : q = len0 := by omega
          have hd0 : d = 0 := by
            have h1 := HD.out
            rw [← HTO.out, ← HCD.out] at h1
            omega
          subst hd0
          go_wp2_with fail
          go_ret
          exact ⟨rfl, below_of_since (since2 hsi03 hs)⟩

/-! ### THE ROW's STEP -/
set_option maxRecDepth 100000 in
theorem contract (H : Type) (enc : TypeId × Value → H) (W : World) (base : Nat) (args : Array Value) (ds gs : List (DataW H)) (before : List MemPlace)
    (hval : ∀ (j : Nat) t v, Tryd.f9.params[j]? = some t → args[j]? = some v → Value.okWide Tryd.prog W .any base t v)
    (hW : DataW.Whole enc Tryd.prog Tryd.f9.params.toList Rows.fnRunsInSequencesSpec.vars false W args.toList ds gs before) (hL : laidMetH Tryd.prog Rows.fnRunsInSequencesRow.laid W) :
    Calls Tryd.prog 9 args W fun e W' => ∃ v, e = .returned v ∧ Rows.fnRunsInSequencesSpec.post enc Tryd.prog Tryd.f9 false true false false W args v W' := by
  have hW' := hW
  obtain ⟨p, q, hA0, hV, rfl, hfz, hnd⟩ := hW
  have hA : DataW.TrodAll enc Tryd.prog W 0 (fun _ => true) true Tryd.f9.params.toList args.toList ds p := hA0
  rw [Tryd.params9] at hA hval
  obtain ⟨v0, vs0, d0, ds0, p0, q0, hargs, rfl, rfl, h0, r0⟩ := trodAll_cons hA
  obtain ⟨v1, vs1, d1, ds1, p1, q1, rfl, rfl, rfl, h1, r1⟩ := trodAll_cons r0
  obtain ⟨rfl, rfl, rfl⟩ := trodAll_nil r1
  obtain rfl : args = #[v0, v1] := by cases args; simp_all
  obtain ⟨a0, len0, cap0, rfl⟩ := okWide_slice Tryd.underlying22 (hval 0 22 v0 rfl rfl)
  have k0 := h0
  have lt0 : ∀ x ∈ p0, x.block < W.heap.size := by obtain ⟨m, hm⟩ := k0; exact DataW.trod_lt m _ _ _ hm
  obtain ⟨z0, w0⟩ : ∃ zs, IsRow .i64 W a0 len0 cap0 zs := by
    obtain ⟨fuel, hf⟩ := h0
    rcases open_ints Tryd.underlying22 Tryd.underlying3 (by kernel_rfl) hf with ⟨hcs, _⟩ | ⟨x, l, c, zs, hcs, _, hl, hm, hz, _, hcell, hwz⟩
    · simp [Value.cells] at hcs
      obtain ⟨rfl, rfl, rfl⟩ := hcs
      exact ⟨[], .inl ⟨rfl, rfl, rfl, rfl⟩⟩
    · simp [Value.cells] at hcs
      obtain ⟨rfl, rfl, rfl⟩ := hcs
      exact ⟨zs, .inr ⟨_, rfl, hl, hm, by simpa using hz, hcell, hwz⟩⟩
  obtain ⟨a1, rfl, rfl, rfl, w1⟩ := open_int Tryd.underlying3 (hval 1 3 v1 rfl rfl) h1
  obtain ⟨g, tv, cs, fuel, dv, pv, rfl, hg1, hg2, hg3, hg4, rfl⟩ := trodVars_one hV
  obtain rfl : g = 0 := Option.some.inj (hg1.symm.trans gTab)
  obtain rfl : tv = 88 := Option.some.inj (hg2.symm.trans gTabType)
  have ltv : ∀ x ∈ pv, x.block < W.heap.size := DataW.trod_lt fuel _ _ _ hg4
  have hT := tab hL
  clear hA0
  refine (walk a0 len0 cap0 z0 a1 W w0 w1 hT).mono fun e W' ⟨he, bel⟩ => ?_
  subst he
  have hg4' := DataW.trod_stays (sp' := fun b => decide (b < W.heap.size)) (w' := W') (kids_book laidOut (by kernel_rfl)) (book_sized (by kernel_rfl)) (fun h => by cases h) ⟨of_decide_eq_true (by kernel_rfl), book_self 88⟩ hg4 (fun x hx => bel.same (ltv x hx)) (fun x hx => by simpa using ltv x hx)
  exact ⟨_, rfl, _, _, _, [], _, _, hW', trodAll_mk1 (shut_bool Tryd.underlying4 _), (trodAll_cons_mk (Below.trod laidOut (by kernel_rfl) (of_decide_eq_true (by kernel_rfl)) k0 bel lt0) (trodAll_cons_mk (shut_int Tryd.underlying3 w1) trodAll_mk0)), trodVars_mk1 hg1 hg2 (var?_below bel hg1 hT.lt hg3) hg4', bel.frame _, fun h => by cases h⟩

/-- A world for the witness: the table holding what its initialiser lays. -/
noncomputable def laidWorld (os : Os) : World :=
  { World.holding Tryd.prog os ⟨#[], #[], []⟩ with heap := (World.holding Tryd.prog os ⟨#[], #[], []⟩).heap.modify 0 fun
      | .cells _ t frozen => .cells (tabZ.map fun z => Value.int .u64 z).toArray t frozen
      | o => o }
theorem laid_met (os : Os) : laidMet Tryd.prog Rows.fnRunsInSequencesRow.laid ((laidWorld os).forCall (fun _ _ => 0) ⟨#[], #[.slice none 0 0, .int .i64 0], []⟩).memory :=
  laidMet_of_run' 8 (by kernel_rfl) (by kernel_rfl)
theorem reads (os : Os) {H : Type} (enc : TypeId × Value → H) : ∃ places, DataW.whole enc Tryd.prog ((laidWorld os).forCall (fun _ _ => 0) ⟨#[], #[.slice none 0 0, .int .i64 0], []⟩).memory Tryd.f9.params.toList Rows.fnRunsInSequencesSpec.vars false (#[.slice none 0 0, .int .i64 0] : Array Value).toList 8 = some ([.nil, .lit (.int .i64 0)], [Rows.laid_loop_example_pub_g01449_impl_classes], places) :=
  ⟨MemPlace.row ⟨0, 0, none⟩ 23, by kernel_rfl⟩

set_option maxRecDepth 100000 in
theorem lifted (os : Os) (started : os.Started) (H : Type) (enc : TypeId × Value → H) (F : Stop.Interp) :
    ReturnsInHanded {} Tryd.checked os 9 .any ((OpenSpec.ofChange Rows.fnRunsInSequencesSpec).preRow enc Tryd.prog Tryd.f9 Rows.fnRunsInSequencesRow.domain false Rows.fnRunsInSequencesRow.laid) (((OpenSpec.ofChange Rows.fnRunsInSequencesSpec).at F).post enc Tryd.prog Tryd.f9 false true false false) := by
  obtain ⟨places, hx⟩ := reads os enc
  refine returnsInHanded_of_row (C := Tryd.checked) (s := OpenSpec.ofChange Rows.fnRunsInSequencesSpec) own started (by kernel_rfl) Tryd.func9
    (witness_row_at (enc := enc) (C := Tryd.checked) false (laidWorld os) #[.slice none 0 0, .int .i64 0] rfl (by kernel_rfl) (by kernel_rfl) (by kernel_rfl)
      (OpenSpec.preRow_of_cond 8 hx (by kernel_rfl) (fun k hk => by cases hk) (by kernel_rfl) (laid_met os))) ?_
  intro W base args ds gs before hval hW _ _ _ hL _ _
  exact contract H enc W base args ds gs before hval hW hL

theorem said : Rows.FnRunsInSequencesSaid :=
  OpenClaim.holds_of_cond 9 Tryd.f9 rfl rfl rfl rfl rfl rfl rfl ⟨rfl, rfl, rfl, rfl, rfl⟩ rfl rfl rfl rfl rfl (by kernel_rfl) Tryd.func9 (by kernel_rfl)
    (of_decide_eq_true (by kernel_rfl)) (by unfold Func.isWrapper; first | (rw [if_pos (by decide +kernel)]; kernel_rfl) | (rw [if_neg (by decide +kernel)]; exact ⟨rfl, rfl⟩))
    (fun os started H enc _ F => by rw [OpenClaim.pre_eq_preRow]; exact lifted os started H enc F)

theorem plain (f : FuncId) (fn : Func) (hf : Tryd.pinned.checked.prog.funcNamed Rows.fnRunsInSequencesRow.func = some f) (hfn : Tryd.pinned.checked.prog.funcs[f]? = some fn) :
    false = Tryd.pinned.checked.prog.looks [] ∧ ∀ (j : Nat) t, fn.params[j]? = some t → Tryd.pinned.checked.prog.wantsStandIn t = false := by
  obtain rfl : f = 9 := Option.some.inj ((show Tryd.prog.funcNamed Rows.fnRunsInSequencesRow.func = some 9 by kernel_rfl).symm.trans hf) |>.symm
  obtain rfl : fn = Tryd.f9 := (Option.some.inj (Tryd.func9.symm.trans hfn)).symm
  refine ⟨by kernel_rfl, fun j t ht => ?_⟩
  rw [Tryd.params9] at ht
  have ht2 : t = 22 ∨ t = 3 := by simpa using Array.mem_of_getElem? ht
  rcases ht2 with rfl | rfl
  · exact (show Tryd.prog.wantsStandIn 22 = false by kernel_rfl)
  · exact (show Tryd.prog.wantsStandIn 3 = false by kernel_rfl)

/-- THE CARD. -/
theorem proved : Rows.FnRunsInSequencesCardSaid :=
  Claim7.holds_tied_plain_at .later [] _ _ _ _ said (fun _ h => by cases h) (by kernel_rfl) (fun _ h => by cases h) fnRunsInSequences_row_tie rfl ⟨rfl, rfl⟩ (by kernel_rfl) rfl plain (by kernel_rfl)
#print axioms proved
end Go.Proofs.YtjelgbfgciaapaaDoor.fnRunsInSequences
