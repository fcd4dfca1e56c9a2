/- The law FnSequencesAnswer, its tied card: for every input the call returns true, and each argument and the table of classes read afterwards as before. The row's one condition, that the table starts as the program's text lays it, is tied to the text by the given tie. -/
import Derived.Test.YtjelgbfgciaapaaDoorCards
import Derived.Test.YtjelgbfgciaapaaDoorTie
import Derived.Test.YtjelgbfgciaapaaDoorLawX
import Derived.Test.YtjelgbfgciaapaaDoorChI
import Derived.WalkKit
import Derived.ProofKit
import Derived.OpenShut
import Derived.ShutString
import Derived.ChangeOld
import Derived.ChangeVars
import Derived.WalkSmall
import Derived.Below
import Derived.Deep.DeepHandedRow
import Derived.Lib.LaidTab
namespace Go.Proofs.YtjelgbfgciaapaaDoor.fnSequencesAnswer
open Go.ChangeShapes Go.WideShapes Go.ChangeAt Go.RowKit
open Go.ChangeMaps (open_string shut_string)
set_option linter.unusedVariables false

theorem own : ownKnob Tryd.prog.godebug = none := by kernel_rfl
theorem laidOut : laidOutB Tryd.prog = true := by kernel_rfl
/-- The table's name. -/
def tabName : String := Rows.fnSequencesAnswerSpec.vars.headD ""
theorem gTab : Tryd.prog.globalNamed tabName = some 0 := by kernel_rfl
theorem gTabType : (Tryd.prog.globals[0]?).map (·.type) = some 88 := by kernel_rfl
theorem cellsT : Tryd.prog.cellsOf 88 = 23 := by kernel_rfl
theorem cellsC : Tryd.prog.cellsOf 67 = 1 := by kernel_rfl
def tabZ : List Int := [0, 1, 2, 3, 4, 5, 6, 7, 8, 9, 10, 11, 12, 13, 16, 17, 18, 19, 20, 21, 22, 23, 24]

/-- What the row's list gives. -/
theorem table {W : World} (h : laidMetH Tryd.prog Rows.fnSequencesAnswerRow.laid W) : Lib.TabIs Tryd.prog W tabName .u64 tabZ :=
  Lib.tabIs_of_head (rest := []) gTab gTabType Tryd.underlying88 Tryd.underlying67 cellsC cellsT h
theorem tab {W : World} (h : laidMetH Tryd.prog Rows.fnSequencesAnswerRow.laid W) : Tab W := fun i hi => by
  have h1 := (table h).cell gTab i (by simpa [tabZ] using hi)
  rw [h1]
  congr 2
  have : ∀ j : Fin 23, tabZ.getD j.val 0 = cls (j.val : Int) := by decide
  exact this ⟨i, hi⟩

/-- What the walk is told of a slice of integers that came in. -/
def IsRow (k : IntKind) (w : World) (a : Option Addr) (len cap : Nat) (zs : List Int) : Prop :=
  (a = none ∧ len = 0 ∧ cap = 0 ∧ zs = []) ∨
  ∃ x, a = some x ∧ len ≤ cap ∧ cap ≤ maxLen ∧ zs.length = cap ∧ (∀ i, i < zs.length → w.cell? (x.add i) = some (.int k (zs.getD i 0))) ∧ ∀ n ∈ zs, (Lit.int k n).wf = true

set_option maxHeartbeats 4000000 in
set_option maxRecDepth 100000 in
theorem walk (a0 : Option Addr) (len0 cap0 : Nat) (z0 : List Int) (a1 : Int) (w : World) (w0 : IsRow .i64 w a0 len0 cap0 z0) (w1 : (Lit.int .i64 a1).wf = true) (ht : Tab w) :
    Calls Tryd.prog 8 #[.slice a0 len0 cap0, .int .i64 a1] w fun e w' => e = .returned (.bool true) ∧ Below w.heap.size w w' := by
  obtain ⟨b0, o0, hx0⟩ := sees_of_row w0
  obtain ⟨x, hx⟩ : ∃ x : Nat → Int, Sees w a0 b0 o0 len0 cap0 (fun i => .int .i64 (x i)) := ⟨_, hx0⟩
  clear hx0 w0 w1
  by_cases hn : len0 ≤ 2147483647
  case neg =>
    have hb : (2147483647 : Int) < (len0 : Int) := by omega
    go_enter Tryd.func8, Tryd.ntmps8
    go_wp2_with fail
    go_ret
    exact ⟨rfl, Below.refl _ _⟩
  by_cases hp : paraB len0 x = true
  case neg =>
    have hp' : paraB len0 x = false := by simpa using hp
    clear hp
    go_enter Tryd.func8, Tryd.ntmps8
    go_wp2_with fail
    refine (isParagraph_any _ (by omega) hx).mono ?_
    rintro e w1 ⟨rfl, rfl⟩
    rw [hp']
    go_wp2_with fail
    go_ret
    exact ⟨rfl, Below.refl _ _⟩
  have hpp := (of_decide_eq_true hp : 0 < len0 ∧ ∀ i, i < len0 → 0 ≤ x i ∧ x i < 23 ∧ (x i = 7 → len0 ≤ i + 1))
  have hpos := hpp.1
  have HOK := Lib.hid (show ∀ i, i < len0 → clsOk (x i) from fun i hi => ⟨(hpp.2 i hi).1, (hpp.2 i hi).2.1⟩)
  have HB := Lib.hid (show ∀ i, i < len0 → x i = 7 → len0 ≤ i + 1 from fun i hi => (hpp.2 i hi).2.2)
  have HPA := Lib.hid hp
  clear hpp hp
  by_cases hbs : baseB a1 = true
  case neg =>
    have hbs' : baseB a1 = false := by simpa using hbs
    have HBS := Lib.hid hbs'
    clear hbs hbs'
    go_enter Tryd.func8, Tryd.ntmps8
    go_wp2_with fail
    refine (isParagraph_any _ (by omega) hx).mono ?_
    rintro e w1 ⟨rfl, rfl⟩
    rw [HPA.out]
    go_wp2_with fail
    refine (isBase_any _ _).mono ?_
    rintro e w1 ⟨rfl, rfl⟩
    rw [HBS.out]
    go_wp2_with fail
    go_ret
    exact ⟨rfl, Below.refl _ _⟩
  have HBA := Lib.hid (show a1 = 0 ∨ a1 = 1 from of_decide_eq_true hbs)
  have HBS := Lib.hid hbs
  clear hbs
  go_enter Tryd.func8, Tryd.ntmps8
  go_wp2_with fail
  refine (isParagraph_any _ (by omega) hx).mono ?_
  rintro e w1 ⟨rfl, rfl⟩
  rw [HPA.out]
  go_wp2_with fail
  refine (isBase_any _ _).mono ?_
  rintro e w1 ⟨rfl, rfl⟩
  rw [HBS.out]
  go_wp2_with fail
  refine (specExplicit_any _ (by omega) hpos HBA.out HB.out hx).mono ?_
  rintro e w1 ⟨Lv, Ty, capT, rfl, hL, hT, hLT, hL0, hsi1⟩
  have ht1 := ht.since hsi1
  have hx1 := hx.since hsi1
  have hlv1 : Sees w1 (some ⟨Lv, 0, none⟩) Lv 0 len0 len0 (fun i => .int .i64 (lvR x (fsI len0 x) a1 i)) := Sees.ofRow hL
  clear ht hx
  go_wp2_with fail
  refine (specChains_any _ (by omega) HBA.out HB.out hx1 hlv1).mono ?_
  rintro e w2 ⟨vC, rfl, hC, hsi2⟩
  have hsi12 := since2 hsi1 hsi2
  have ht2 := ht1.since hsi2
  have hx2 := hx1.since hsi2
  go_wp2_with fail
  refine (implSequences_any _ ht2 (by omega) hpos HBA.out HOK.out HB.out hx2).mono ?_
  rintro e w3 ⟨vI, rfl, hI, hsi3⟩
  have hsi03 := since2 hsi12 hsi3
  have hx3 := hx2.since hsi3
  have hT3 := (hT.since hsi2).since hsi3
  have hC3 := hC.since hsi3
  have HIS := Lib.hid (fun l (h : l ∈ seqs x (fsI len0 x) a1 len0) => seqs_is (fs := fsI len0 x) HBA.out HB.out h)
  have HEO := Lib.hid (show ∀ l, l ∈ seqs x (fsI len0 x) a1 len0 → (iniN x (lst0 l) = true → tS x (fsI len0 x) a1 (lst0 l) = x (lst0 l)) → eoV x (fsI len0 x) (fun i => cls (tI x (fsI len0 x) a1 i)) a1 len0 l = eoS x (fsI len0 x) a1 len0 l from fun l hl hop => eo_same HBA.out HOK.out (HIS.out l hl) hop)
  have hLl := seqs_len (x := x) (fs := fsI len0 x) (base := a1) (n := len0)
  obtain ⟨L, hL⟩ : ∃ L, L = seqs x (fsI len0 x) a1 len0 := ⟨_, rfl⟩
  rw [← hL] at hI hC3 HIS HEO hLl
  obtain ⟨FC, hFC, hQC⟩ := hC3
  obtain ⟨FI, hFI, hQI⟩ := hI
  obtain ⟨aC, cC, rfl⟩ := hFC.len
  obtain ⟨aI, cI, rfl⟩ := hFI.len
  have HFC := Lib.hid hFC
  have HFI := Lib.hid hFI
  have HQC := Lib.hid hQC
  have HQI := Lib.hid hQI
  have HLC := Lib.hid (show ∀ i, i < L.length → (FC i).length = 4 from fun i hi => by
    obtain ⟨a, b, o, c, h1, _⟩ := HQC.out i hi
    rw [h1]; rfl)
  have HLI := Lib.hid (show ∀ i, i < L.length → (FI i).length = 4 from fun i hi => by
    obtain ⟨a, b, o, c, h1, _⟩ := HQI.out i hi
    rw [h1]; rfl)
  have HT3 := Lib.hid hT3
  clear hx1 hlv1 hsi1 hsi2 hsi12 ht1 ht2 hx2 hC hsi3 hL hFC hFI hQC hQI hT hT3
  go_wp2_with fail
  go_loopg [9, 10, 11, 12, 13, 45] L.length (fun g _ _ _ _ _ i wr => ∃ k : Nat, k ≤ L.length ∧ g = L.length - k ∧ i = .int .i64 k ∧ w3.Since w3.heap.size wr)
  case atStart => exact ⟨0, Nat.zero_le _, rfl, rfl, World.Since.refl _ _⟩
  case round =>
    obtain ⟨k, hk, rfl, rfl, hs⟩ := hrel
    by_cases hkn : k < L.length
    · have hkz : (k : Int) < (L.length : Int) := by omega
      obtain ⟨qC, cC', hv0, hqC, _⟩ := HFC.out.form (by omega)
      simp only [Value.slice.injEq] at hv0
      obtain ⟨rfl, _, rfl⟩ := hv0
      obtain ⟨qI, cI', hv1, hqI, _⟩ := HFI.out.form (by omega)
      simp only [Value.slice.injEq] at hv1
      obtain ⟨rfl, _, rfl⟩ := hv1
      obtain ⟨a3, b3, o3, c3, h1, h2, _⟩ := HQC.out k hkn
      obtain ⟨a4, b4, o4, c4, h3, h4, _⟩ := HQI.out k hkn
      obtain ⟨l, hl⟩ : ∃ l, l = L.getD k [] := ⟨_, rfl⟩
      obtain ⟨c0, c1, c2, c3'⟩ := (HFC.out.since hs).cells4 HLC.out hkn h1
      obtain ⟨i0, i1, i2, i3⟩ := (HFI.out.since hs).cells4 HLI.out hkn h3
      have h2r := h2.since hs
      have h4r := h4.since hs
      rw [← hl] at c0 c1 c2 c3' i0 i1 i2 i3 h2r h4r
      have hlm : l ∈ L := by rw [hl]; exact getD_memL hkn
      have hII := HIS.out l hlm
      have hlp : 0 < l.length := List.length_pos_iff.2 hII.ne
      have hln := hII.len
      have hzn := hII.lt _ (lst0_mem hII.ne)
      obtain ⟨rfl, hcl⟩ := h2r.get (show l.length - 1 < l.length by omega)
      change _ = some (Value.int .i64 ((lst0 l : Nat) : Int)) at hcl
      obtain ⟨z, hz⟩ : ∃ z, z = lst0 l := ⟨_, rfl⟩
      have HEL := Lib.hid (HEO.out l hlm)
      rw [← hz] at hcl hzn HEL
      have HSE := Lib.hid (show soV x (fsI len0 x) a1 len0 l = soS x (fsI len0 x) a1 len0 l by unfold soV soS; rw [Int.max_comm])
      change _ = some (Value.int .i64 (soS x (fsI len0 x) a1 len0 l)) at c2
      change _ = some (Value.int .i64 (eoS x (fsI len0 x) a1 len0 l)) at c3'
      change _ = some (Value.int .i64 (soV x (fsI len0 x) a1 len0 l)) at i2
      change _ = some (Value.int .i64 (eoV x (fsI len0 x) (fun i => cls (tI x (fsI len0 x) a1 i)) a1 len0 l)) at i3
      rw [HSE.out] at i2
      obtain ⟨lv0, hlv0⟩ : ∃ lv0, lv0 = lvl x (fsI len0 x) a1 (hd0 l) := ⟨_, rfl⟩
      obtain ⟨so, hso⟩ : ∃ so, so = soS x (fsI len0 x) a1 len0 l := ⟨_, rfl⟩
      obtain ⟨eS, heS⟩ : ∃ eS, eS = eoS x (fsI len0 x) a1 len0 l := ⟨_, rfl⟩
      obtain ⟨eV, heV⟩ : ∃ eV, eV = eoV x (fsI len0 x) (fun i => cls (tI x (fsI len0 x) a1 i)) a1 len0 l := ⟨_, rfl⟩
      rw [← hlv0] at c1 i1
      rw [← hso] at c2 i2
      rw [← heS] at c3' HEL
      rw [← heV] at i3 HEL
      obtain ⟨rfl, hcx⟩ := (hx3.since hs).get hzn
      have hgT := HT3.out.since hs
      have hct := hgT.cell hzn
      obtain ⟨len, hlen⟩ : ∃ len, len = l.length := ⟨_, rfl⟩
      have HLN := Lib.hid hlen
      have HH2 := Lib.hid h2r
      have HH4 := Lib.hid h4r
      rw [← hlen] at c0 i0 hlp hln hcl
      have h1l : (1 : Int) ≤ (len : Int) := by omega
      have h0l : (0 : Int) < (len : Int) := by omega
      have hznz : (z : Int) < (len0 : Int) := by omega
      obtain ⟨tz, htz⟩ : ∃ tz, tz = tS x (fsI len0 x) a1 z := ⟨_, rfl⟩
      rw [← htz] at hct HEL
      obtain ⟨xz, hxz⟩ : ∃ xz, xz = x z := ⟨_, rfl⟩
      have HXI := Lib.hid (show iniN x z = iniB xz by rw [hxz]; rfl)
      rw [← hxz] at hcx HEL
      have hssk := hs.size
      clear hl hlm hII hz hlv0 hso heS heV h1 h2 h3 h4 h2r h4r hgT hlen htz hxz HSE
      go_upto_region 13 with fail
      obtain ⟨S0, hS0⟩ : ∃ S0, S0 = wr.heap.size := ⟨_, rfl⟩
      have hsa : wr.Since wr.heap.size (wr.alloc (.cells #[.slice (some ⟨b3, o3, none⟩) len c3, .int .i64 lv0, .int .i64 so, .int .i64 eS] 40)) := (World.Since.refl _ _).alloc (Nat.le_refl _) _
      have hrow : (wr.alloc (.cells #[.slice (some ⟨b3, o3, none⟩) len c3, .int .i64 lv0, .int .i64 so, .int .i64 eS] 40)).rowIs S0 40 4 (fun i => (#[Value.slice (some ⟨b3, o3, none⟩) len c3, .int .i64 lv0, .int .i64 so, .int .i64 eS][i]?).getD undef) := by
        rw [hS0]
        exact World.rowIs_alloc wr _ _ _ (fun i hi => by rw [Array.getElem?_eq_getElem hi]; rfl)
      have hza : (wr.alloc (.cells #[.slice (some ⟨b3, o3, none⟩) len c3, .int .i64 lv0, .int .i64 so, .int .i64 eS] 40)).heap.size = S0 + 1 := by rw [World.size_alloc, hS0]
      have hswa := since2 hs hsa
      have i0a := (hsa.cell (World.block_lt_of_cell? _ _ i0)).trans i0
      have i1a := (hsa.cell (World.block_lt_of_cell? _ _ i1)).trans i1
      have i2a := (hsa.cell (World.block_lt_of_cell? _ _ i2)).trans i2
      have i3a := (hsa.cell (World.block_lt_of_cell? _ _ i3)).trans i3
      have hcla := (hsa.cell (World.block_lt_of_cell? _ _ hcl)).trans hcl
      have hcxa := (hsa.cell (World.block_lt_of_cell? _ _ hcx)).trans hcx
      have hcta := (hsa.cell (World.block_lt_of_cell? _ _ hct)).trans hct
      have h2a := HH2.out.since hsa
      have h4a := HH4.out.since hsa
      rw [← hS0]
      generalize wr.alloc (.cells #[.slice (some ⟨b3, o3, none⟩) len c3, .int .i64 lv0, .int .i64 so, .int .i64 eS] 40) = wa at hsa hrow hza hswa i0a i1a i2a i3a hcla hcxa hcta h2a h4a ⊢
      have e0 : wa.cell? ⟨S0, 0, none⟩ = some (.slice (some ⟨b3, o3, none⟩) len c3) := hrow.cell (by omega)
      have e1 : wa.cell? ⟨S0, 1, none⟩ = some (.int .i64 lv0) := hrow.cell (by omega)
      have e2 : wa.cell? ⟨S0, 2, none⟩ = some (.int .i64 so) := hrow.cell (by omega)
      have e3 : wa.cell? ⟨S0, 3, none⟩ = some (.int .i64 eS) := hrow.cell (by omega)
      have HQ4 := Lib.hid (show ∀ w4, wa.Since wa.heap.size w4 → w4.cell? ⟨qI, k * 4, none⟩ = some (.slice a4 len c4) ∧ w4.cell? ⟨qI, k * 4 + 1, none⟩ = some (.int .i64 lv0) ∧ w4.cell? ⟨qI, k * 4 + 2, none⟩ = some (.int .i64 so) ∧ w4.cell? ⟨qI, k * 4 + 3, none⟩ = some (.int .i64 eV) ∧ w4.cell? ⟨S0, 0, none⟩ = some (.slice (some ⟨b3, o3, none⟩) len c3) ∧ w4.cell? ⟨b3, o3 + (len - 1), none⟩ = some (.int .i64 (z : Int)) from fun w4 s =>
        ⟨(s.cell (World.block_lt_of_cell? _ _ i0a)).trans i0a, (s.cell (World.block_lt_of_cell? _ _ i1a)).trans i1a, (s.cell (World.block_lt_of_cell? _ _ i2a)).trans i2a, (s.cell (World.block_lt_of_cell? _ _ i3a)).trans i3a, (s.cell (World.block_lt_of_cell? _ _ e0)).trans e0, (s.cell (World.block_lt_of_cell? _ _ hcla)).trans hcla⟩)
      have hwp := wrap_pred' (d := len) (by omega) (by omega)
      have hlz : ((len - 1 : Nat) : Int) < (len : Int) := by omega
      have hlz0 : (0 : Int) ≤ ((len - 1 : Nat) : Int) := by omega
      clear i0 i1 i2 i3 c0 c1 c2 c3' hcl hcx hct hs hsa hrow hS0 hza
      go_region_held3 (fun wx => wx.cell? ⟨qI, k * 4, none⟩ = some (.slice a4 len c4) ∧ wx.cell? ⟨qI, k * 4 + 1, none⟩ = some (.int .i64 lv0) ∧ wx.cell? ⟨qI, k * 4 + 2, none⟩ = some (.int .i64 so) ∧ wx.cell? ⟨qI, k * 4 + 3, none⟩ = some (.int .i64 eV) ∧ wx.cell? ⟨S0, 0, none⟩ = some (.slice (some ⟨b3, o3, none⟩) len c3) ∧ wx.cell? ⟨b3, o3 + (len - 1), none⟩ = some (.int .i64 (z : Int))) (first | exact ⟨i0a, i1a, i2a, i3a, e0, hcla⟩ | exact HQ4.out _ ((World.Since.refl _ _).drew.alloc (Nat.le_refl _) _)) (fail)
      obtain ⟨S1, hS1⟩ : ∃ S1, S1 = wa.heap.size := ⟨_, rfl⟩
      have hsb : wa.Since wa.heap.size (wa.alloc (.cells #[.slice a4 len c4, .int .i64 lv0, .int .i64 so, .int .i64 eV] 41)).drew := ((World.Since.refl _ _).alloc (Nat.le_refl _) _ : wa.Since wa.heap.size (wa.alloc (.cells #[.slice a4 len c4, .int .i64 lv0, .int .i64 so, .int .i64 eV] 41))).drew
      have hrow : (wa.alloc (.cells #[.slice a4 len c4, .int .i64 lv0, .int .i64 so, .int .i64 eV] 41)).drew.rowIs S1 41 4 (fun i => (#[Value.slice a4 len c4, .int .i64 lv0, .int .i64 so, .int .i64 eV][i]?).getD undef) := by
        rw [hS1]
        exact (World.rowIs_alloc wa _ _ _ (fun i hi => by rw [Array.getElem?_eq_getElem hi]; rfl)).of_block rfl
      have hswb := since2 hswa hsb
      have f0 := (hsb.cell (World.block_lt_of_cell? _ _ e0)).trans e0
      have f1 := (hsb.cell (World.block_lt_of_cell? _ _ e1)).trans e1
      have f2 := (hsb.cell (World.block_lt_of_cell? _ _ e2)).trans e2
      have f3 := (hsb.cell (World.block_lt_of_cell? _ _ e3)).trans e3
      have hcxb := (hsb.cell (World.block_lt_of_cell? _ _ hcxa)).trans hcxa
      have hctb := (hsb.cell (World.block_lt_of_cell? _ _ hcta)).trans hcta
      have h2b := h2a.since hsb
      have h4b := h4a.since hsb
      rw [← hS1]
      clear h2a h4a
      generalize (wa.alloc (.cells #[.slice a4 len c4, .int .i64 lv0, .int .i64 so, .int .i64 eV] 41)).drew = wb at hsb hrow hswb f0 f1 f2 f3 hcxb hctb h2b h4b ⊢
      have j0 : wb.cell? ⟨S1, 0, none⟩ = some (.slice a4 len c4) := hrow.cell (by omega)
      have j1 : wb.cell? ⟨S1, 1, none⟩ = some (.int .i64 lv0) := hrow.cell (by omega)
      have j2 : wb.cell? ⟨S1, 2, none⟩ = some (.int .i64 so) := hrow.cell (by omega)
      have j3 : wb.cell? ⟨S1, 3, none⟩ = some (.int .i64 eV) := hrow.cell (by omega)
      rw [← HLN.out] at h2b h4b
      have h2c : Sees wb (some ⟨b3, o3, none⟩) b3 o3 len c3 (fun i => .int .i64 ((l.getD i 0 : Nat) : Int)) := h2b
      have h4c : Sees wb a4 b4 o4 len c4 (fun i => .int .i64 ((l.getD i 0 : Nat) : Int)) := h4b
      have HSB := Lib.hid (show sameB len len (fun i => ((l.getD i 0 : Nat) : Int)) (fun i => ((l.getD i 0 : Nat) : Int)) = true from decide_eq_true ⟨rfl, fun _ _ => rfl⟩)
      have HEND := Lib.hid (show ∀ nq, w3.Since w3.heap.size (wb.drewN nq) from fun nq => since_drewN hswb nq)
      have hlq : len ≤ 17179869184 := by omega
      clear e0 e1 e2 e3 i0a i1a i2a i3a hcla hcxa hcta h2b h4b hrow hS1 hsb hswa hwp hlz hlz0
      go_wp2_with fail
      refine (same_q _ hlq hlq h4c h2c).mono ?_
      rintro e w5 ⟨rfl, ⟨nq, rfl⟩⟩
      rw [HSB.out]
      have HEN2 := Lib.hid (show ∀ nq2, w3.Since w3.heap.size ((wb.drewN nq).drewN nq2) from fun nq2 => since_drewN (HEND.out nq) nq2)
      have hbl : (lv0 != lv0) = false := by simp
      have hbs2 : (so != so) = false := by simp
      go_upto_region 16 with fail
      have hcxd : (wb.drewN nq).cell? ⟨b0, o0 + z, none⟩ = some (.int .i64 xz) := hcxb
      have hctd : (wb.drewN nq).cell? ⟨Ty, z, none⟩ = some (.int .i64 tz) := hctb
      have f3d : (wb.drewN nq).cell? ⟨S0, 3, none⟩ = some (.int .i64 eS) := f3
      have j3d : (wb.drewN nq).cell? ⟨S1, 3, none⟩ = some (.int .i64 eV) := j3
      clear hcxb hctb f3 j3 f0 f1 f2 j0 j1 j2 h2c h4c
      generalize wb.drewN nq = wd at hcxd hctd f3d j3d HEN2 ⊢
      cases hin : iniB xz with
      | false =>
        have hi := hin
        have hVE := HEL.out (fun h => by rw [HXI.out, hin] at h; cases h)
        have hbb : (eV != eS) = false := by rw [hVE]; simp
        have HVE := Lib.hid hVE
        clear hin hVE
        go_big_quiet ((go_at_call 15; exact quiet_same (congrArg Value.bool hi) (isInitiator_any _ _)))
        go_wp2_with fail
        go_roundg (L.length - (k + 1))
        case rel => exact ⟨k + 1, by omega, rfl, by go_num, by exact HEN2.out _⟩
        case measure => omega
      | true =>
        have hi := hin
        by_cases htx : tz = xz
        · have hVE := HEL.out (fun _ => htx)
          have hbb : (eV != eS) = false := by rw [hVE]; simp
          have hbt : (tz != xz) = false := by rw [htx]; simp
          have HVE := Lib.hid hVE
          clear hin hVE htx
          go_big_quiet ((go_at_call 15; exact quiet_same (congrArg Value.bool hi) (isInitiator_any _ _)))
          go_wp2_with fail
          go_roundg (L.length - (k + 1))
          case rel => exact ⟨k + 1, by omega, rfl, by go_num, by exact HEN2.out _⟩
          case measure => omega
        · have hbt : (tz != xz) = true := by simpa using htx
          clear hin htx
          go_big_quiet ((go_at_call 15; exact quiet_same (congrArg Value.bool hi) (isInitiator_any _ _)))
          go_wp2_with fail
          go_roundg (L.length - (k + 1))
          case rel => exact ⟨k + 1, by omega, rfl, by go_num, by exact HEN2.out _⟩
          case measure => omega
    · obtain rfl : k = L.length := by omega
      go_wp2_with fail
      go_ret
      exact ⟨rfl, below_of_since (since2 hsi03 hs)⟩

/-! ### THE ROW's STEP -/
set_option maxRecDepth 100000 in
theorem contract (H : Type) (enc : TypeId × Value → H) (W : World) (base : Nat) (args : Array Value) (ds gs : List (DataW H)) (before : List MemPlace)
    (hval : ∀ (j : Nat) t v, Tryd.f8.params[j]? = some t → args[j]? = some v → Value.okWide Tryd.prog W .any base t v)
    (hW : DataW.Whole enc Tryd.prog Tryd.f8.params.toList Rows.fnSequencesAnswerSpec.vars false W args.toList ds gs before) (hL : laidMetH Tryd.prog Rows.fnSequencesAnswerRow.laid W) :
    Calls Tryd.prog 8 args W fun e W' => ∃ v, e = .returned v ∧ Rows.fnSequencesAnswerSpec.post enc Tryd.prog Tryd.f8 false true false false W args v W' := by
  have hW' := hW
  obtain ⟨p, q, hA0, hV, rfl, hfz, hnd⟩ := hW
  have hA : DataW.TrodAll enc Tryd.prog W 0 (fun _ => true) true Tryd.f8.params.toList args.toList ds p := hA0
  rw [Tryd.params8] at hA hval
  obtain ⟨v0, vs0, d0, ds0, p0, q0, hargs, rfl, rfl, h0, r0⟩ := trodAll_cons hA
  obtain ⟨v1, vs1, d1, ds1, p1, q1, rfl, rfl, rfl, h1, r1⟩ := trodAll_cons r0
  obtain ⟨rfl, rfl, rfl⟩ := trodAll_nil r1
  obtain rfl : args = #[v0, v1] := by cases args; simp_all
  obtain ⟨a0, len0, cap0, rfl⟩ := okWide_slice Tryd.underlying22 (hval 0 22 v0 rfl rfl)
  have k0 := h0
  have lt0 : ∀ x ∈ p0, x.block < W.heap.size := by obtain ⟨m, hm⟩ := k0; exact DataW.trod_lt m _ _ _ hm
  obtain ⟨z0, w0⟩ : ∃ zs, IsRow .i64 W a0 len0 cap0 zs := by
    obtain ⟨fuel, hf⟩ := h0
    rcases open_ints Tryd.underlying22 Tryd.underlying3 (by kernel_rfl) hf with ⟨hcs, _⟩ | ⟨x, l, c, zs, hcs, _, hl, hm, hz, _, hcell, hwz⟩
    · simp [Value.cells] at hcs
      obtain ⟨rfl, rfl, rfl⟩ := hcs
      exact ⟨[], .inl ⟨rfl, rfl, rfl, rfl⟩⟩
    · simp [Value.cells] at hcs
      obtain ⟨rfl, rfl, rfl⟩ := hcs
      exact ⟨zs, .inr ⟨_, rfl, hl, hm, by simpa using hz, hcell, hwz⟩⟩
  obtain ⟨a1, rfl, rfl, rfl, w1⟩ := open_int Tryd.underlying3 (hval 1 3 v1 rfl rfl) h1
  obtain ⟨g, tv, cs, fuel, dv, pv, rfl, hg1, hg2, hg3, hg4, rfl⟩ := trodVars_one hV
  obtain rfl : g = 0 := Option.some.inj (hg1.symm.trans gTab)
  obtain rfl : tv = 88 := Option.some.inj (hg2.symm.trans gTabType)
  have ltv : ∀ x ∈ pv, x.block < W.heap.size := DataW.trod_lt fuel _ _ _ hg4
  have hT := tab hL
  clear hA0
  refine (walk a0 len0 cap0 z0 a1 W w0 w1 hT).mono fun e W' ⟨he, bel⟩ => ?_
  subst he
  have hg4' := DataW.trod_stays (sp' := fun b => decide (b < W.heap.size)) (w' := W') (kids_book laidOut (by kernel_rfl)) (book_sized (by kernel_rfl)) (fun h => by cases h) ⟨of_decide_eq_true (by kernel_rfl), book_self 88⟩ hg4 (fun x hx => bel.same (ltv x hx)) (fun x hx => by simpa using ltv x hx)
  exact ⟨_, rfl, _, _, _, [], _, _, hW', trodAll_mk1 (shut_bool Tryd.underlying4 _), (trodAll_cons_mk (Below.trod laidOut (by kernel_rfl) (of_decide_eq_true (by kernel_rfl)) k0 bel lt0) (trodAll_cons_mk (shut_int Tryd.underlying3 w1) trodAll_mk0)), trodVars_mk1 hg1 hg2 (var?_below bel hg1 hT.lt hg3) hg4', bel.frame _, fun h => by cases h⟩

/-- A world for the witness: the table holding what its initialiser lays. -/
noncomputable def laidWorld (os : Os) : World :=
  { World.holding Tryd.prog os ⟨#[], #[], []⟩ with heap := (World.holding Tryd.prog os ⟨#[], #[], []⟩).heap.modify 0 fun
      | .cells _ t frozen => .cells (tabZ.map fun z => Value.int .u64 z).toArray t frozen
      | o => o }
theorem laid_met (os : Os) : laidMet Tryd.prog Rows.fnSequencesAnswerRow.laid ((laidWorld os).forCall (fun _ _ => 0) ⟨#[], #[.slice none 0 0, .int .i64 0], []⟩).memory :=
  laidMet_of_run' 8 (by kernel_rfl) (by kernel_rfl)
theorem reads (os : Os) {H : Type} (enc : TypeId × Value → H) : ∃ places, DataW.whole enc Tryd.prog ((laidWorld os).forCall (fun _ _ => 0) ⟨#[], #[.slice none 0 0, .int .i64 0], []⟩).memory Tryd.f8.params.toList Rows.fnSequencesAnswerSpec.vars false (#[.slice none 0 0, .int .i64 0] : Array Value).toList 8 = some ([.nil, .lit (.int .i64 0)], [Rows.laid_loop_example_pub_g01449_impl_classes], places) :=
  ⟨MemPlace.row ⟨0, 0, none⟩ 23, by kernel_rfl⟩

set_option maxRecDepth 100000 in
theorem lifted (os : Os) (started : os.Started) (H : Type) (enc : TypeId × Value → H) (F : Stop.Interp) :
    ReturnsInHanded {} Tryd.checked os 8 .any ((OpenSpec.ofChange Rows.fnSequencesAnswerSpec).preRow enc Tryd.prog Tryd.f8 Rows.fnSequencesAnswerRow.domain false Rows.fnSequencesAnswerRow.laid) (((OpenSpec.ofChange Rows.fnSequencesAnswerSpec).at F).post enc Tryd.prog Tryd.f8 false true false false) := by
  obtain ⟨places, hx⟩ := reads os enc
  refine returnsInHanded_of_row (C := Tryd.checked) (s := OpenSpec.ofChange Rows.fnSequencesAnswerSpec) own started (by kernel_rfl) Tryd.func8
    (witness_row_at (enc := enc) (C := Tryd.checked) false (laidWorld os) #[.slice none 0 0, .int .i64 0] rfl (by kernel_rfl) (by kernel_rfl) (by kernel_rfl)
      (OpenSpec.preRow_of_cond 8 hx (by kernel_rfl) (fun k hk => by cases hk) (by kernel_rfl) (laid_met os))) ?_
  intro W base args ds gs before hval hW _ _ _ hL _ _
  exact contract H enc W base args ds gs before hval hW hL

theorem said : Rows.FnSequencesAnswerSaid :=
  OpenClaim.holds_of_cond 8 Tryd.f8 rfl rfl rfl rfl rfl rfl rfl ⟨rfl, rfl, rfl, rfl, rfl⟩ rfl rfl rfl rfl rfl (by kernel_rfl) Tryd.func8 (by kernel_rfl)
    (of_decide_eq_true (by kernel_rfl)) (by unfold Func.isWrapper; first | (rw [if_pos (by decide +kernel)]; kernel_rfl) | (rw [if_neg (by decide +kernel)]; exact ⟨rfl, rfl⟩))
    (fun os started H enc _ F => by rw [OpenClaim.pre_eq_preRow]; exact lifted os started H enc F)

theorem plain (f : FuncId) (fn : Func) (hf : Tryd.pinned.checked.prog.funcNamed Rows.fnSequencesAnswerRow.func = some f) (hfn : Tryd.pinned.checked.prog.funcs[f]? = some fn) :
    false = Tryd.pinned.checked.prog.looks [] ∧ ∀ (j : Nat) t, fn.params[j]? = some t → Tryd.pinned.checked.prog.wantsStandIn t = false := by
  obtain rfl : f = 8 := Option.some.inj ((show Tryd.prog.funcNamed Rows.fnSequencesAnswerRow.func = some 8 by kernel_rfl).symm.trans hf) |>.symm
  obtain rfl : fn = Tryd.f8 := (Option.some.inj (Tryd.func8.symm.trans hfn)).symm
  refine ⟨by kernel_rfl, fun j t ht => ?_⟩
  rw [Tryd.params8] at ht
  have ht2 : t = 22 ∨ t = 3 := by simpa using Array.mem_of_getElem? ht
  rcases ht2 with rfl | rfl
  · exact (show Tryd.prog.wantsStandIn 22 = false by kernel_rfl)
  · exact (show Tryd.prog.wantsStandIn 3 = false by kernel_rfl)

/-- THE CARD. -/
theorem proved : Rows.FnSequencesAnswerCardSaid :=
  Claim7.holds_tied_plain_at .later [] _ _ _ _ said (fun _ h => by cases h) (by kernel_rfl) (fun _ h => by cases h) fnSequencesAnswer_row_tie rfl ⟨rfl, rfl⟩ (by kernel_rfl) rfl plain (by kernel_rfl)
#print axioms proved
end Go.Proofs.YtjelgbfgciaapaaDoor.fnSequencesAnswer
