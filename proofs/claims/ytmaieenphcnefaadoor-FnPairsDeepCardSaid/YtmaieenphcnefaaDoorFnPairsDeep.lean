/- The law FnPairsDeep, its tied card: for every input the call returns true, and each argument and the table of classes read afterwards as before. The row's one condition, that the table starts as the program's text lays it, is tied to the text by the given tie. -/
import Derived.Test.YtmaieenphcnefaaDoorCards
import Derived.Test.YtmaieenphcnefaaDoorTie
import Derived.Test.YtmaieenphcnefaaDoorDeepP
import Derived.Test.YtmaieenphcnefaaDoorLL2
import Derived.WalkKit
import Derived.ProofKit
import Derived.OpenShut
import Derived.ShutString
import Derived.ChangeOld
import Derived.ChangeVars
import Derived.WalkSmall
import Derived.Below
import Derived.Deep.DeepHandedRow
import Derived.Lib.LaidTab
namespace Go.Proofs.YtmaieenphcnefaaDoor.fnPairsDeep
open Go.ChangeShapes Go.WideShapes Go.ChangeAt Go.RowKit
open Go.ChangeMaps (open_string shut_string)
set_option linter.unusedVariables false

theorem own : ownKnob Tryd.prog.godebug = none := by kernel_rfl
theorem laidOut : laidOutB Tryd.prog = true := by kernel_rfl
/-- The table's name. -/
def tabName : String := Rows.fnPairsDeepSpec.vars.headD ""
theorem gTab : Tryd.prog.globalNamed tabName = some 0 := by kernel_rfl
theorem gTabType : (Tryd.prog.globals[0]?).map (·.type) = some 81 := by kernel_rfl
theorem cellsT : Tryd.prog.cellsOf 81 = 23 := by kernel_rfl
theorem cellsC : Tryd.prog.cellsOf 56 = 1 := by kernel_rfl
def tabZ : List Int := [0, 1, 2, 3, 4, 5, 6, 7, 8, 9, 10, 11, 12, 13, 16, 17, 18, 19, 20, 21, 22, 23, 24]

/-- What the row's list gives. -/
theorem table {W : World} (h : laidMetH Tryd.prog Rows.fnPairsDeepRow.laid W) : Lib.TabIs Tryd.prog W tabName .u64 tabZ :=
  Lib.tabIs_of_head (rest := []) gTab gTabType Tryd.underlying81 Tryd.underlying56 cellsC cellsT h
theorem tab {W : World} (h : laidMetH Tryd.prog Rows.fnPairsDeepRow.laid W) : Tab W := fun i hi => by
  have h1 := (table h).cell gTab i (by simpa [tabZ] using hi)
  rw [h1]
  congr 2
  have : ∀ j : Fin 23, tabZ.getD j.val 0 = cls (j.val : Int) := by decide
  exact this ⟨i, hi⟩

/-- What the walk is told of a slice of integers that came in. -/
def IsRow (k : IntKind) (w : World) (a : Option Addr) (len cap : Nat) (zs : List Int) : Prop :=
  (a = none ∧ len = 0 ∧ cap = 0 ∧ zs = []) ∨
  ∃ x, a = some x ∧ len ≤ cap ∧ cap ≤ maxLen ∧ zs.length = cap ∧ (∀ i, i < zs.length → w.cell? (x.add i) = some (.int k (zs.getD i 0))) ∧ ∀ n ∈ zs, (Lit.int k n).wf = true

set_option maxHeartbeats 4000000 in
set_option maxRecDepth 100000 in
theorem walk (a0 : Int) (w : World) (w0 : (Lit.int .i64 a0).wf = true) (ht : Tab w) :
    Calls Tryd.prog 4 #[.int .i64 a0] w fun e w' => e = .returned (.bool true) ∧ Below w.heap.size w w' := by
  clear w0
  by_cases h1 : a0 < 1
  case pos =>
    go_enter Tryd.func4, Tryd.ntmps4
    go_wp2_with fail
    go_ret
    exact ⟨rfl, Below.refl _ _⟩
  by_cases h2 : 1000 < a0
  case pos =>
    go_enter Tryd.func4, Tryd.ntmps4
    go_wp2_with fail
    go_ret
    exact ⟨rfl, Below.refl _ _⟩
  obtain ⟨d, rfl⟩ := Int.eq_ofNat_of_zero_le (show 0 ≤ a0 by omega)
  have hd1 : 1 ≤ d := by omega
  have hd2 : d ≤ 1000 := by omega
  have hz0 : ∀ o, (w.alloc o).heap.size = w.heap.size + 1 := fun o => World.size_alloc _ _
  have hs1 : w.Since w.heap.size (w.alloc (.cells #[] 3)) := (World.Since.refl _ _).alloc (Nat.le_refl _) _
  have hs2 : w.Since w.heap.size ((w.alloc (.cells #[] 3)).alloc (.cells #[] 3)) := hs1.alloc (by simp) _
  have hs3 : w.Since w.heap.size (((w.alloc (.cells #[] 3)).alloc (.cells #[] 3)).alloc (.cells #[] 3)) := hs2.alloc (by simp; omega) _
  have hs4 : w.Since w.heap.size ((((w.alloc (.cells #[] 3)).alloc (.cells #[] 3)).alloc (.cells #[] 3)).alloc (.cells #[] 22)) := hs3.alloc (by simp; omega) _
  have e3 := Gr.empty w w.heap.size 3 (fun _ => .int .i64 10) (Nat.le_refl _)
  have e4 := Gr.empty (w.alloc (.cells #[] 3)) w.heap.size 3 (fun i => .int .i64 (kdD d i)) (by simp)
  have e5 := Gr.empty ((w.alloc (.cells #[] 3)).alloc (.cells #[] 3)) w.heap.size 3 (fun _ => .int .i64 40) (by simp; omega)
  have e6 := Gr.empty (((w.alloc (.cells #[] 3)).alloc (.cells #[] 3)).alloc (.cells #[] 3)) w.heap.size 22 (fun _ => .slice none 0 0) (by simp; omega)
  simp only [World.size_alloc] at e4 e5 e6
  have H0 : Hid (Side4 w d 0 (.slice (some ⟨w.heap.size, 0, none⟩) 0 0) (.slice (some ⟨w.heap.size + 1, 0, none⟩) 0 0) (.slice (some ⟨w.heap.size + 1 + 1, 0, none⟩) 0 0) (.slice (some ⟨w.heap.size + 1 + 1 + 1, 0, none⟩) 0 0) ((((w.alloc (.cells #[] 3)).alloc (.cells #[] 3)).alloc (.cells #[] 3)).alloc (.cells #[] 22))) :=
    ⟨((e3.alloc _).alloc _).alloc _, (e4.alloc _).alloc _, e5.alloc _, e6, fun k h => by simp [Value.ownBlock] at h ⊢; omega, fun k h => by simp [Value.ownBlock] at h ⊢; omega, fun k h => by simp [Value.ownBlock] at h ⊢; omega, fun k h => by simp [Value.ownBlock] at h ⊢; omega, fun k h => by simp [Value.ownBlock] at h ⊢; omega, fun k h => by simp [Value.ownBlock] at h ⊢; omega, hs4⟩
  clear hz0 hs1 hs2 hs3 hs4 e3 e4 e5 e6
  go_enter Tryd.func4, Tryd.ntmps4
  go_wp2_with fail
  go_loopg [3, 4, 5, 7, 8] (2 * d) (fun g s3 s4 s5 i _ wr => ∃ k : Nat, k ≤ 2 * d ∧ g = 2 * d - k ∧ i = .int .i64 k ∧ Hid (Side4 w d k s3 s4 s5 (.slice (some ⟨w.heap.size + 1 + 1 + 1, 0, none⟩) 0 0) wr))
  case atStart => exact ⟨0, Nat.zero_le _, rfl, rfl, H0⟩
  case round =>
    clear H0
    obtain ⟨k, hk, rfl, rfl, HS⟩ := hrel
    by_cases hkn : k < 2 * d
    · have hkz : (k : Int) < 2 * (d : Int) := by omega
      by_cases hkd' : d ≤ k
      · have hkz' : (d : Int) ≤ (k : Int) := by omega
        have HK := Lib.hid (show kdD d k = 2 by unfold kdD; rw [if_neg (by omega)])
        go_wp2_with (at_builtin; go_must (refine wpList_push wr rfl _ _ 22 rfl w.heap.size 3 (.int .i64 0) 8 Tryd.underlying22 Tryd.infoInt rfl _ _ _ _ (by rfl) HS.out.g3 rfl rfl (by omega) (by omega) HS.out.si.size ?_))
        intro v3 wa hg3 hgr3 hat3
        have G3 := Lib.hid (hg3.congr (g := fun _ => .int .i64 10) (fun i _ => by simp))
        have G4 := Lib.hid (HS.out.g4.sideG HS.out.a34 hgr3)
        have G5 := Lib.hid (HS.out.g5.sideG HS.out.a35 hgr3)
        have G6 := Lib.hid (HS.out.g6.sideG HS.out.a36 hgr3)
        have A4 := Lib.hid (HS.out.g4.sideA HS.out.a34 hat3)
        have A5 := Lib.hid (HS.out.g5.sideA HS.out.a35 hat3)
        have A6 := Lib.hid (HS.out.g6.sideA HS.out.a36 hat3)
        have SI := Lib.hid ((HS.out.si.alloc HS.out.si.size (.cells #[.int .i64 10] 3)).grown hgr3 (by rw [World.size_alloc]; have := HS.out.si.size; omega) (fun q hq => (HS.out.g3.ge q hq).1))
        clear hg3 hgr3 hat3
        go_wp2_with (at_builtin; go_must (refine wpList_push wa rfl _ _ 22 rfl w.heap.size 3 (.int .i64 0) 8 Tryd.underlying22 Tryd.infoInt rfl _ _ _ _ (by rfl) G4.out rfl rfl (by omega) (by omega) SI.out.size ?_))
        intro v4 wb hg4 hgr4 hat4
        have G4' := Lib.hid (hg4.congr (g := fun i => .int .i64 (kdD d i)) (fun i _ => by
          by_cases e : i = k
          · rw [if_pos e, e, HK.out]
          · rw [if_neg e]))
        have G3' := Lib.hid (G3.out.sideG A4.out.symm hgr4)
        have G5' := Lib.hid (G5.out.sideG HS.out.a45 hgr4)
        have G6' := Lib.hid (G6.out.sideG HS.out.a46 hgr4)
        have A4' := Lib.hid (G3.out.sideA A4.out.symm hat4)
        have A45 := Lib.hid (G5.out.sideA HS.out.a45 hat4)
        have A46 := Lib.hid (G6.out.sideA HS.out.a46 hat4)
        have SI' := Lib.hid ((SI.out.alloc SI.out.size (.cells #[.int .i64 2] 3)).grown hgr4 (by rw [World.size_alloc]; have := SI.out.size; omega) (fun q hq => (G4.out.ge q hq).1))
        clear hg4 hgr4 hat4
        go_wp2_with (at_builtin; go_must (refine wpList_push wb rfl _ _ 22 rfl w.heap.size 3 (.int .i64 0) 8 Tryd.underlying22 Tryd.infoInt rfl _ _ _ _ (by rfl) G5'.out rfl rfl (by omega) (by omega) SI'.out.size ?_))
        intro v5 wc hg5 hgr5 hat5
        have hS : Side4 w d (k + 1) v3 v4 v5 (.slice (some ⟨w.heap.size + 1 + 1 + 1, 0, none⟩) 0 0) wc :=
          ⟨G3'.out.sideG A5.out.symm hgr5, G4'.out.sideG A45.out.symm hgr5, hg5.congr (fun i _ => by simp), G6'.out.sideG HS.out.a56 hgr5, A4'.out.symm, (G3'.out.sideA A5.out.symm hat5).symm, A6.out, (G4'.out.sideA A45.out.symm hat5).symm, A46.out, G6'.out.sideA HS.out.a56 hat5,
            (SI'.out.alloc SI'.out.size (.cells #[.int .i64 40] 3)).grown hgr5 (by rw [World.size_alloc]; have := SI'.out.size; omega) (fun q hq => (G5'.out.ge q hq).1)⟩
        have HS5 := Lib.hid hS
        clear hS hg5 hgr5 hat5 HS
        go_wp2_with fail
        go_roundg (2 * d - (k + 1))
        case rel => exact ⟨k + 1, by omega, rfl, by go_num, HS5⟩
        case measure => omega
      · have hkz' : ¬ ((d : Int) ≤ (k : Int)) := by omega
        have HK := Lib.hid (show kdD d k = 1 by unfold kdD; rw [if_pos (by omega)])
        go_wp2_with (at_builtin; go_must (refine wpList_push wr rfl _ _ 22 rfl w.heap.size 3 (.int .i64 0) 8 Tryd.underlying22 Tryd.infoInt rfl _ _ _ _ (by rfl) HS.out.g3 rfl rfl (by omega) (by omega) HS.out.si.size ?_))
        intro v3 wa hg3 hgr3 hat3
        have G3 := Lib.hid (hg3.congr (g := fun _ => .int .i64 10) (fun i _ => by simp))
        have G4 := Lib.hid (HS.out.g4.sideG HS.out.a34 hgr3)
        have G5 := Lib.hid (HS.out.g5.sideG HS.out.a35 hgr3)
        have G6 := Lib.hid (HS.out.g6.sideG HS.out.a36 hgr3)
        have A4 := Lib.hid (HS.out.g4.sideA HS.out.a34 hat3)
        have A5 := Lib.hid (HS.out.g5.sideA HS.out.a35 hat3)
        have A6 := Lib.hid (HS.out.g6.sideA HS.out.a36 hat3)
        have SI := Lib.hid ((HS.out.si.alloc HS.out.si.size (.cells #[.int .i64 10] 3)).grown hgr3 (by rw [World.size_alloc]; have := HS.out.si.size; omega) (fun q hq => (HS.out.g3.ge q hq).1))
        clear hg3 hgr3 hat3
        go_wp2_with (at_builtin; go_must (refine wpList_push wa rfl _ _ 22 rfl w.heap.size 3 (.int .i64 0) 8 Tryd.underlying22 Tryd.infoInt rfl _ _ _ _ (by rfl) G4.out rfl rfl (by omega) (by omega) SI.out.size ?_))
        intro v4 wb hg4 hgr4 hat4
        have G4' := Lib.hid (hg4.congr (g := fun i => .int .i64 (kdD d i)) (fun i _ => by
          by_cases e : i = k
          · rw [if_pos e, e, HK.out]
          · rw [if_neg e]))
        have G3' := Lib.hid (G3.out.sideG A4.out.symm hgr4)
        have G5' := Lib.hid (G5.out.sideG HS.out.a45 hgr4)
        have G6' := Lib.hid (G6.out.sideG HS.out.a46 hgr4)
        have A4' := Lib.hid (G3.out.sideA A4.out.symm hat4)
        have A45 := Lib.hid (G5.out.sideA HS.out.a45 hat4)
        have A46 := Lib.hid (G6.out.sideA HS.out.a46 hat4)
        have SI' := Lib.hid ((SI.out.alloc SI.out.size (.cells #[.int .i64 1] 3)).grown hgr4 (by rw [World.size_alloc]; have := SI.out.size; omega) (fun q hq => (G4.out.ge q hq).1))
        clear hg4 hgr4 hat4
        go_wp2_with (at_builtin; go_must (refine wpList_push wb rfl _ _ 22 rfl w.heap.size 3 (.int .i64 0) 8 Tryd.underlying22 Tryd.infoInt rfl _ _ _ _ (by rfl) G5'.out rfl rfl (by omega) (by omega) SI'.out.size ?_))
        intro v5 wc hg5 hgr5 hat5
        have hS : Side4 w d (k + 1) v3 v4 v5 (.slice (some ⟨w.heap.size + 1 + 1 + 1, 0, none⟩) 0 0) wc :=
          ⟨G3'.out.sideG A5.out.symm hgr5, G4'.out.sideG A45.out.symm hgr5, hg5.congr (fun i _ => by simp), G6'.out.sideG HS.out.a56 hgr5, A4'.out.symm, (G3'.out.sideA A5.out.symm hat5).symm, A6.out, (G4'.out.sideA A45.out.symm hat5).symm, A46.out, G6'.out.sideA HS.out.a56 hat5,
            (SI'.out.alloc SI'.out.size (.cells #[.int .i64 40] 3)).grown hgr5 (by rw [World.size_alloc]; have := SI'.out.size; omega) (fun q hq => (G5'.out.ge q hq).1)⟩
        have HS5 := Lib.hid hS
        clear hS hg5 hgr5 hat5 HS
        go_wp2_with fail
        go_roundg (2 * d - (k + 1))
        case rel => exact ⟨k + 1, by omega, rfl, by go_num, HS5⟩
        case measure => omega
    · obtain rfl : k = 2 * d := by omega
      have hzk : w.heap.size + 1 + 1 + 1 < wr.heap.size := by
        have := (HS.out.g6.ge _ rfl).2; exact this
      have H0 := Lib.hid (LL.nil _ _ _ _ HS.out.g6)
      obtain ⟨lim, hlim⟩ : ∃ lim, lim = if d ≤ 63 then d else 0 := ⟨_, rfl⟩
      have HLIM := Lib.hid hlim
      have hl1 : lim ≤ d := by rw [hlim]; split <;> omega
      obtain ⟨V6, hV6⟩ : ∃ V6 : Value, V6 = .slice (some ⟨w.heap.size + 1 + 1 + 1, 0, none⟩) 0 0 := ⟨_, rfl⟩
      have HV6 := Lib.hid hV6
      have hob0 : ∀ q, (Value.slice (some ⟨w.heap.size + 1 + 1 + 1, 0, none⟩) 0 0).ownBlock = some q → q = w.heap.size + 1 + 1 + 1 ∨ wr.heap.size ≤ q := fun q hq => by simp only [Value.ownBlock, Option.some.injEq] at hq; exact .inl hq.symm
      have HOB0 := Lib.hid hob0
      clear hlim hV6 hob0
      go_wp2_with fail
      go_loopg [6, 9] lim (fun g out i w2 => ∃ m : Nat, m ≤ lim ∧ g = lim - m ∧ i = .int .i64 m ∧ Hid (LL w2 w.heap.size out (deepWant d m)) ∧ Hid (∀ q, out.ownBlock = some q → q = w.heap.size + 1 + 1 + 1 ∨ wr.heap.size ≤ q) ∧ Hid (Kp (fun q => q = w.heap.size + 1 + 1 + 1) wr w2))
      case atStart => exact ⟨0, Nat.zero_le _, rfl, rfl, H0, HOB0, Kp.refl _ _⟩
      case round =>
        clear H0 HOB0
        rename World => w2
        obtain ⟨m, hm, rfl, rfl, HL, HOB, HKP⟩ := hrel
        by_cases hml : m < lim
        · have hd63 : d ≤ 63 := by
            apply Classical.byContradiction
            intro h
            have := HLIM.out
            rw [if_neg h] at this
            omega
          have hmd : m < d := by omega
          have hmz : (m : Int) < (d : Int) := by omega
          have hdz : (d : Int) ≤ 63 := by omega
          obtain ⟨C, hC⟩ : ∃ C, C = 2 * d - 1 - m := ⟨_, rfl⟩
          have hCz : 2 * (d : Int) - 1 - (m : Int) = (C : Int) := by omega
          have HW := Lib.hid (deepWant_succ d m)
          rw [← hC] at HW
          have HTL := Lib.hid (deepWant_len d m)
          obtain ⟨TK, hTK⟩ : ∃ TK, TK = deepWant d m := ⟨_, rfl⟩
          rw [← hTK] at HL HW HTL
          have hgt := Gr.two w2 m C
          rw [← hCz] at hgt
          have hz2 : wr.heap.size ≤ w2.heap.size := HKP.out.size
          have hsB : w2.Since w2.heap.size (w2.alloc (.cells #[.int .i64 ((m : Nat) : Int), .int .i64 (2 * (d : Int) - 1 - (m : Int))] 3)) := (World.Since.refl _ _).alloc (Nat.le_refl _) _
          obtain ⟨f4, hP⟩ := HL.out.beside (r := [m, C]) hsB hgt (by omega)
          have HP := Lib.hid hP
          have HCC := Lib.hid hC
          clear hTK hgt hsB hP hC hCz
          go_wp2_with (at_builtin; go_must (refine wpList_push (w2.alloc (.cells #[.int .i64 ((m : Nat) : Int), .int .i64 (2 * (d : Int) - 1 - (m : Int))] 3)) rfl _ _ 27 rfl w.heap.size 22 (.slice none 0 0) 24 Tryd.underlying27 Tryd.infoInts rfl _ _ _ _ (by rfl) HP.out.outer (by rw [World.size_alloc]; rfl) rfl (by rw [HTL.out]; omega) (by omega) (by rw [World.size_alloc]; omega) ?_))
          intro v' w5 hg5 hgr5 hat5
          have hL5 := (HP.out.pushOuter hg5 hgr5 (by rw [World.size_alloc]; exact hat5)).ll
          have HL5 : Hid (LL w5 w.heap.size v' (deepWant d (m + 1))) := by rw [HW.out]; exact hL5
          have HK5 := Lib.hid (((HKP.out.alloc _).alloc _).grown hgr5 (fun q hq => HOB.out q hq))
          have HO5 : Hid (∀ q, v'.ownBlock = some q → q = w.heap.size + 1 + 1 + 1 ∨ wr.heap.size ≤ q) := fun q hq => by
            rcases hat5 with e | e
            · exact HOB.out q (by rw [← e]; exact hq)
            · rw [e] at hq
              simp only [Option.some.injEq] at hq
              right; omega
          clear hg5 hgr5 hat5 hL5
          go_wp2_with fail
          go_roundg (lim - (m + 1))
          case rel => exact ⟨m + 1, by omega, rfl, by go_num, HL5, HO5, HK5⟩
          case measure => omega
        · obtain rfl : m = lim := by omega
          have hg3 := HS.out.g3.kept' (w' := w2) (fun q hq => HKP.out.block q (HS.out.g3.ge q hq).2 (fun e => HS.out.a36 q hq (by rw [e]; rfl)))
          have hg4 := HS.out.g4.kept' (w' := w2) (fun q hq => HKP.out.block q (HS.out.g4.ge q hq).2 (fun e => HS.out.a46 q hq (by rw [e]; rfl)))
          have hg5 := HS.out.g5.kept' (w' := w2) (fun q hq => HKP.out.block q (HS.out.g5.ge q hq).2 (fun e => HS.out.a56 q hq (by rw [e]; rfl)))
          obtain ⟨ao3, c3, hv3⟩ := hg3.len
          obtain ⟨ao4, c4, hv4⟩ := hg4.len
          obtain ⟨ao5, c5, hv5⟩ := hg5.len
          have HSI := Lib.hid (since_kp HS.out.si HKP.out HS.out.si.size (fun q hq => by rw [hq]; omega))
          clear HS HOB HKP
          subst hv3
          subst hv4
          subst hv5
          obtain ⟨b3, _, hx⟩ := hg3.see
          obtain ⟨b4, _, hk⟩ := hg4.see
          obtain ⟨b5, _, hv⟩ := hg5.see
          have ht2 := ht.since HSI.out
          have HPP := Lib.hid (deep_pairs (d := d) (vl := fun _ => 40) (nn := fun _ => decide (cls 10 = 10)) hd1 (fun _ => by decide) (fun _ => rfl))
          rw [← HLIM.out] at HPP
          clear hg3 hg4 hg5
          have hcast : Hid ((2 * (d : Int)) = ((2 * d : Nat) : Int)) := by show _ = _; omega
          have hpl := implPairs_any (x := fun _ => 10) w2 ht2 (show 2 * d ≤ 2147483647 by omega) (show 0 < 2 * d by omega) hx hk hv (fun j _ => by unfold kdD; split <;> omega) (fun j _ => by omega)
          change Calls _ _ _ _ (RetLL w2 (pairLists (prs (bk (kdD d) (fun _ => 40) (fun _ => decide (cls 10 = 10)) (2 * d)).cl (2 * d)))) at hpl
          rw [HPP.out] at hpl
          have HIP := Lib.hid hpl
          clear hpl ht2 hx hk hv
          have HLD := Lib.hid (deepWant_len d m)
          have HL2 := Lib.hid (show ∀ j, j < (deepWant d m).length → ((deepWant d m).getD j []).length ≤ 17179869184 from fun j hj => by
            rw [deepWant_len] at hj
            unfold deepWant
            rw [List.getD_eq_getElem?_getD, List.getElem?_map, List.getElem?_range hj]; simp)
          obtain ⟨R, hR⟩ : ∃ R, R = deepWant d m := ⟨_, rfl⟩
          rw [← hR] at HIP HLD HL2 HL
          clear hR HPP
          obtain ⟨ao6, c6, hu6⟩ := HL.out.form
          subst hu6
          have hdl : d ≤ 63 ∧ m = d ∨ 63 < d ∧ m = 0 := by
            have := HLIM.out
            by_cases e : d ≤ 63
            · rw [if_pos e] at this; left; exact ⟨e, this⟩
            · rw [if_neg e] at this; right; exact ⟨by omega, this⟩
          rcases hdl with ⟨e1, e2⟩ | ⟨e1, e2⟩
          · have hz1 : ¬ ((m : Int) < (d : Int)) := by omega
            go_wp2_with fail
            refine HIP.out.mono ?_
            rintro e w3 ⟨v7, rfl, hl7, hsi7⟩
            have hl6 := HL.out.since hsi7
            have hsi8 := HSI.out.trans (since_mono hsi7 HSI.out.size)
            obtain ⟨ao7, c7, rfl⟩ := hl7.form
            obtain ⟨_, b6, _, h6⟩ := hl6.sees
            obtain ⟨_, b7, _, h7⟩ := hl7.sees
            clear hl6 hl7 HIP
            go_wp2_with fail
            refine (sameLists_any _ (by rw [HLD.out]; omega) HL2.out h7 h6).mono ?_
            rintro e w4 ⟨rfl, hsi9⟩
            go_wp2_with fail
            go_ret
            exact ⟨rfl, below_of_since (since2 hsi8 hsi9)⟩
          · have hz1 : (m : Int) < (d : Int) := by omega
            have hz2 : ¬ ((d : Int) ≤ 63) := by omega
            go_wp2_with fail
            refine HIP.out.mono ?_
            rintro e w3 ⟨v7, rfl, hl7, hsi7⟩
            have hl6 := HL.out.since hsi7
            have hsi8 := HSI.out.trans (since_mono hsi7 HSI.out.size)
            obtain ⟨ao7, c7, rfl⟩ := hl7.form
            obtain ⟨_, b6, _, h6⟩ := hl6.sees
            obtain ⟨_, b7, _, h7⟩ := hl7.sees
            clear hl6 hl7 HIP
            go_wp2_with fail
            refine (sameLists_any _ (by rw [HLD.out]; omega) HL2.out h7 h6).mono ?_
            rintro e w4 ⟨rfl, hsi9⟩
            go_wp2_with fail
            go_ret
            exact ⟨rfl, below_of_since (since2 hsi8 hsi9)⟩

/-! ### THE ROW's STEP -/
set_option maxRecDepth 100000 in
theorem contract (H : Type) (enc : TypeId × Value → H) (W : World) (base : Nat) (args : Array Value) (ds gs : List (DataW H)) (before : List MemPlace)
    (hval : ∀ (j : Nat) t v, Tryd.f4.params[j]? = some t → args[j]? = some v → Value.okWide Tryd.prog W .any base t v)
    (hW : DataW.Whole enc Tryd.prog Tryd.f4.params.toList Rows.fnPairsDeepSpec.vars false W args.toList ds gs before) (hL : laidMetH Tryd.prog Rows.fnPairsDeepRow.laid W) :
    Calls Tryd.prog 4 args W fun e W' => ∃ v, e = .returned v ∧ Rows.fnPairsDeepSpec.post enc Tryd.prog Tryd.f4 false true false false W args v W' := by
  have hW' := hW
  obtain ⟨p, q, hA0, hV, rfl, hfz, hnd⟩ := hW
  have hA : DataW.TrodAll enc Tryd.prog W 0 (fun _ => true) true Tryd.f4.params.toList args.toList ds p := hA0
  rw [Tryd.params4] at hA hval
  obtain ⟨v0, vs0, d0, ds0, p0, q0, hargs, rfl, rfl, h0, r0⟩ := trodAll_cons hA
  obtain ⟨rfl, rfl, rfl⟩ := trodAll_nil r0
  obtain rfl : args = #[v0] := by cases args; simp_all
  obtain ⟨a0, rfl, rfl, rfl, w0⟩ := open_int Tryd.underlying3 (hval 0 3 v0 rfl rfl) h0
  obtain ⟨g, tv, cs, fuel, dv, pv, rfl, hg1, hg2, hg3, hg4, rfl⟩ := trodVars_one hV
  obtain rfl : g = 0 := Option.some.inj (hg1.symm.trans gTab)
  obtain rfl : tv = 81 := Option.some.inj (hg2.symm.trans gTabType)
  have ltv : ∀ x ∈ pv, x.block < W.heap.size := DataW.trod_lt fuel _ _ _ hg4
  have hT := tab hL
  clear hA0
  refine (walk a0 W w0 hT).mono fun e W' ⟨he, bel⟩ => ?_
  subst he
  have hg4' := DataW.trod_stays (sp' := fun b => decide (b < W.heap.size)) (w' := W') (kids_book laidOut (by kernel_rfl)) (book_sized (by kernel_rfl)) (fun h => by cases h) ⟨of_decide_eq_true (by kernel_rfl), book_self 81⟩ hg4 (fun x hx => bel.same (ltv x hx)) (fun x hx => by simpa using ltv x hx)
  exact ⟨_, rfl, _, _, _, [], _, _, hW', trodAll_mk1 (shut_bool Tryd.underlying4 _), (trodAll_cons_mk (shut_int Tryd.underlying3 w0) trodAll_mk0), trodVars_mk1 hg1 hg2 (var?_below bel hg1 hT.lt hg3) hg4', bel.frame _, fun h => by cases h⟩

/-- A world for the witness: the table holding what its initialiser lays. -/
noncomputable def laidWorld (os : Os) : World :=
  { World.holding Tryd.prog os ⟨#[], #[], []⟩ with heap := (World.holding Tryd.prog os ⟨#[], #[], []⟩).heap.modify 0 fun
      | .cells _ t frozen => .cells (tabZ.map fun z => Value.int .u64 z).toArray t frozen
      | o => o }
theorem laid_met (os : Os) : laidMet Tryd.prog Rows.fnPairsDeepRow.laid ((laidWorld os).forCall (fun _ _ => 0) ⟨#[], #[.int .i64 0], []⟩).memory :=
  laidMet_of_run' 8 (by kernel_rfl) (by kernel_rfl)
theorem reads (os : Os) {H : Type} (enc : TypeId × Value → H) : ∃ places, DataW.whole enc Tryd.prog ((laidWorld os).forCall (fun _ _ => 0) ⟨#[], #[.int .i64 0], []⟩).memory Tryd.f4.params.toList Rows.fnPairsDeepSpec.vars false (#[.int .i64 0] : Array Value).toList 8 = some ([.lit (.int .i64 0)], [Rows.laid_loop_example_pub_g01449_impl_classes], places) :=
  ⟨MemPlace.row ⟨0, 0, none⟩ 23, by kernel_rfl⟩

set_option maxRecDepth 100000 in
theorem lifted (os : Os) (started : os.Started) (H : Type) (enc : TypeId × Value → H) (F : Stop.Interp) :
    ReturnsInHanded {} Tryd.checked os 4 .any ((OpenSpec.ofChange Rows.fnPairsDeepSpec).preRow enc Tryd.prog Tryd.f4 Rows.fnPairsDeepRow.domain false Rows.fnPairsDeepRow.laid) (((OpenSpec.ofChange Rows.fnPairsDeepSpec).at F).post enc Tryd.prog Tryd.f4 false true false false) := by
  obtain ⟨places, hx⟩ := reads os enc
  refine returnsInHanded_of_row (C := Tryd.checked) (s := OpenSpec.ofChange Rows.fnPairsDeepSpec) own started (by kernel_rfl) Tryd.func4
    (witness_row_at (enc := enc) (C := Tryd.checked) false (laidWorld os) #[.int .i64 0] rfl (by kernel_rfl) (by kernel_rfl) (by kernel_rfl)
      (OpenSpec.preRow_of_cond 8 hx (by kernel_rfl) (fun k hk => by cases hk) (by kernel_rfl) (laid_met os))) ?_
  intro W base args ds gs before hval hW _ _ _ hL _ _
  exact contract H enc W base args ds gs before hval hW hL

theorem said : Rows.FnPairsDeepSaid :=
  OpenClaim.holds_of_cond 4 Tryd.f4 rfl rfl rfl rfl rfl rfl rfl ⟨rfl, rfl, rfl, rfl, rfl⟩ rfl rfl rfl rfl rfl (by kernel_rfl) Tryd.func4 (by kernel_rfl)
    (of_decide_eq_true (by kernel_rfl)) (by unfold Func.isWrapper; first | (rw [if_pos (by decide +kernel)]; kernel_rfl) | (rw [if_neg (by decide +kernel)]; exact ⟨rfl, rfl⟩))
    (fun os started H enc _ F => by rw [OpenClaim.pre_eq_preRow]; exact lifted os started H enc F)

theorem plain (f : FuncId) (fn : Func) (hf : Tryd.pinned.checked.prog.funcNamed Rows.fnPairsDeepRow.func = some f) (hfn : Tryd.pinned.checked.prog.funcs[f]? = some fn) :
    true = Tryd.pinned.checked.prog.looks [] ∧ ∀ (j : Nat) t, fn.params[j]? = some t → Tryd.pinned.checked.prog.wantsStandIn t = false := by
  obtain rfl : f = 4 := Option.some.inj ((show Tryd.prog.funcNamed Rows.fnPairsDeepRow.func = some 4 by kernel_rfl).symm.trans hf) |>.symm
  obtain rfl : fn = Tryd.f4 := (Option.some.inj (Tryd.func4.symm.trans hfn)).symm
  refine ⟨by kernel_rfl, fun j t ht => ?_⟩
  rw [Tryd.params4] at ht
  obtain rfl : t = 3 := by simpa using Array.mem_of_getElem? ht
  exact (show Tryd.prog.wantsStandIn 3 = false by kernel_rfl)

/-- THE CARD. -/
theorem proved : Rows.FnPairsDeepCardSaid :=
  Claim7.holds_tied_plain_at .later [] _ _ _ _ said (fun _ h => by cases h) (by kernel_rfl) (fun _ h => by cases h) fnPairsDeep_row_tie rfl ⟨rfl, rfl⟩ (by kernel_rfl) rfl plain (by kernel_rfl)
#print axioms proved
end Go.Proofs.YtmaieenphcnefaaDoor.fnPairsDeep
