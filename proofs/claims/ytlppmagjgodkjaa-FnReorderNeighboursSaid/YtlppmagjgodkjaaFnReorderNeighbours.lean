/- The law FnReorderNeighbours: for every input the call returns true, and each argument reads afterwards as it read before. No further condition. (The frame was written by the kit's proof-skeleton; the walk is the prover's.) -/
import Derived.Test.YtlppmagjgodkjaaRows
import Derived.Test.YtlppmagjgodkjaaOrders
import Derived.Test.YtlppmagjgodkjaaOrd2
import Derived.WalkKit
import Derived.ProofKit
import Derived.OpenShut
import Derived.ShutString
import Derived.ChangeOld
import Derived.Below
namespace Go.Proofs.Ytlppmagjgodkjaa.fnReorderNeighbours
open Go.ChangeShapes Go.WideShapes Go.ChangeAt Go.RowKit
open Go.ChangeMaps (open_string shut_string)
set_option linter.unusedVariables false

theorem own : ownKnob Try.prog.godebug = none := by kernel_rfl
theorem laidOut : laidOutB Try.prog = true := by kernel_rfl

/-- WHAT THE WALK IS TOLD OF A SLICE OF INTEGERS THAT CAME IN: it is nil; or it leads to a row of 'cap' cells, the numbers 'zs' (the first 'len' are its elements, the rest its spare room), each fitting its kind. -/
def IsRow (k : IntKind) (w : World) (a : Option Addr) (len cap : Nat) (zs : List Int) : Prop :=
  (a = none ∧ len = 0 ∧ cap = 0 ∧ zs = []) ∨
  ∃ x, a = some x ∧ len ≤ cap ∧ cap ≤ maxLen ∧ zs.length = cap ∧ (∀ i, i < zs.length → w.cell? (x.add i) = some (.int k (zs.getD i 0))) ∧ ∀ n ∈ zs, (Lit.int k n).wf = true

/-! ### STEP 1: THE WALK: the Go text returns true, AND WRITES NOTHING THAT WAS THERE: 'Below w.heap.size w w'' (Derived/Below.lean: '.refl', '.alloc', '.drew', '.setCell' at a new block, '.trans'). Open each 'IsRow' by 'rcases' AHEAD of 'go_enter'; part every test ahead of the walk. -/
set_option maxHeartbeats 4000000 in
set_option maxRecDepth 100000 in
theorem walk (a0 : Option Addr) (len0 cap0 : Nat) (z0 : List Int) (w : World) (w0 : IsRow .i64 w a0 len0 cap0 z0) :
    Calls Try.prog 5 #[.slice a0 len0 cap0] w fun e w' => e = .returned (.bool true) ∧ Below w.heap.size w w' := by
  obtain ⟨b0, o0, hx0⟩ := sees_of_row w0
  obtain ⟨x, hx⟩ : ∃ x : Nat → Int, Sees w a0 b0 o0 len0 cap0 (fun i => .int .i64 (x i)) := ⟨_, hx0⟩
  clear hx0 w0
  by_cases hn : len0 ≤ 2147483647
  · by_cases hl : levelsB len0 x = true
    · have hlv : ∀ i, i < len0 → 0 ≤ x i ∧ x i ≤ 126 := of_decide_eq_true hl
      have HL := Lib.hid hlv
      clear hlv
      by_cases h0 : len0 = 0
      · subst h0
        go_enter Try.func5, Try.ntmps5
        go_wp2_with fail
        refine (areLevels_any _ (by omega) hx).mono ?_
        rintro e w1 ⟨rfl, rfl⟩
        go_wp2_with fail
        go_ret
        exact ⟨rfl, Below.refl _ _⟩
      · have hb0 : ((len0 : Int) == 0) = false := by simp; omega
        have hpos : 0 < len0 := by omega
        clear h0
        have hmk := run_make_row' (P := Try.prog) 22 3 (.int .i64 0) 8 Try.underlying22 Try.infoInt rfl .i64 .i64 len0 (by omega) (by omega)
        go_enter Try.func5, Try.ntmps5
        go_wp2_with fail
        refine (areLevels_any _ (by omega) hx).mono ?_
        rintro e w1 ⟨rfl, rfl⟩
        go_wp2_with fail
        refine (implReorder_any _ (by omega) hx HL.out).mono ?_
        rintro e w1 ⟨ao1, b1, o1, c1, rfl, hs1, hf1, hsi1⟩
        have hrow := World.rowIs_made w1 (.int .i64 0) len0 3
        have hs : w.Since w.heap.size (w1.alloc (.cells (madeCells #[.int .i64 0] len0) 3)) := hsi1.alloc hsi1.size _
        have hs1' := hs1.since (w' := w1.alloc (.cells (madeCells #[.int .i64 0] len0) 3)) ((World.Since.refl _ _).alloc (Nat.le_refl _) _)
        have hb1 : b1 < w1.heap.size := hs1.lt hpos
        have hz1 : w.heap.size ≤ w1.heap.size := hsi1.size
        clear hs1 hsi1
        go_wp2
        clear hmk
        go_loopg [5, 6, 31] len0 (fun g _ _ i wr => ∃ k : Nat, k ≤ len0 ∧ g = len0 - k ∧ i = .int .i64 k ∧ wr.rowIs w1.heap.size 3 len0 (fun j => .int .i64 ((if Ord.V x len0 126 j < k then Ord.V x len0 126 j else 0 : Nat) : Int)) ∧ Sees wr ao1 b1 o1 len0 c1 (ordVal (Ord.U x len0 126)) ∧ w.Since w.heap.size wr)
        case atStart => exact ⟨0, by omega, rfl, rfl, hrow.congr (fun j _ => by simp), hs1', hs⟩
        case round =>
          obtain ⟨k, hk, rfl, rfl, hr, hse, hsi⟩ := hrel
          clear hrow hs1' hs
          by_cases hlt : k < len0
          · obtain ⟨rfl, hc⟩ := hse.get hlt
            have hlt2 := Ord.U_lt (lv := x) (n := len0) (m := 126) hlt
            have g1 := hr.cell hlt2
            have g2 := hr.frozen (Ord.U x len0 126 k)
            have R := (hr.set (Ord.U x len0 126 k) (.int .i64 (k : Int))).congr (g := fun j => .int .i64 ((if Ord.V x len0 126 j < k + 1 then Ord.V x len0 126 j else 0 : Nat) : Int)) (fun j _ => by
              by_cases e : j = Ord.U x len0 126 k
              · subst e; rw [if_pos rfl, Ord.V_U, if_pos (by omega)]
              · rw [if_neg e]
                have : Ord.V x len0 126 j ≠ k := fun h => e (by rw [← h, Ord.U_V])
                by_cases h2 : Ord.V x len0 126 j < k
                · rw [if_pos h2, if_pos (by omega)]
                · rw [if_neg h2, if_neg (by omega)])
            have S := hsi.setCell (a := ⟨w1.heap.size, Ord.U x len0 126 k, none⟩) hz1 (.int .i64 (k : Int))
            have E := hse.kept (w' := wr.setCell ⟨w1.heap.size, Ord.U x len0 126 k, none⟩ (.int .i64 (k : Int))) (fun _ => Go.Deep.blk_setCell_other _ _ _ _ (by show b1 ≠ w1.heap.size; omega))
            simp only [ordVal] at hc
            obtain ⟨u, hu⟩ : ∃ u, u = Ord.U x len0 126 k := ⟨_, rfl⟩
            rw [← hu] at hc g1 g2 R S E hlt2
            obtain ⟨old, hold⟩ : ∃ old : Int, wr.cell? ⟨w1.heap.size, u, none⟩ = some (.int .i64 old) := ⟨_, g1⟩
            clear hu hr hse hsi g1
            have hz4 : (u : Int) < (len0 : Int) := by omega
            have hz2 : ¬ (u : Int) < 0 := by omega
            have hz3 : ¬ (len0 : Int) ≤ (u : Int) := by omega
            go_wp2
            go_roundg (len0 - (k + 1))
            case rel => exact ⟨k + 1, by omega, rfl, by go_num, R, E, S⟩
            case measure => omega
          · obtain rfl : k = len0 := by omega
            have hr2 := hr.congr (g := ordVal (Ord.V x k 126)) (fun j hj => by simp only [ordVal]; rw [if_pos (Ord.V_lt hj)])
            clear hr hse
            go_wp2
            go_loopg [7] (k - 1) (fun g i wq => ∃ j : Nat, 1 ≤ j ∧ j ≤ k ∧ g = k - j ∧ i = .int .i64 j ∧ wq.rowIs w1.heap.size 3 k (ordVal (Ord.V x k 126)) ∧ w.Since w.heap.size wq)
            case atStart => exact ⟨1, by omega, by omega, rfl, rfl, hr2, hsi⟩
            case round =>
              obtain ⟨j, hj1, hjk, rfl, rfl, hrq, hsq⟩ := hrel
              clear hr2 hsi
              by_cases hjlt : j < k
              · obtain ⟨rfl, hc0⟩ := hx.get hjlt
                obtain ⟨_, hc1⟩ := hx.get (i := j - 1) (by omega)
                have hbw := World.block_lt_of_cell? _ _ hc0
                have d0 : wr.cell? ⟨b0, o0 + j, none⟩ = some (.int .i64 (x j)) := by rw [hsq.cell hbw]; exact hc0
                have d1 : wr.cell? ⟨b0, o0 + (j - 1), none⟩ = some (.int .i64 (x (j - 1))) := by rw [hsq.cell (a := ⟨b0, o0 + (j - 1), none⟩) hbw]; exact hc1
                have a0' := hrq.cell hjlt
                have a1' := hrq.cell (i := j - 1) (by omega)
                have hv0 := Ord.V_lt (lv := x) (n := k) (m := 126) hjlt
                have hv1 := Ord.V_lt (lv := x) (n := k) (m := 126) (show j - 1 < k by omega)
                obtain ⟨l0, l1⟩ := HL.out j hjlt
                have hside := fun he : x j = x (j - 1) => Ord.V_side (lv := x) (n := k) (m := 126) hj1 hjlt he l0 (by omega)
                simp only [ordVal] at a0' a1'
                obtain ⟨v0, hv0e⟩ : ∃ v, v = Ord.V x k 126 j := ⟨_, rfl⟩
                obtain ⟨v1, hv1e⟩ : ∃ v, v = Ord.V x k 126 (j - 1) := ⟨_, rfl⟩
                rw [← hv0e] at a0' hv0 hside
                rw [← hv1e] at a1' hv1 hside
                have HSD := Lib.hid hside
                clear hv0e hv1e hc0 hc1 hside
                have z1 : (0 : Int) ≤ (j : Int) - 1 := by omega
                have z1' : (1 : Int) ≤ (j : Int) := by omega
                have z2 : ((j : Int) - 1).toNat = j - 1 := by omega
                have z3 : (j : Int) < (k : Int) := by omega
                have z4 : (j : Int) - 1 < (k : Int) := by omega
                have z5 : IntKind.i64.wrap ((j : Int) - 1) = (j : Int) - 1 := IntWalk.i64_in _ (by omega)
                by_cases hne : x j = x (j - 1)
                · have y1 : (x j != x (j - 1)) = false := by simp [hne]
                  have HNE := Lib.hid hne
                  clear hne
                  have z6 : IntKind.i64.wrap ((v1 : Int) + 1) = (v1 : Int) + 1 := IntWalk.i64_in _ (by omega)
                  have z7 : IntKind.i64.wrap ((v1 : Int) - 1) = (v1 : Int) - 1 := IntWalk.i64_in _ (by omega)
                  rcases (show x j % 2 = 0 ∨ x j % 2 = 1 by omega) with hpar | hpar
                  · have y2 : ((x j).tmod 2 == 0) = true := by rw [Int.tmod_eq_emod_of_nonneg l0]; simp [hpar]
                    have y3 : ((v0 : Int) != (v1 : Int) + 1) = false := by have := (HSD.out HNE.out).1 hpar; simp; omega
                    have y4 : ((x j).tmod 2 == 1) = false := by rw [Int.tmod_eq_emod_of_nonneg l0]; simp [hpar]
                    clear hpar
                    go_wp2
                    go_quiet (fail)
                    go_wp2
                    refine wp_region_quiet_lit (by kernel_rfl) (by kernel_rfl) ?_
                    repeat ((with_reducible refine wpQuiet_step ?_); intro K hK; go_simp; (with_reducible refine hK _ ?_); clear hK K)
                    with_reducible refine wpQuiet_nil ?_
                    intro _ hw'
                    obtain ⟨nq2, hw2⟩ := hw'
                    subst hw2
                    go_wp2
                    go_roundg (k - (j + 1))
                    case rel => exact ⟨j + 1, by omega, by omega, rfl, by go_num, hrq, since_drewN hsq _⟩
                    case measure => omega
                  · have y2 : ((x j).tmod 2 == 0) = false := by rw [Int.tmod_eq_emod_of_nonneg l0]; simp [hpar]
                    have y3 : ((v0 : Int) != (v1 : Int) - 1) = false := by have := (HSD.out HNE.out).2 hpar; simp; omega
                    have y4 : ((x j).tmod 2 == 1) = true := by rw [Int.tmod_eq_emod_of_nonneg l0]; simp [hpar]
                    clear hpar
                    go_wp2
                    go_quiet (fail)
                    go_wp2
                    refine wp_region_quiet_lit (by kernel_rfl) (by kernel_rfl) ?_
                    repeat ((with_reducible refine wpQuiet_step ?_); intro K hK; go_simp; (with_reducible refine hK _ ?_); clear hK K)
                    with_reducible refine wpQuiet_nil ?_
                    intro _ hw'
                    obtain ⟨nq2, hw2⟩ := hw'
                    subst hw2
                    go_wp2
                    go_roundg (k - (j + 1))
                    case rel => exact ⟨j + 1, by omega, by omega, rfl, by go_num, hrq, since_drewN hsq _⟩
                    case measure => omega
                · have y1 : (x j != x (j - 1)) = true := by simp [hne]
                  go_wp2
                  go_quiet (fail)
                  go_wp2
                  go_roundg (k - (j + 1))
                  case rel => exact ⟨j + 1, by omega, by omega, rfl, by go_num, hrq, since_drewN hsq _⟩
                  case measure => omega
              · go_wp2
                go_ret
                exact ⟨rfl, below_of_since hsq⟩
    · have hl' : levelsB len0 x = false := by simpa using hl
      clear hl
      go_enter Try.func5, Try.ntmps5
      go_wp2_with fail
      refine (areLevels_any _ (by omega) hx).mono ?_
      rintro e w1 ⟨rfl, rfl⟩
      go_wp2_with fail
      go_ret
      exact ⟨rfl, Below.refl _ _⟩
  · have hb : (2147483647 : Int) < (len0 : Int) := by omega
    go_enter Try.func5, Try.ntmps5
    go_wp2_with fail
    go_ret
    exact ⟨rfl, Below.refl _ _⟩

/-! ### THE ROW's STEP: WRITTEN OUT: LEAVE IT -/
set_option maxRecDepth 100000 in
theorem lifted (os : Os) (started : os.Started) (H : Type) (enc : TypeId × Value → H) :
    ReturnsInHanded {} Try.checked os 5 .any (Rows.fnReorderNeighboursSpec.pre6 enc Try.prog Try.f5 Rows.fnReorderNeighboursRow.domain false) (Rows.fnReorderNeighboursSpec.post enc Try.prog Try.f5 false true false false) := by
  refine returnsInHanded_of_change (C := Try.checked) own started (by kernel_rfl) Try.func5
    (ChangeSpec.witness6 (enc := enc) (C := Try.checked) false ⟨#[], #[.slice none 0 0], []⟩ 8 (by kernel_rfl) (by kernel_rfl) (by kernel_rfl) (by kernel_rfl)) ?_
  intro W base args ds gs before hval0 hW hcnd _
  have hval : ∀ (j : Nat) t v, Try.f5.params[j]? = some t → args[j]? = some v → Value.okWide Try.prog W .any base t v := hval0
  have hW' := hW
  obtain ⟨p, q, hA0, hV, rfl, hfz, hnd⟩ := hW
  have hA : DataW.TrodAll enc Try.prog W 0 (fun _ => true) true Try.f5.params.toList args.toList ds p := hA0
  rw [Try.params5] at hA hval
  obtain ⟨v0, vs0, d0, ds0, p0, q0, hargs, rfl, rfl, h0, r0⟩ := trodAll_cons hA
  obtain ⟨rfl, rfl, rfl⟩ := trodAll_nil r0
  obtain rfl : args = #[v0] := by cases args; simp_all
  obtain ⟨rfl, rfl⟩ := trodVars_none hV
  obtain ⟨a0, len0, cap0, rfl⟩ := okWide_slice Try.underlying22 (hval 0 22 v0 rfl rfl)
  have k0 := h0
  have lt0 : ∀ x ∈ p0, x.block < W.heap.size := by obtain ⟨m, hm⟩ := k0; exact DataW.trod_lt m _ _ _ hm
  obtain ⟨z0, w0⟩ : ∃ zs, IsRow .i64 W a0 len0 cap0 zs := by
    obtain ⟨fuel, hf⟩ := h0
    rcases open_ints Try.underlying22 Try.underlying3 (by kernel_rfl) hf with ⟨hcs, _⟩ | ⟨x, l, c, zs, hcs, _, hl, hm, hz, _, hcell, hwz⟩
    · simp [Value.cells] at hcs
      obtain ⟨rfl, rfl, rfl⟩ := hcs
      exact ⟨[], .inl ⟨rfl, rfl, rfl, rfl⟩⟩
    · simp [Value.cells] at hcs
      obtain ⟨rfl, rfl, rfl⟩ := hcs
      exact ⟨zs, .inr ⟨_, rfl, hl, hm, by simpa using hz, hcell, hwz⟩⟩
  clear hA0 hval0
  refine (walk a0 len0 cap0 z0 W w0).mono fun e W' ⟨he, bel⟩ => ?_
  subst he
  exact ⟨_, rfl, _, _, _, [], _, [], hW', trodAll_mk1 (shut_bool Try.underlying4 _), (trodAll_cons_mk (Below.trod laidOut (by kernel_rfl) (of_decide_eq_true (by kernel_rfl)) k0 bel lt0) trodAll_mk0), rfl, bel.frame _, fun h => by cases h⟩

theorem over : Rows.fnReorderNeighboursRow.holds Try.pinned (OpenSpec.ofChange Rows.fnReorderNeighboursSpec) :=
  OpenClaim.holds_of_wide 5 Try.f5 rfl rfl rfl rfl rfl rfl rfl ⟨rfl, rfl, rfl, rfl, rfl⟩ rfl rfl rfl rfl rfl (by kernel_rfl) Try.func5 (by kernel_rfl)
    (of_decide_eq_true (by kernel_rfl)) (by unfold Func.isWrapper; first | (rw [if_pos (by decide +kernel)]; kernel_rfl) | (rw [if_neg (by decide +kernel)]; exact ⟨rfl, rfl⟩))
    (fun os started H enc _ => lifted os started H enc)

/-- ████ THE STATEMENT ████ -/
theorem proved : Rows.FnReorderNeighboursSaid := over
#print axioms proved
end Go.Proofs.Ytlppmagjgodkjaa.fnReorderNeighbours
