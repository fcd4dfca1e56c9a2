/- The law FnReorderRaised: for every input the call returns true, and each argument reads afterwards as it read before. No further condition. (The frame was written by the kit's proof-skeleton; the walk is the prover's.) -/
import Derived.Test.YtlppmagjgodkjaaRows
import Derived.Test.YtlppmagjgodkjaaOrders
import Derived.Test.YtlppmagjgodkjaaOrd2
import Derived.WalkKit
import Derived.ProofKit
import Derived.OpenShut
import Derived.ShutString
import Derived.ChangeOld
import Derived.Below
namespace Go.Proofs.Ytlppmagjgodkjaa.fnReorderRaised
open Go.ChangeShapes Go.WideShapes Go.ChangeAt Go.RowKit
open Go.ChangeMaps (open_string shut_string)
set_option linter.unusedVariables false

theorem own : ownKnob Try.prog.godebug = none := by kernel_rfl
theorem laidOut : laidOutB Try.prog = true := by kernel_rfl

/-- WHAT THE WALK IS TOLD OF A SLICE OF INTEGERS THAT CAME IN: it is nil; or it leads to a row of 'cap' cells, the numbers 'zs' (the first 'len' are its elements, the rest its spare room), each fitting its kind. -/
def IsRow (k : IntKind) (w : World) (a : Option Addr) (len cap : Nat) (zs : List Int) : Prop :=
  (a = none ∧ len = 0 ∧ cap = 0 ∧ zs = []) ∨
  ∃ x, a = some x ∧ len ≤ cap ∧ cap ≤ maxLen ∧ zs.length = cap ∧ (∀ i, i < zs.length → w.cell? (x.add i) = some (.int k (zs.getD i 0))) ∧ ∀ n ∈ zs, (Lit.int k n).wf = true

/-! ### STEP 1: THE WALK: the Go text returns true, AND WRITES NOTHING THAT WAS THERE: 'Below w.heap.size w w'' (Derived/Below.lean: '.refl', '.alloc', '.drew', '.setCell' at a new block, '.trans'). Open each 'IsRow' by 'rcases' AHEAD of 'go_enter'; part every test ahead of the walk. -/
set_option maxHeartbeats 4000000 in
set_option maxRecDepth 100000 in
theorem walk (a0 : Option Addr) (len0 cap0 : Nat) (z0 : List Int) (w : World) (w0 : IsRow .i64 w a0 len0 cap0 z0) :
    Calls Try.prog 8 #[.slice a0 len0 cap0] w fun e w' => e = .returned (.bool true) ∧ Below w.heap.size w w' := by
  obtain ⟨b0, o0, hx0⟩ := sees_of_row w0
  obtain ⟨x, hx⟩ : ∃ x : Nat → Int, Sees w a0 b0 o0 len0 cap0 (fun i => .int .i64 (x i)) := ⟨_, hx0⟩
  clear hx0 w0
  by_cases hn : len0 ≤ 2147483647
  · by_cases hl : levelsB len0 x = true
    · have hlv : ∀ i, i < len0 → 0 ≤ x i ∧ x i ≤ 126 := of_decide_eq_true hl
      have HL := Lib.hid hlv
      clear hlv
      by_cases hl2 : levelsB len0 (fun i => x i + 2) = true
      · have hlv2 : ∀ i, i < len0 → x i ≤ 124 := fun i hi => by have := (of_decide_eq_true hl2 : ∀ i, i < len0 → 0 ≤ x i + 2 ∧ x i + 2 ≤ 126) i hi; omega
        have HL2 := Lib.hid hlv2
        clear hlv2
        by_cases h0 : len0 = 0
        · subst h0
          go_enter Try.func8, Try.ntmps8
          go_wp2_with fail
          refine (areLevels_any _ (by omega) hx).mono ?_
          rintro e w1 ⟨rfl, rfl⟩
          go_wp2_with fail
          refine (raised_any 2 _ (by omega) hx (by omega) (by omega) (fun i hi => absurd hi (Nat.not_lt_zero _))).mono ?_
          rintro e w1 ⟨ao1, b1, o1, c1, rfl, hs1, hf1, hsi1⟩
          go_wp2_with fail
          refine (areLevels_any _ (by omega) hs1).mono ?_
          rintro e w2 ⟨rfl, rfl⟩
          go_wp2_with fail
          go_ret
          exact ⟨rfl, below_of_since hsi1⟩
        · have hb0 : ((len0 : Int) == 0) = false := by simp; omega
          have hpos : 0 < len0 := by omega
          have hb1 : ((len0 : Int) != (len0 : Int)) = false := by simp
          clear h0
          go_enter Try.func8, Try.ntmps8
          go_wp2_with fail
          refine (areLevels_any _ (by omega) hx).mono ?_
          rintro e w1 ⟨rfl, rfl⟩
          go_wp2_with fail
          refine (raised_any 2 _ (by omega) hx (by omega) (by omega) (fun i hi => by have := HL.out i hi; omega)).mono ?_
          rintro e w1 ⟨ao1, b1, o1, c1, rfl, hs1, hf1, hsi1⟩
          go_wp2_with fail
          refine (areLevels_any _ (by omega) hs1).mono ?_
          rintro e w2 ⟨rfl, rfl⟩
          go_wp2_with fail
          have hx1 := hx.since hsi1
          refine (implReorder_any _ (by omega) hx1 HL.out).mono ?_
          rintro e w2 ⟨ao2, b2, o2, c2, rfl, hs2, hf2, hsi2⟩
          have hx2 := hx1.since hsi2
          have hsA := since2 hsi1 hsi2
          clear hx1 hs1 hf1 hf2 hsi1 hsi2
          go_wp2_with fail
          refine (raised_any 1 _ (by omega) hx2 (by omega) (by omega) (fun i hi => by have := HL.out i hi; omega)).mono ?_
          rintro e w3 ⟨ao3, b3, o3, c3, rfl, hs3, hf3, hsi3⟩
          go_wp2_with fail
          refine (implReorder_any _ (by omega) hs3 (fun i hi => by have := HL.out i hi; have := HL2.out i hi; show 0 ≤ x i + 1 ∧ x i + 1 ≤ 126; omega)).mono ?_
          rintro e w4 ⟨ao4, b4, o4, c4, rfl, hs4, hf4, hsi4⟩
          have hx4 := (hx2.since hsi3).since hsi4
          have hs2' := (hs2.since hsi3).since hsi4
          have hsB := since2 hsA (since2 hsi3 hsi4)
          clear hx2 hs2 hsA hs3 hsi3 hf3 hsi4 hf4
          go_wp2_with fail
          refine (raised_any 2 _ (by omega) hx4 (by omega) (by omega) (fun i hi => by have := HL.out i hi; omega)).mono ?_
          rintro e w5 ⟨ao5, b5, o5, c5, rfl, hs5, hf5, hsi5⟩
          go_wp2_with fail
          refine (implReorder_any _ (by omega) hs5 (fun i hi => by have := HL.out i hi; have := HL2.out i hi; show 0 ≤ x i + 2 ∧ x i + 2 ≤ 126; omega)).mono ?_
          rintro e w6 ⟨ao6, b6, o6, c6, rfl, hs6, hf6, hsi6⟩
          have hs2f := (hs2'.since hsi5).since hsi6
          have hs4f := (hs4.since hsi5).since hsi6
          have hsC := since2 hsB (since2 hsi5 hsi6)
          clear hx4 hs2' hs4 hsB hs5 hsi5 hf5 hsi6 hf6 hx
          go_wp2_with fail
          refine (same_any _ (by omega) (by omega) hs2f hs6).mono ?_
          rintro e w7 ⟨rfl, hsi7⟩
          have hsame : sameB len0 len0 (fun i => ((Ord.U x len0 126 i : Nat) : Int)) (fun i => ((Ord.U (fun i => x i + 2) len0 126 i : Nat) : Int)) = true := by
            unfold sameB; rw [decide_eq_true_eq]
            exact ⟨rfl, fun i hi => by show ((Ord.U x len0 126 i : Nat) : Int) = ((Ord.U (fun i => x i + 2) len0 126 i : Nat) : Int); rw [Ord.U_raise2 (fun i hi => (HL.out i hi).1) HL2.out hi]⟩
          rw [hsame]
          have hs2g := hs2f.since hsi7
          have hs4g := hs4f.since hsi7
          have hsD := since2 hsC hsi7
          clear hs2f hs4f hs6 hsC hsi7 hsame
          go_wp2
          go_loopg [7, 53] len0 (fun g _ i wr => ∃ k : Nat, k ≤ len0 ∧ g = len0 - k ∧ i = .int .i64 k ∧ Sees wr ao2 b2 o2 len0 c2 (ordVal (Ord.U x len0 126)) ∧ Sees wr ao4 b4 o4 len0 c4 (ordVal (Ord.U (fun i => x i + 1) len0 126)) ∧ w.Since w.heap.size wr)
          case atStart => exact ⟨0, by omega, rfl, rfl, hs2g, hs4g, hsD⟩
          case round =>
            obtain ⟨k, hk, rfl, rfl, hA, hB, hsr⟩ := hrel
            clear hs2g hs4g hsD
            by_cases hlt : k < len0
            · obtain ⟨rfl, hcA⟩ := hA.get hlt
              obtain ⟨rfl, hcB⟩ := hB.get (i := len0 - 1 - k) (by omega)
              have heq : Ord.U (fun i => x i + 1) len0 126 (len0 - 1 - k) = Ord.U x len0 126 k := by
                rw [Ord.U_raise1 (fun i hi => (HL.out i hi).1) (fun i hi => by have := HL2.out i hi; omega) (by omega)]; congr 1; omega
              simp only [ordVal, heq] at hcA hcB
              obtain ⟨u, hu⟩ : ∃ u, u = Ord.U x len0 126 k := ⟨_, rfl⟩
              rw [← hu] at hcA hcB
              clear hu heq
              have z1 : (k : Int) < (len0 : Int) := by omega
              have z2 : IntKind.i64.wrap ((len0 : Int) - 1) = (len0 : Int) - 1 := IntWalk.i64_in _ (by omega)
              have z3 : IntKind.i64.wrap ((len0 : Int) - 1 - (k : Int)) = (len0 : Int) - 1 - (k : Int) := IntWalk.i64_in _ (by omega)
              have z4 : (0 : Int) ≤ (len0 : Int) - 1 - (k : Int) := by omega
              have z5 : (len0 : Int) - 1 - (k : Int) < (len0 : Int) := by omega
              have z6 : ((len0 : Int) - 1 - (k : Int)).toNat = len0 - 1 - k := by omega
              have y1 : ((u : Int) != (u : Int)) = false := by simp
              go_wp2
              go_quiet (fail)
              go_wp2
              go_roundg (len0 - (k + 1))
              case rel => exact ⟨k + 1, by omega, rfl, by go_num, hA.since (since_drewN (World.Since.refl _ _) _), hB.since (since_drewN (World.Since.refl _ _) _), since_drewN hsr _⟩
              case measure => omega
            · obtain rfl : k = len0 := by omega
              go_wp2
              go_ret
              exact ⟨rfl, below_of_since hsr⟩
      · have hl2' : levelsB len0 (fun i => x i + 2) = false := by simpa using hl2
        clear hl2
        go_enter Try.func8, Try.ntmps8
        go_wp2_with fail
        refine (areLevels_any _ (by omega) hx).mono ?_
        rintro e w1 ⟨rfl, rfl⟩
        go_wp2_with fail
        refine (raised_any 2 _ (by omega) hx (by omega) (by omega) (fun i hi => by have := HL.out i hi; omega)).mono ?_
        rintro e w1 ⟨ao1, b1, o1, c1, rfl, hs1, hf1, hsi1⟩
        go_wp2_with fail
        refine (areLevels_any _ (by omega) hs1).mono ?_
        rintro e w2 ⟨rfl, rfl⟩
        go_wp2_with fail
        go_ret
        exact ⟨rfl, below_of_since hsi1⟩
    · have hl' : levelsB len0 x = false := by simpa using hl
      clear hl
      go_enter Try.func8, Try.ntmps8
      go_wp2_with fail
      refine (areLevels_any _ (by omega) hx).mono ?_
      rintro e w1 ⟨rfl, rfl⟩
      go_wp2_with fail
      go_ret
      exact ⟨rfl, Below.refl _ _⟩
  · have hb : (2147483647 : Int) < (len0 : Int) := by omega
    go_enter Try.func8, Try.ntmps8
    go_wp2_with fail
    go_ret
    exact ⟨rfl, Below.refl _ _⟩

/-! ### THE ROW's STEP: WRITTEN OUT: LEAVE IT -/
set_option maxRecDepth 100000 in
theorem lifted (os : Os) (started : os.Started) (H : Type) (enc : TypeId × Value → H) :
    ReturnsInHanded {} Try.checked os 8 .any (Rows.fnReorderRaisedSpec.pre6 enc Try.prog Try.f8 Rows.fnReorderRaisedRow.domain false) (Rows.fnReorderRaisedSpec.post enc Try.prog Try.f8 false true false false) := by
  refine returnsInHanded_of_change (C := Try.checked) own started (by kernel_rfl) Try.func8
    (ChangeSpec.witness6 (enc := enc) (C := Try.checked) false ⟨#[], #[.slice none 0 0], []⟩ 8 (by kernel_rfl) (by kernel_rfl) (by kernel_rfl) (by kernel_rfl)) ?_
  intro W base args ds gs before hval0 hW hcnd _
  have hval : ∀ (j : Nat) t v, Try.f8.params[j]? = some t → args[j]? = some v → Value.okWide Try.prog W .any base t v := hval0
  have hW' := hW
  obtain ⟨p, q, hA0, hV, rfl, hfz, hnd⟩ := hW
  have hA : DataW.TrodAll enc Try.prog W 0 (fun _ => true) true Try.f8.params.toList args.toList ds p := hA0
  rw [Try.params8] at hA hval
  obtain ⟨v0, vs0, d0, ds0, p0, q0, hargs, rfl, rfl, h0, r0⟩ := trodAll_cons hA
  obtain ⟨rfl, rfl, rfl⟩ := trodAll_nil r0
  obtain rfl : args = #[v0] := by cases args; simp_all
  obtain ⟨rfl, rfl⟩ := trodVars_none hV
  obtain ⟨a0, len0, cap0, rfl⟩ := okWide_slice Try.underlying22 (hval 0 22 v0 rfl rfl)
  have k0 := h0
  have lt0 : ∀ x ∈ p0, x.block < W.heap.size := by obtain ⟨m, hm⟩ := k0; exact DataW.trod_lt m _ _ _ hm
  obtain ⟨z0, w0⟩ : ∃ zs, IsRow .i64 W a0 len0 cap0 zs := by
    obtain ⟨fuel, hf⟩ := h0
    rcases open_ints Try.underlying22 Try.underlying3 (by kernel_rfl) hf with ⟨hcs, _⟩ | ⟨x, l, c, zs, hcs, _, hl, hm, hz, _, hcell, hwz⟩
    · simp [Value.cells] at hcs
      obtain ⟨rfl, rfl, rfl⟩ := hcs
      exact ⟨[], .inl ⟨rfl, rfl, rfl, rfl⟩⟩
    · simp [Value.cells] at hcs
      obtain ⟨rfl, rfl, rfl⟩ := hcs
      exact ⟨zs, .inr ⟨_, rfl, hl, hm, by simpa using hz, hcell, hwz⟩⟩
  clear hA0 hval0
  refine (walk a0 len0 cap0 z0 W w0).mono fun e W' ⟨he, bel⟩ => ?_
  subst he
  exact ⟨_, rfl, _, _, _, [], _, [], hW', trodAll_mk1 (shut_bool Try.underlying4 _), (trodAll_cons_mk (Below.trod laidOut (by kernel_rfl) (of_decide_eq_true (by kernel_rfl)) k0 bel lt0) trodAll_mk0), rfl, bel.frame _, fun h => by cases h⟩

theorem over : Rows.fnReorderRaisedRow.holds Try.pinned (OpenSpec.ofChange Rows.fnReorderRaisedSpec) :=
  OpenClaim.holds_of_wide 8 Try.f8 rfl rfl rfl rfl rfl rfl rfl ⟨rfl, rfl, rfl, rfl, rfl⟩ rfl rfl rfl rfl rfl (by kernel_rfl) Try.func8 (by kernel_rfl)
    (of_decide_eq_true (by kernel_rfl)) (by unfold Func.isWrapper; first | (rw [if_pos (by decide +kernel)]; kernel_rfl) | (rw [if_neg (by decide +kernel)]; exact ⟨rfl, rfl⟩))
    (fun os started H enc _ => lifted os started H enc)

/-- ████ THE STATEMENT ████ -/
theorem proved : Rows.FnReorderRaisedSaid := over
#print axioms proved
end Go.Proofs.Ytlppmagjgodkjaa.fnReorderRaised
