/- The law FnReorderOneLevel: for every input the call returns true, and each argument reads afterwards as it read before. No further condition. (The frame was written by the kit's proof-skeleton; the walk is the prover's.) -/
import Derived.Test.YtlppmagjgodkjaaRows
import Derived.Test.YtlppmagjgodkjaaOrders
import Derived.Test.YtlppmagjgodkjaaOrd2
import Derived.WalkKit
import Derived.ProofKit
import Derived.OpenShut
import Derived.ShutString
import Derived.ChangeOld
import Derived.Below
namespace Go.Proofs.Ytlppmagjgodkjaa.fnReorderOneLevel
open Go.ChangeShapes Go.WideShapes Go.ChangeAt Go.RowKit
open Go.ChangeMaps (open_string shut_string)
set_option linter.unusedVariables false      -- a walk need not use every 'w<i>' (that an integer argument fits its kind)

theorem own : ownKnob Try.prog.godebug = none := by kernel_rfl

/-! ### STEP 1: THE WALK: the Go text returns true. 'Below w.heap.size w w'': the world has at most new blocks (Derived/RowKit3.lean). Part the cases AHEAD of 'go_enter' where a test parts the walk; take each callee by a contract of your own. -/
set_option maxHeartbeats 4000000 in
set_option maxRecDepth 100000 in
theorem walk (a0 : Int) (a1 : Int) (w0 : (Lit.int .i64 a0).wf = true) (w1 : (Lit.int .i64 a1).wf = true) (w : World) :
    Calls Try.prog 6 #[.int .i64 a0, .int .i64 a1] w fun e w' => e = .returned (.bool true) ∧ Below w.heap.size w w' := by
  by_cases h1 : a0 < 0
  · go_enter Try.func6, Try.ntmps6
    go_wp2_with fail
    go_ret
    exact ⟨rfl, Below.refl _ _⟩
  by_cases h2 : 126 < a0
  · go_enter Try.func6, Try.ntmps6
    go_wp2_with fail
    go_ret
    exact ⟨rfl, Below.refl _ _⟩
  by_cases h3 : a1 < 1
  · go_enter Try.func6, Try.ntmps6
    go_wp2_with fail
    go_ret
    exact ⟨rfl, Below.refl _ _⟩
  by_cases h4 : 1000 < a1
  · go_enter Try.func6, Try.ntmps6
    go_wp2_with fail
    go_ret
    exact ⟨rfl, Below.refl _ _⟩
  obtain ⟨l, rfl⟩ := Int.eq_ofNat_of_zero_le (show 0 ≤ a0 by omega)
  obtain ⟨n, rfl⟩ := Int.eq_ofNat_of_zero_le (show 0 ≤ a1 by omega)
  have g1 := Gr.empty w w.heap.size 3 (fun _ => .int .i64 (l : Int)) (Nat.le_refl _)
  have g2 := Gr.empty (w.alloc (.cells #[] 3)) w.heap.size 3 (fun i => .int .i64 ((Ord.flat l n i : Nat) : Int)) (by simp)
  have hs1 : w.Since w.heap.size ((w.alloc (.cells #[] 3)).alloc (.cells #[] 3)) := ((World.Since.refl _ _).alloc (Nat.le_refl _) _).alloc (by simp) _
  have ha : Apart (.slice (some ⟨w.heap.size, 0, none⟩) 0 0) (.slice (some ⟨(w.alloc (.cells #[] 3)).heap.size, 0, none⟩) 0 0) := fun k e1 e2 => by simp [Value.ownBlock] at e1 e2; omega
  go_enter Try.func6, Try.ntmps6
  go_wp2_with fail
  go_loopg [5, 6, 7] n (fun g v u i wr => ∃ k : Nat, k ≤ n ∧ g = n - k ∧ i = .int .i64 k ∧ Gr wr w.heap.size 3 v k (fun _ => .int .i64 (l : Int)) ∧ Gr wr w.heap.size 3 u k (fun i => .int .i64 ((Ord.flat l n i : Nat) : Int)) ∧ Apart v u ∧ w.Since w.heap.size wr)
  case atStart => exact ⟨0, by omega, rfl, rfl, g1.alloc _, by simpa using g2, by simpa using ha, hs1⟩
  case round =>
    obtain ⟨k, hk, rfl, rfl, hv, hu, hap, hs⟩ := hrel
    clear g1 g2 hs1 ha
    by_cases hlt : k < n
    · have hsz : w.heap.size ≤ wr.heap.size := hs.size
      have hlz : (k : Int) < (n : Int) := by omega
      rcases (show l % 2 = 0 ∨ l % 2 = 1 by omega) with hpar | hpar
      · have y1 : ((l : Int) % 2 == 0) = true := by simp; omega
        have HP := Lib.hid hpar
        clear hpar
        go_wp2_with (refine wpList_push wr rfl (.tmp 29) (.tmp 31) 22 rfl w.heap.size 3 (.int .i64 0) 8 Try.underlying22 Try.infoInt rfl _ _ _ _ (by rfl) hv (by rfl) rfl (by omega) (by omega) hsz ?_)
        intro v2 w2 hv2 hgr2 hat2
        have hu2 : Gr w2 w.heap.size 3 u6 k (fun i => .int .i64 ((Ord.flat l n i : Nat) : Int)) := (hu.alloc _).apart hgr2 hap
        have hap2 : Apart u6 v2 := (hap.push hat2 (fun q hq => by have := (hu.ge q hq).2; omega)).symm
        have hs2 : w.Since w.heap.size w2 := (hs.alloc hsz _).grown hgr2 (by simp; omega) (fun k hk => (hv.ge k hk).1)
        have hsz2 : w.heap.size ≤ w2.heap.size := hs2.size
        have hv3 := hv2.congr (g := fun _ => .int .i64 (l : Int)) (fun i _ => by first | rfl | (split <;> rfl))
        clear hv2 hu hv hap hs hgr2 hat2
        go_wp2_with (refine wpList_push w2 rfl (.tmp 36) (.tmp 38) 22 rfl w.heap.size 3 (.int .i64 0) 8 Try.underlying22 Try.infoInt rfl _ _ _ _ (by rfl) hu2 (by rfl) rfl (by omega) (by omega) hsz2 ?_)
        intro u2 w3 hu3 hgr3 hat3
        have hv4 : Gr w3 w.heap.size 3 v2 (k + 1) (fun _ => .int .i64 (l : Int)) := (hv3.alloc _).apart hgr3 hap2
        have hap3 : Apart v2 u2 := (hap2.push hat3 (fun q hq => by have := (hv3.ge q hq).2; omega)).symm
        have hs3 : w.Since w.heap.size w3 := (hs2.alloc hsz2 _).grown hgr3 (by simp; omega) (fun k hk => (hu2.ge k hk).1)
        have hu4 := hu3.congr (g := fun i => .int .i64 ((Ord.flat l n i : Nat) : Int)) (fun i _ => by
          by_cases e : i = k
          · subst e; rw [if_pos rfl, Ord.flat_even HP.out]
          · rw [if_neg e])
        clear hu3 hv3 hu2 hap2 hs2 hgr3 hat3
        go_wp2_with fail
        go_roundg (n - (k + 1))
        case rel => exact ⟨k + 1, by omega, rfl, by go_num, hv4, hu4, hap3, hs3⟩
        case measure => omega
      · have y1 : ((l : Int) % 2 == 0) = false := by simp; omega
        have HP := Lib.hid hpar
        clear hpar
        go_wp2_with (refine wpList_push wr rfl (.tmp 29) (.tmp 31) 22 rfl w.heap.size 3 (.int .i64 0) 8 Try.underlying22 Try.infoInt rfl _ _ _ _ (by rfl) hv (by rfl) rfl (by omega) (by omega) hsz ?_)
        intro v2 w2 hv2 hgr2 hat2
        have hu2 : Gr w2 w.heap.size 3 u6 k (fun i => .int .i64 ((Ord.flat l n i : Nat) : Int)) := (hu.alloc _).apart hgr2 hap
        have hap2 : Apart u6 v2 := (hap.push hat2 (fun q hq => by have := (hu.ge q hq).2; omega)).symm
        have hs2 : w.Since w.heap.size w2 := (hs.alloc hsz _).grown hgr2 (by simp; omega) (fun k hk => (hv.ge k hk).1)
        have hsz2 : w.heap.size ≤ w2.heap.size := hs2.size
        have hv3 := hv2.congr (g := fun _ => .int .i64 (l : Int)) (fun i _ => by first | rfl | (split <;> rfl))
        clear hv2 hu hv hap hs hgr2 hat2
        go_wp2_with (refine wpList_push w2 rfl (.tmp 40) (.tmp 45) 22 rfl w.heap.size 3 (.int .i64 0) 8 Try.underlying22 Try.infoInt rfl _ _ _ _ (by rfl) hu2 (by rfl) rfl (by omega) (by omega) hsz2 ?_)
        intro u2 w3 hu3 hgr3 hat3
        have hv4 : Gr w3 w.heap.size 3 v2 (k + 1) (fun _ => .int .i64 (l : Int)) := (hv3.alloc _).apart hgr3 hap2
        have hap3 : Apart v2 u2 := (hap2.push hat3 (fun q hq => by have := (hv3.ge q hq).2; omega)).symm
        have hs3 : w.Since w.heap.size w3 := (hs2.alloc hsz2 _).grown hgr3 (by simp; omega) (fun k hk => (hu2.ge k hk).1)
        have hu4 := hu3.congr (g := fun i => .int .i64 ((Ord.flat l n i : Nat) : Int)) (fun i _ => by
          by_cases e : i = k
          · subst e; rw [if_pos rfl, Ord.flat_odd HP.out]; congr 1; omega
          · rw [if_neg e])
        clear hu3 hv3 hu2 hap2 hs2 hgr3 hat3
        go_wp2_with fail
        go_roundg (n - (k + 1))
        case rel => exact ⟨k + 1, by omega, rfl, by go_num, hv4, hu4, hap3, hs3⟩
        case measure => omega
    · obtain rfl : k = n := by omega
      obtain ⟨av, bv, cv, hve, _, hsv⟩ := hv.sees
      obtain ⟨au, bu, cu, hue, _, hsu⟩ := hu.sees
      rw [hve, hue]
      clear hve hue hv hu hap
      go_wp2_with fail
      refine (implReorder_any _ (by omega) hsv (fun i _ => by omega)).mono ?_
      rintro e w1 ⟨ao1, b1, o1, c1, rfl, hs1, hf1, hsi1⟩
      go_wp2_with fail
      refine (same_any _ (by omega) (by omega) hs1 (hsu.since hsi1)).mono ?_
      rintro e w3 ⟨rfl, hsi3⟩
      go_wp2
      go_ret
      exact ⟨ret_bool (by unfold sameB; rw [decide_eq_true_eq]; exact ⟨rfl, fun i hi => by show ((Ord.U (fun _ => (l : Int)) k 126 i : Nat) : Int) = ((Ord.flat l k i : Nat) : Int); rw [Ord.U_one (lv := fun _ => (l : Int)) (l := l) (fun _ _ => rfl) (by omega) hi]⟩), below_of_since (since2 hs (since2 hsi1 hsi3))⟩

/-! ### THE ROW's STEP: WRITTEN OUT: LEAVE IT -/
set_option maxRecDepth 100000 in
theorem lifted (os : Os) (started : os.Started) (H : Type) (enc : TypeId × Value → H) :
    ReturnsInHanded {} Try.checked os 6 .any (Rows.fnReorderOneLevelSpec.pre6 enc Try.prog Try.f6 Rows.fnReorderOneLevelRow.domain false) (Rows.fnReorderOneLevelSpec.post enc Try.prog Try.f6 false true false false) := by
  refine returnsInHanded_of_change (C := Try.checked) own started (by kernel_rfl) Try.func6
    (ChangeSpec.witness6 (enc := enc) (C := Try.checked) false ⟨#[], #[.int .i64 0, .int .i64 0], []⟩ 8 (by kernel_rfl) (by kernel_rfl) (by kernel_rfl) (by kernel_rfl)) ?_
  intro W base args ds gs before hval0 hW hcnd _
  have hval : ∀ (j : Nat) t v, Try.f6.params[j]? = some t → args[j]? = some v → Value.okWide Try.prog W .any base t v := hval0
  have hW' := hW
  obtain ⟨p, q, hA0, hV, rfl, hfz, hnd⟩ := hW
  have hA : DataW.TrodAll enc Try.prog W 0 (fun _ => true) true Try.f6.params.toList args.toList ds p := hA0
  rw [Try.params6] at hA hval
  obtain ⟨v0, vs0, d0, ds0, p0, q0, hargs, rfl, rfl, h0, r0⟩ := trodAll_cons hA
  obtain ⟨v1, vs1, d1, ds1, p1, q1, rfl, rfl, rfl, h1, r1⟩ := trodAll_cons r0
  obtain ⟨rfl, rfl, rfl⟩ := trodAll_nil r1
  obtain rfl : args = #[v0, v1] := by cases args; simp_all
  obtain ⟨rfl, rfl⟩ := trodVars_none hV
  obtain ⟨a0, rfl, rfl, rfl, w0⟩ := open_int Try.underlying3 (hval 0 3 v0 rfl rfl) h0
  obtain ⟨a1, rfl, rfl, rfl, w1⟩ := open_int Try.underlying3 (hval 1 3 v1 rfl rfl) h1
  clear hA0 hval0
  refine (walk a0 a1 w0 w1 W).mono fun e W' ⟨he, hg⟩ => ?_
  subst he
  exact ⟨_, rfl, _, _, _, [], _, [], hW', (trodAll_cons_mk (shut_bool Try.underlying4 _) trodAll_mk0), (trodAll_cons_mk (shut_int Try.underlying3 w0) (trodAll_cons_mk (shut_int Try.underlying3 w1) trodAll_mk0)), rfl, hg.frame _, fun h => by cases h⟩

theorem over : Rows.fnReorderOneLevelRow.holds Try.pinned (OpenSpec.ofChange Rows.fnReorderOneLevelSpec) :=
  OpenClaim.holds_of_wide 6 Try.f6 rfl rfl rfl rfl rfl rfl rfl ⟨rfl, rfl, rfl, rfl, rfl⟩ rfl rfl rfl rfl rfl (by kernel_rfl) Try.func6 (by kernel_rfl)
    (of_decide_eq_true (by kernel_rfl)) (by unfold Func.isWrapper; first | (rw [if_pos (by decide +kernel)]; kernel_rfl) | (rw [if_neg (by decide +kernel)]; exact ⟨rfl, rfl⟩))
    (fun os started H enc _ => lifted os started H enc)

/-- ████ THE STATEMENT ████ -/
theorem proved : Rows.FnReorderOneLevelSaid :=
  over
#print axioms proved
end Go.Proofs.Ytlppmagjgodkjaa.fnReorderOneLevel
