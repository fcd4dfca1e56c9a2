/- spec.Take: the numbers of a list at some places, where the list has them. -/
import Derived.Test.YtkocpijloiamcaaDoorGA
import Derived.Deep.LoopGhost
import Derived.Deep.QuietTactic
import Derived.BigQuiet
import Derived.Lib.Hide
import Derived.OrdersHeld
namespace Go.Proofs.YtkocpijloiamcaaDoor
open Go.RowKit
set_option linter.unusedVariables false

/-- 'x[:1]'. -/
theorem cut_h1 {P : Program} (t e : TypeId) (ht : P.underlying t = some (.slice e)) (hsz : (P.info? e).map (fun i => i.size) = some 1) {w : World} {ao : Option Addr} {b o n c : Nat} {f : Nat → Value} (hs : Sees w ao b o n c f)
    (h1 : 0 < n) : ∃ ao', (∀ wx, (Instr.slice t (.slice ao n c) none (some (.int .i64 1)) none).run P wx = .ok (.slice ao' 1 c) wx) ∧ Sees w ao' b o 1 c f := by
  obtain ⟨i, hi0, hi1⟩ := Option.map_eq_some_iff.1 hsz
  obtain ⟨ao', h2, h3⟩ := cut_lh t e ht hsz hs 0 1 (by omega) (by omega)
  refine ⟨ao', fun wx => ?_, ?_⟩
  · have h4 := h2 wx
    rw [Nat.sub_zero, Nat.sub_zero] at h4
    rw [← h4]
    have q1 : (1 : Int) ≤ (c : Int) := by have := hs.le; omega
    simp [Instr.slice, run_underlying ht, Instr.sliceBounds, run_sliceBound, sizeOf, typeInfo, hi0, q1]
  · rw [Nat.add_zero, Nat.sub_zero, Nat.sub_zero] at h3
    exact h3.congr (fun i _ => by rw [Nat.zero_add])

theorem wpAnyH_mono {P : Program} {ops : Array Oper} {Q : Exit → Act → World → Prop} {md : Region.Mode} {S S' : World → Prop} (h : ∀ w, S' w → S w) :
    ∀ (fuel : Nat) (listed : Array Bool) (a : Act) (w : World), wpAnyH P md ops Q S' fuel listed a w → wpAnyH P md ops Q S fuel listed a w
  | 0, _, _, _, k => k
  | fuel + 1, _, _, _, k => ⟨k.1, fun i hi => wpOp_mono (fun a' w' h' => ⟨h _ h'.1, wpAnyH_mono h fuel _ a' w' h'.2⟩) (k.2 i hi)⟩

theorem since_of_drews {w w' : World} {n : Nat} (h : (w.drew.drewN n).Since (w.drew.drewN n).heap.size w') : w.Since w.heap.size w' := ⟨h.os, h.tape, h.output, h.size, h.block⟩

set_option maxHeartbeats 1000000 in
theorem takeA_any {a1 a2 : Option Addr} {b1 o1 c1 n1 b2 o2 c2 n2 : Nat} {f : Nat → Int} {g : Nat → Nat} (w : World) (hn1 : n1 ≤ 4294967296) (hn2 : n2 ≤ 4294967296) (hlt : ∀ i, i < n2 → g i < n1)
    (h1 : Sees w a1 b1 o1 n1 c1 (fun i => .int .i64 (f i))) (h2 : Sees w a2 b2 o2 n2 c2 (fun i => .int .i64 ((g i : Nat) : Int))) :
    Calls Tryd.prog 16 #[.slice a1 n1 c1, .slice a2 n2 c2] w (RetSees w n2 (fun i => .int .i64 (f (g i)))) := by
  have HLT := Lib.hid hlt
  have hg0 := Gr.empty w w.heap.size 3 (fun i => .int .i64 (f (g i))) (Nat.le_refl _)
  have hs0 : w.Since w.heap.size (w.alloc (.cells #[] 3)) := (World.Since.refl _ _).alloc (Nat.le_refl _) _
  clear hlt
  go_enter Tryd.func16, Tryd.ntmps16
  go_wp2_with fail
  go_loopg [5, 7, 11] n2 (fun q v _ i wr => ∃ k : Nat, k ≤ n2 ∧ q = n2 - k ∧ i = .int .i64 k ∧ Gr wr w.heap.size 3 v k (fun i => .int .i64 (f (g i))) ∧ w.Since w.heap.size wr)
  case atStart => exact ⟨0, Nat.zero_le _, rfl, rfl, hg0, hs0⟩
  case round =>
    obtain ⟨k, hk, rfl, rfl, hg, hs⟩ := hrel
    clear hg0 hs0
    by_cases hkn : k < n2
    · have hkz : (k : Int) < (n2 : Int) := by omega
      obtain ⟨rfl, hc⟩ := (h2.since hs).get hkn
      have hp := HLT.out k hkn
      obtain ⟨p, hpp⟩ : ∃ p, p = g k := ⟨_, rfl⟩
      rw [← hpp] at hc hp
      have HP := Lib.hid hpp
      obtain ⟨rfl, hf⟩ := (h1.since hs).get hp
      have hpz : (p : Int) < (n1 : Int) := by omega
      have hp0 : (0 : Int) ≤ (p : Int) := by omega
      have hpn : ¬ (p : Int) < 0 := by omega
      have hpn2 : ¬ (n1 : Int) ≤ (p : Int) := by omega
      have hsz : w.heap.size ≤ wr.heap.size := hs.size
      have hk64 : k ≤ 4294967296 := by omega
      clear hpp
      go_wp2_with (at_builtin; go_must (refine wpList_push wr rfl _ _ 22 rfl w.heap.size 3 (.int .i64 0) 8 Tryd.underlying22 Tryd.infoInt rfl _ _ _ _ (by rfl) hg (by rfl) rfl hk64 (by omega) hsz ?_))
      intro v' w2 hg2 hgr2 hat
      have hs2 : w.Since w.heap.size w2 := (hs.alloc hsz _).grown hgr2 (by simp; omega) (fun k hk => (hg.ge k hk).1)
      have hg3 := hg2.congr (g := fun i => .int .i64 (f (g i))) (fun i _ => by
        by_cases e : i = k
        · rw [if_pos e, e, ← HP.out]
        · rw [if_neg e])
      clear hg hs hg2 hgr2 hat hc hf
      go_wp2_with fail
      go_roundg (n2 - (k + 1))
      case rel => exact ⟨k + 1, by omega, rfl, by go_num, hg3, hs2⟩
      case measure => omega
    · obtain rfl : k = n2 := by omega
      go_wp2_with fail
      go_ret
      exact hg.ret hs (Nat.le_refl _)
end Go.Proofs.YtkocpijloiamcaaDoor
