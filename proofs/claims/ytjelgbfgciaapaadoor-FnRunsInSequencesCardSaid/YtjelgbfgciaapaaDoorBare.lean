/- bidi.bare, bidi.Isolates, impl.Isolates. -/
import Derived.Test.YtjelgbfgciaapaaDoorDmi
import Derived.Test.YtjelgbfgciaapaaDoorCopy
namespace Go.Proofs.YtjelgbfgciaapaaDoor
open Go.RowKit

/-- A new paragraph with two lists of the same classes. -/
structure Bare (w : World) (n : Nat) (c : Nat → Int) (p : Nat) (w' : World) : Prop where
  rows : ∃ a0 c0 b0 a4 c4 b4, w'.rowIs p 79 8 (pf (.slice a0 n c0) (.slice none 0 0) (.slice none 0 0) (.int .i8 0) (.slice a4 n c4) (.slice none 0 0) (.slice none 0 0) (.slice none 0 0)) ∧
    Sees w' a0 b0 0 n c0 (fun i => .int .u64 (c i)) ∧ Sees w' a4 b4 0 n c4 (fun i => .int .u64 (c i)) ∧ (0 < n → b0 ≠ p ∧ b4 ≠ p ∧ b0 ≠ b4) ∧ w.heap.size ≤ b0 ∧ w.heap.size ≤ b4 ∧
    Gr w' w.heap.size 67 (.slice a4 n c4) n (fun i => .int .u64 (c i))
  ge : w.heap.size ≤ p
  since : w.Since w.heap.size w'

set_option maxHeartbeats 1000000 in
theorem bare_any {ao : Option Addr} {b o n cc : Nat} {c : Nat → Int} (w : World) (hn : n ≤ 4294967296) (hx : Sees w ao b o n cc (fun i => .int .u64 (c i))) :
    Calls Tryd.prog 49 #[.slice ao n cc] w fun e w' => ∃ p, e = .returned (.pointer (some ⟨p, 0, none⟩)) ∧ Bare w n c p w' := by
  have g1 := Gr.empty w w.heap.size 67 (fun _ => .int .u64 0) (Nat.le_refl _)
  have hs1 : w.Since w.heap.size (w.alloc (.cells #[] 67)) := (World.Since.refl _ _).alloc (Nat.le_refl _) _
  have hx1 := hx.since hs1
  go_enter Tryd.func49, Tryd.ntmps49
  go_wp2_with (refine wpList_cat _ rfl (.tmp 3) (.tmp 4) 53 rfl w.heap.size 67 (.int .u64 0) 8 Tryd.underlying53 Tryd.infoClass rfl _ _ _ (by rfl) g1 (by rfl) hx1 (fun _ _ => rfl) (by omega) (by omega) (by simp) ?_)
  intro v2 w2 hg2 hgr2 _
  have hs2 : w.Since w.heap.size w2 := hs1.grown hgr2 (by simp) (by simp [Value.ownBlock])
  have hg2' : Gr w2 w.heap.size 67 v2 n (fun i => .int .u64 (c i)) := by first | exact hg2 | (rw [Nat.zero_add] at hg2; exact hg2.congr fun i _ => by simp)
  have hx2 := hx.since hs2
  have hz2 : w.heap.size ≤ w2.heap.size := hs2.size
  clear g1 hs1 hx1 hg2 hgr2 hx
  have g3 := Gr.empty w2 w2.heap.size 67 (fun _ => .int .u64 0) (Nat.le_refl _)
  have hsA : w2.Since w2.heap.size (w2.alloc (.cells #[] 67)) := (World.Since.refl _ _).alloc (Nat.le_refl _) _
  have hx3 := hx2.since hsA
  go_wp2_with (refine wpList_cat _ rfl (.tmp 6) (.tmp 7) 53 rfl w2.heap.size 67 (.int .u64 0) 8 Tryd.underlying53 Tryd.infoClass rfl _ _ _ (by rfl) g3 (by rfl) hx3 (fun _ _ => rfl) (by omega) (by omega) (by simp) ?_)
  intro v4 w4 hg4 hgr4 _
  have hs4' : w2.Since w2.heap.size w4 := hsA.grown hgr4 (by simp) (by simp [Value.ownBlock])
  have hg4' : Gr w4 w2.heap.size 67 v4 n (fun i => .int .u64 (c i)) := by first | exact hg4 | (rw [Nat.zero_add] at hg4; exact hg4.congr fun i _ => by simp)
  have hg2'' := hg2'.since hs4'
  have hs4 := since2 hs2 hs4'
  clear g3 hsA hx3 hg4 hgr4 hx2
  obtain ⟨a0, b0, c0, rfl, hb0, hse0⟩ := hg2''.sees
  obtain ⟨a4, b4, c4, rfl, hb4, hse4⟩ := hg4'.sees
  have hlt0 : 0 < n → b0 < w2.heap.size := fun h => by
    obtain ⟨bx, hbx, hsx⟩ := hg2'.see
    have e1 := (hsx.get h).1
    have e2 := (hse0.get h).1
    rw [e1] at e2
    simp only [Option.some.injEq, Addr.mk.injEq] at e2
    have := hsx.lt h
    omega
  have hlt4 : 0 < n → b4 < w4.heap.size := fun h => hse4.lt h
  have hsz : w2.heap.size ≤ w4.heap.size := hs4'.size
  clear hg2' hg2'' hs2 hs4'
  go_wp2
  go_ret
  refine ⟨w4.heap.size, rfl, ⟨a0, c0, b0, a4, c4, b4, ?_, hse0.since ((World.Since.refl _ _).alloc (Nat.le_refl _) _), hse4.since ((World.Since.refl _ _).alloc (Nat.le_refl _) _), fun h => ?_, hb0, by omega, (hg4'.alloc _).base hz2⟩, hs4.size, hs4.alloc hs4.size _⟩
  · refine World.rowIs_alloc w4 #[_, _, _, _, _, _, _, _] _ _ (fun i hi => ?_)
    match i, hi with
    | 0, _ => rfl
    | 1, _ => rfl
    | 2, _ => rfl
    | 3, _ => rfl
    | 4, _ => rfl
    | 5, _ => rfl
    | 6, _ => rfl
    | 7, _ => rfl
  · have := hlt0 h; have := hlt4 h
    omega

end Go.Proofs.YtjelgbfgciaapaaDoor
