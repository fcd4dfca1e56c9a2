/- bidi.bare, bidi.Isolates, impl.Isolates. -/
import Derived.Test.YtckffgcmeajbdaaDoorDmi
import Derived.Test.YtckffgcmeajbdaaDoorCopy
namespace Go.Proofs.YtckffgcmeajbdaaDoor
open Go.RowKit

/-- A new paragraph with two lists of the same classes. -/
structure Bare (w : World) (n : Nat) (c : Nat → Int) (p : Nat) (w' : World) : Prop where
  rows : ∃ a0 c0 b0 a4 c4 b4, w'.rowIs p 51 8 (pf (.slice a0 n c0) (.slice none 0 0) (.slice none 0 0) (.int .i8 0) (.slice a4 n c4) (.slice none 0 0) (.slice none 0 0) (.slice none 0 0)) ∧
    Sees w' a0 b0 0 n c0 (fun i => .int .u64 (c i)) ∧ Sees w' a4 b4 0 n c4 (fun i => .int .u64 (c i)) ∧ (0 < n → b0 ≠ p ∧ b4 ≠ p ∧ b0 ≠ b4) ∧ w.heap.size ≤ b0 ∧ w.heap.size ≤ b4 ∧
    Gr w' w.heap.size 53 (.slice a4 n c4) n (fun i => .int .u64 (c i))
  ge : w.heap.size ≤ p
  since : w.Since w.heap.size w'

set_option maxHeartbeats 1000000 in
theorem bare_any {ao : Option Addr} {b o n cc : Nat} {c : Nat → Int} (w : World) (hn : n ≤ 4294967296) (hx : Sees w ao b o n cc (fun i => .int .u64 (c i))) :
    Calls Tryd.prog 29 #[.slice ao n cc] w fun e w' => ∃ p, e = .returned (.pointer (some ⟨p, 0, none⟩)) ∧ Bare w n c p w' := by
  have g1 := Gr.empty w w.heap.size 53 (fun _ => .int .u64 0) (Nat.le_refl _)
  have hs1 : w.Since w.heap.size (w.alloc (.cells #[] 53)) := (World.Since.refl _ _).alloc (Nat.le_refl _) _
  have hx1 := hx.since hs1
  go_enter Tryd.func29, Tryd.ntmps29
  go_wp2_with (refine wpList_cat _ rfl (.tmp 3) (.tmp 4) 36 rfl w.heap.size 53 (.int .u64 0) 8 Tryd.underlying36 Tryd.infoClass rfl _ _ _ (by rfl) g1 (by rfl) hx1 (fun _ _ => rfl) (by omega) (by omega) (by simp) ?_)
  intro v2 w2 hg2 hgr2 _
  have hs2 : w.Since w.heap.size w2 := hs1.grown hgr2 (by simp) (by simp [Value.ownBlock])
  have hg2' : Gr w2 w.heap.size 53 v2 n (fun i => .int .u64 (c i)) := by first | exact hg2 | (rw [Nat.zero_add] at hg2; exact hg2.congr fun i _ => by simp)
  have hx2 := hx.since hs2
  have hz2 : w.heap.size ≤ w2.heap.size := hs2.size
  clear g1 hs1 hx1 hg2 hgr2 hx
  have g3 := Gr.empty w2 w2.heap.size 53 (fun _ => .int .u64 0) (Nat.le_refl _)
  have hsA : w2.Since w2.heap.size (w2.alloc (.cells #[] 53)) := (World.Since.refl _ _).alloc (Nat.le_refl _) _
  have hx3 := hx2.since hsA
  go_wp2_with (refine wpList_cat _ rfl (.tmp 6) (.tmp 7) 36 rfl w2.heap.size 53 (.int .u64 0) 8 Tryd.underlying36 Tryd.infoClass rfl _ _ _ (by rfl) g3 (by rfl) hx3 (fun _ _ => rfl) (by omega) (by omega) (by simp) ?_)
  intro v4 w4 hg4 hgr4 _
  have hs4' : w2.Since w2.heap.size w4 := hsA.grown hgr4 (by simp) (by simp [Value.ownBlock])
  have hg4' : Gr w4 w2.heap.size 53 v4 n (fun i => .int .u64 (c i)) := by first | exact hg4 | (rw [Nat.zero_add] at hg4; exact hg4.congr fun i _ => by simp)
  have hg2'' := hg2'.since hs4'
  have hs4 := since2 hs2 hs4'
  clear g3 hsA hx3 hg4 hgr4 hx2
  obtain ⟨a0, b0, c0, rfl, hb0, hse0⟩ := hg2''.sees
  obtain ⟨a4, b4, c4, rfl, hb4, hse4⟩ := hg4'.sees
  have hlt0 : 0 < n → b0 < w2.heap.size := fun h => by
    obtain ⟨bx, hbx, hsx⟩ := hg2'.see
    have e1 := (hsx.get h).1
    have e2 := (hse0.get h).1
    rw [e1] at e2
    simp only [Option.some.injEq, Addr.mk.injEq] at e2
    have := hsx.lt h
    omega
  have hlt4 : 0 < n → b4 < w4.heap.size := fun h => hse4.lt h
  have hsz : w2.heap.size ≤ w4.heap.size := hs4'.size
  clear hg2' hg2'' hs2 hs4'
  go_wp2
  go_ret
  refine ⟨w4.heap.size, rfl, ⟨a0, c0, b0, a4, c4, b4, ?_, hse0.since ((World.Since.refl _ _).alloc (Nat.le_refl _) _), hse4.since ((World.Since.refl _ _).alloc (Nat.le_refl _) _), fun h => ?_, hb0, by omega, (hg4'.alloc _).base hz2⟩, hs4.size, hs4.alloc hs4.size _⟩
  · refine World.rowIs_alloc w4 #[_, _, _, _, _, _, _, _] _ _ (fun i hi => ?_)
    match i, hi with
    | 0, _ => rfl
    | 1, _ => rfl
    | 2, _ => rfl
    | 3, _ => rfl
    | 4, _ => rfl
    | 5, _ => rfl
    | 6, _ => rfl
    | 7, _ => rfl
  · have := hlt0 h; have := hlt4 h
    omega

/-- Two slices come back. -/
def RetTwo (w : World) (n : Nat) (f g : Nat → Value) (e : Ending) (w' : World) : Prop :=
  ∃ a b o c a' b' o' c', e = .returned (.tuple #[.slice a n c, .slice a' n c']) ∧ Sees w' a b o n c f ∧ Sees w' a' b' o' n c' g ∧ w.Since w.heap.size w'

set_option maxHeartbeats 1000000 in
theorem bidiIsolates_any {ao : Option Addr} {b o n cc : Nat} {c : Nat → Int} (w : World) (hn : n ≤ 4294967296) (hx : Sees w ao b o n cc (fun i => .int .u64 (c i))) :
    Calls Tryd.prog 21 #[.slice ao n cc] w (RetTwo w n (fun i => .int .i64 (mt (iniC c) (pdiC c) n i)) (fun i => .int .i64 (bg (iniC c) (pdiC c) n n i))) := by
  go_enter Tryd.func21, Tryd.ntmps21
  go_wp2_with fail
  refine (bare_any _ hn hx).mono ?_
  rintro e w1 ⟨p, rfl, ⟨a0, c0, b0, a4, c4, b4, hp, hs0, hs4, hne, hb0, hb4, _⟩, hge, hsi⟩
  go_wp2_with fail
  refine (dmi_any (f1 := .slice none 0 0) (f2 := .slice none 0 0) (f3 := .int .i8 0) (f5 := .slice none 0 0) _ hn hp hs4 (fun h => (hne h).2.1)).mono ?_
  rintro e w2 ⟨rfl, hM⟩
  have k6 : w2.cell? ⟨p, 6, none⟩ = some (.slice (some ⟨w1.heap.size, 0, none⟩) n n) := hM.para.cell (by omega)
  have k7 : w2.cell? ⟨p, 7, none⟩ = some (.slice (some ⟨w1.heap.size + 1, 0, none⟩) n n) := hM.para.cell (by omega)
  have hs2 : w.Since w.heap.size w2 := ⟨hM.kept.os.trans hsi.os, hM.kept.tape.trans hsi.tape, hM.kept.output.trans hsi.output, Nat.le_trans hsi.size hM.kept.size, fun k hk => (hM.kept.block k (Nat.lt_of_lt_of_le hk hsi.size) (by omega)).trans (hsi.block k hk)⟩
  have e1 := Sees.ofRow hM.ends
  have e2 := Sees.ofRow hM.begins
  clear hM hp hs0 hs4 hne hsi
  go_wp2
  go_quiet (fail)
  go_wp2
  go_ret2
  exact ⟨_, _, _, _, _, _, _, _, rfl, e1.since (since_drewN (World.Since.refl _ _) _), e2.since (since_drewN (World.Since.refl _ _) _), since_drewN hs2 _⟩

set_option maxHeartbeats 1000000 in
theorem implIsolates_any {ao : Option Addr} {b o n cc : Nat} {x : Nat → Int} (w : World) (ht : Tab w) (hn : n ≤ 4294967296) (hx : Sees w ao b o n cc (fun i => .int .i64 (x i))) :
    Calls Tryd.prog 10 #[.slice ao n cc] w (RetTwo w n (fun i => .int .i64 (mt (iniC fun i => cls (x i)) (pdiC fun i => cls (x i)) n i)) (fun i => .int .i64 (bg (iniC fun i => cls (x i)) (pdiC fun i => cls (x i)) n n i))) := by
  go_enter Tryd.func10, Tryd.ntmps10
  go_wp2_with fail
  refine (classesOf_any _ ht hn hx).mono ?_
  rintro e w1 ⟨ao1, b1, o1, c1, rfl, hs1, hf1, hsi1⟩
  go_wp2_with fail
  refine (bidiIsolates_any _ hn hs1).mono ?_
  rintro e w2 ⟨a2, b2, o2, c2, a3, b3, o3, c3, rfl, hs2, hs3, hsi2⟩
  go_wp2_with fail
  refine (copyOf_any _ hn hs2).mono ?_
  rintro e w3 ⟨ao4, b4, o4, c4, rfl, hs4, hf4, hsi3⟩
  go_wp2_with fail
  refine (copyOf_any _ hn (hs3.since hsi3)).mono ?_
  rintro e w4 ⟨ao5, b5, o5, c5, rfl, hs5, hf5, hsi4⟩
  go_wp2
  go_ret2
  exact ⟨_, _, _, _, _, _, _, _, rfl, hs4.since hsi4, hs5, since2 hsi1 (since2 hsi2 (since2 hsi3 hsi4))⟩

end Go.Proofs.YtckffgcmeajbdaaDoor
