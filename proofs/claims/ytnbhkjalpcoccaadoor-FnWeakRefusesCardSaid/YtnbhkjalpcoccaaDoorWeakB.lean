/- bidi.Weak, impl.Weak. -/
import Derived.Test.YtnbhkjalpcoccaaDoorNeuB
import Derived.Test.YtnbhkjalpcoccaaDoorWeakW
namespace Go.Proofs.YtnbhkjalpcoccaaDoor
open Go.RowKit

theorem kept_cls : Kept (fun _ a b => a = cls b ∧ clsOk b) := by
  refine ⟨fun _ v h => ?_, fun _ a b h => ?_⟩
  · have : clsOk v := by unfold clsOk; omega
    have := cls_cases this
    unfold clsOk; omega
  · have := cls_cases h.2
    have h1 := h.1
    unfold Alike; omega

theorem pr_cls {x : Nat → Int} {s : Int} (hs : s = 0 ∨ s = 1) : ∀ i, (∀ j, j < i → clsOk (x j)) → pr (fun i => cls (x i)) s i = cls (pr x s i) ∧ clsOk (pr x s i)
  | 0, _ => by rw [pr, pr]; rcases hs with rfl | rfl <;> exact ⟨rfl, by unfold clsOk; omega⟩
  | i + 1, h => by
    have hi := h i (by omega)
    have hc := cls_cases hi
    rw [pr, pr]
    by_cases e : x i = 12
    · rw [if_pos e, if_pos (by omega)]; exact pr_cls hs i (fun j hj => h j (by omega))
    · rw [if_neg e, if_neg (by omega)]; exact ⟨rfl, hi⟩

theorem weak_cls {n : Nat} {x : Nat → Int} {s : Int} (hs : s = 0 ∨ s = 1) (hok : ∀ i, i < n → clsOk (x i)) {i : Nat} (hi : i < n) : weakI n s (fun i => cls (x i)) i = cls (weakI n s x i) ∧ clsOk (weakI n s x i) :=
  wrest_rel kept_cls (fun i hi => pr_cls hs (i + 1) (fun j hj => hok j (by omega))) hi

theorem cls_ofWeak {y : Int} (h : clsOk y) : memB weakL (cls y) = memB ofWeak y := by
  have hc := cls_cases h
  unfold clsOk at h
  rw [Bool.eq_iff_iff, memB_iff, memB_iff]
  unfold weakL ofWeak
  simp only [List.mem_cons, List.not_mem_nil, or_false]
  omega

theorem all_ofWeak {n : Nat} {x : Nat → Int} (h : ∀ i, i < n → clsOk (x i)) : allB weakL (fun i => cls (x i)) n = allB ofWeak x n := by
  unfold allB
  rw [Bool.eq_iff_iff, decide_eq_true_eq, decide_eq_true_eq]
  exact ⟨fun q i hi => by rw [← cls_ofWeak (h i hi)]; exact q i hi, fun q i hi => by rw [cls_ofWeak (h i hi)]; exact q i hi⟩

set_option maxHeartbeats 1000000 in
theorem bidiWeak_any {ao : Option Addr} {b o n cc : Nat} {x : Nat → Int} {sos eos : Int} (w : World) (hn : n ≤ 4294967296) (h0 : 0 < n) (hsos : sos = 0 ∨ sos = 1) (heos : eos = 0 ∨ eos = 1) (hok : ∀ i, i < n → clsOk (x i)) (hx : Sees w ao b o n cc (fun i => .int .u64 (cls (x i)))) :
    Calls Tryd.prog 32 #[.slice ao n cc, .int .u64 sos, .int .u64 eos] w fun e w' =>
      (allB ofWeak x n = true ∧ RetSees w n (fun i => .int .u64 (cls (weakI n sos x i))) e w') ∨ (allB ofWeak x n = false ∧ Died e ∧ w.Since w.heap.size w') := by
  have HOK := Lib.hid hok
  clear hok
  go_enter Tryd.func32, Tryd.ntmps32
  go_wp2_with fail
  refine (sequence_any _ hn h0 hx).mono ?_
  rintro e w1 ⟨S, q, cap, rfl, hS⟩
  have hqB := (hS.types.ge q rfl).1
  go_wp2_with fail
  refine (resolveWeak_any _ hn h0 hsos heos hS.row hS.types hS.ne).mono ?_
  rintro e w2 ⟨h, hk⟩
  have hs2 : w.Since w.heap.size w2 := ⟨hk.os.trans hS.since.os, hk.tape.trans hS.since.tape, hk.output.trans hS.since.output, Nat.le_trans hS.since.size hk.size, fun k hk' => (hk.block k (Nat.lt_of_lt_of_le hk' hS.since.size) (by omega)).trans (hS.since.block k hk')⟩
  rcases h with ⟨hall, rfl, hG⟩ | ⟨hbad, u, pv, rfl⟩
  · rw [all_ofWeak HOK.out] at hall
    have k2 : w2.cell? ⟨S, 2, none⟩ = some (.slice (some ⟨q, 0, none⟩) n cap) := (hk.row hS.row (fun e => hS.ne e.symm)).cell (by omega)
    have HALL := Lib.hid hall
    clear hall
    go_wp2_with fail
    go_ret
    exact .inl ⟨HALL.out, _, q, 0, _, rfl, (hG.sees' h0).congr (fun i hi => by rw [(weak_cls hsos HOK.out hi).1]), hqB, hs2⟩
  · rw [all_ofWeak HOK.out] at hbad
    have HBAD := Lib.hid hbad
    clear hbad
    go_wp2_with fail
    exact ⟨rfl, .inr ⟨HBAD.out, ⟨_, _, rfl⟩, hs2⟩⟩

theorem caughtWeak (p1 p2 : Addr) (v1 v2 : Value) (u : TypeId) (pv : Value) (older : List PanicEntry) (w : World) (h1 : w.cell? p1 = some v1) (z1 : w.frozen? p1 = false) (h2 : (w.setCell p1 (.slice none 0 0)).cell? p2 = some v2) (z2 : (w.setCell p1 (.slice none 0 0)).frozen? p2 = false) :
    CallsD Tryd.prog 31 #[.pointer (some p1), .pointer (some p2)] (.panicking ({ v := .iface u pv, recovered := false } :: older)) w fun e u' w' =>
      e = .returned (.tuple #[]) ∧ u' = .panicking ({ v := .iface u pv, recovered := true } :: older) ∧ w' = (w.setCell p1 (.slice none 0 0)).setCell p2 (.bool false) := by
  refine callsD_of_wpS Tryd.func31 rfl fun c₀ cs hu => ?_
  apply wpS_seq
  apply wpS_region
  simp [wpOpsS, go_sem, recoverD, hu, Tryd.ntmps31, Exit.thenS]
  refine wpS_cond (t := true) (by simp [Act.eval, Array.replicate]) ?_
  simp only [if_true]
  apply wpS_region
  simp [wpOpsS, go_sem, h1, z1, h2, z2, bodyPostS, results, Tryd.results31]

theorem idleWeak (p1 p2 : Addr) (w : World) :
    CallsD Tryd.prog 31 #[.pointer (some p1), .pointer (some p2)] .returning w fun e u' w' => e = .returned (.tuple #[]) ∧ u' = .returning ∧ w' = w := by
  refine callsD_of_wpS Tryd.func31 rfl fun c₀ cs hu => ?_
  apply wpS_seq
  apply wpS_region
  simp [wpOpsS, go_sem, recoverD, hu, Tryd.ntmps31, Exit.thenS]
  refine wpS_cond (t := false) (by simp [Act.eval, Array.replicate]) ?_
  simp only [Bool.false_eq_true, if_false]
  refine wpS_of_wp (wp_skip ?_)
  cases c₀
  simp_all [bodyPostS, results, Tryd.results31]

set_option maxHeartbeats 1000000 in
theorem implWeak_any {ao : Option Addr} {b o n cc : Nat} {x : Nat → Int} {s0 e0 : Int} (w : World) (ht : Tab w) (hn : n ≤ 4294967296) (h0 : 0 < n) (hs : s0 = 0 ∨ s0 = 1) (he : e0 = 0 ∨ e0 = 1) (hok : ∀ i, i < n → clsOk (x i)) (hx : Sees w ao b o n cc (fun i => .int .i64 (x i))) :
    Calls Tryd.prog 18 #[.slice ao n cc, .int .i64 s0, .int .i64 e0] w (PRet w n (allB ofWeak x n) (weakI n s0 x)) := by
  have hmf : ∀ (fn : Fn) (first cap : Array Value) (w : World), (Instr.makeFunc fn first cap).run Tryd.prog w = .ok (.func fn first cap) w := fun _ _ _ _ => rfl
  have hsA : w.Since w.heap.size ((w.alloc (.cells #[.slice none 0 0] 22)).alloc (.cells #[.bool false] 4)) := ((World.Since.refl _ _).alloc (Nat.le_refl _) _).alloc (by simp) _
  have r1 : ((w.alloc (.cells #[.slice none 0 0] 22)).alloc (.cells #[.bool false] 4)).rowIs w.heap.size 22 1 (fun _ => .slice none 0 0) := (World.rowIs_alloc w #[.slice none 0 0] 22 (fun _ => .slice none 0 0) (fun i hi => by simp at hi; subst hi; rfl)).alloc _
  have r2 : ((w.alloc (.cells #[.slice none 0 0] 22)).alloc (.cells #[.bool false] 4)).rowIs (w.heap.size + 1) 4 1 (fun _ => .bool false) := by
    have := World.rowIs_alloc (w.alloc (.cells #[.slice none 0 0] 22)) #[.bool false] 4 (fun _ => .bool false) (fun i hi => by simp at hi; subst hi; rfl)
    rw [World.size_alloc] at this; exact this
  have HOK := Lib.hid hok
  clear hok
  go_enter_defers Tryd.func18, Tryd.ntmps18
  go_wp2_with fail
  generalize hwA : (w.alloc (.cells #[.slice none 0 0] 22)).alloc (.cells #[.bool false] 4) = wA at hsA r1 r2 ⊢
  have hz : wA.heap.size = w.heap.size + 2 := by rw [← hwA]; simp
  refine (classesOf_any _ (ht.since hsA) hn (hx.since hsA)).mono ?_
  rintro e w1 ⟨ao1, b1, o1, c1, rfl, hs1, hf1, hsi1⟩
  have hs01 := since2 hsA hsi1
  go_wp2_with fail
  refine (classOf_any _ _ (ht.since hs01)).mono ?_
  rintro e w1' ⟨rfl, rfl⟩
  go_wp2_with fail
  refine (classOf_any _ _ (ht.since hs01)).mono ?_
  rintro e w1' ⟨rfl, rfl⟩
  rw [cls_side hs, cls_side he]
  go_wp2_with fail
  refine (bidiWeak_any _ hn h0 hs he HOK.out hs1).mono ?_
  rintro e w2 (⟨hall, ao2, b2, o2, c2, rfl, hs2, hf2, hsi2⟩ | ⟨hbad, ⟨u, pv, rfl⟩, hsi2⟩)
  · have HALL := Lib.hid hall
    have hok2 : ∀ i, i < n → clsOk (weakI n s0 x i) := fun i hi => (weak_cls hs HOK.out hi).2
    have HOK2 := Lib.hid hok2
    clear hall hok2
    go_wp2_with fail
    refine (numbersOf_any _ (ht.since (since2 hs01 hsi2)) hn HOK2.out hs2).mono ?_
    rintro e w3 ⟨ao3, b3, o3, c3, rfl, hs3, hf3, hsi3⟩
    have hsA3 : wA.Since wA.heap.size w3 := since2 hsi1 (since2 hsi2 hsi3)
    have R1 := r1.of_block (hsA3.block _ r1.lt)
    have R2 := r2.of_block (hsA3.block _ r2.lt)
    have q1 := R1.cell (i := 0) (by omega)
    have q2 := R2.cell (i := 0) (by omega)
    have z1 := R1.frozen 0
    have z2 := R2.frozen 0
    have hz2 : wA.heap.size ≤ b3 := Nat.le_trans (since2 hsi1 hsi2).size hf3
    have hfin : w.Since w.heap.size ((w3.setCell ⟨w.heap.size, 0, none⟩ (.slice ao3 n c3)).setCell ⟨w.heap.size + 1, 0, none⟩ (.bool true)) := ((since2 hsA hsA3).setCell (a := ⟨w.heap.size, 0, none⟩) (Nat.le_refl _) _).setCell (a := ⟨w.heap.size + 1, 0, none⟩) (by show w.heap.size ≤ w.heap.size + 1; omega) _
    have hsees : Sees ((w3.setCell ⟨w.heap.size, 0, none⟩ (.slice ao3 n c3)).setCell ⟨w.heap.size + 1, 0, none⟩ (.bool true)) ao3 b3 o3 n c3 (fun i => .int .i64 (weakI n s0 x i)) :=
      (hs3.kept (fun _ => Go.Deep.blk_setCell_other _ _ _ _ (by show b3 ≠ w.heap.size; omega))).kept (fun _ => Go.Deep.blk_setCell_other _ _ _ _ (by show b3 ≠ w.heap.size + 1; omega))
    have f1 : ((w3.setCell ⟨w.heap.size, 0, none⟩ (.slice ao3 n c3)).setCell ⟨w.heap.size + 1, 0, none⟩ (.bool true)).cell? ⟨w.heap.size, 0, none⟩ = some (.slice ao3 n c3) := ((R1.set 0 (.slice ao3 n c3)).setOther (by show w.heap.size ≠ w.heap.size + 1; omega) _).cell (i := 0) (by omega)
    have f2 : ((w3.setCell ⟨w.heap.size, 0, none⟩ (.slice ao3 n c3)).setCell ⟨w.heap.size + 1, 0, none⟩ (.bool true)).cell? ⟨w.heap.size + 1, 0, none⟩ = some (.bool true) := ((R2.setOther (by show w.heap.size + 1 ≠ w.heap.size; omega) _).set 0 (.bool true)).cell (i := 0) (by omega)
    go_wp2_with fail
    refine leaves_cons (f := 31) (args := #[.pointer (some ⟨w.heap.size, 0, none⟩), .pointer (some ⟨w.heap.size + 1, 0, none⟩)]) (by simp) (by simp [go_sem]) ?_
    refine (idleWeak _ _ _).mono ?_
    rintro e u' w'' ⟨rfl, rfl, rfl⟩
    simp [Leaves, settle, results, Tryd.results18, go_sem, f1, f2]
    exact ⟨.inl ⟨HALL.out, _, _, _, _, rfl, hsees, by omega⟩, hfin⟩
  · have hsA2 : wA.Since wA.heap.size w2 := since2 hsi1 hsi2
    have R1 := r1.of_block (hsA2.block _ r1.lt)
    have R2 := r2.of_block (hsA2.block _ r2.lt)
    have hfin : w.Since w.heap.size ((w2.setCell ⟨w.heap.size, 0, none⟩ (.slice none 0 0)).setCell ⟨w.heap.size + 1, 0, none⟩ (.bool false)) := ((since2 hsA hsA2).setCell (a := ⟨w.heap.size, 0, none⟩) (Nat.le_refl _) _).setCell (a := ⟨w.heap.size + 1, 0, none⟩) (by show w.heap.size ≤ w.heap.size + 1; omega) _
    have R1' := (R1.set 0 (.slice none 0 0)).setOther (a := ⟨w.heap.size + 1, 0, none⟩) (by show w.heap.size ≠ w.heap.size + 1; omega) (.bool false)
    have R2' := R2.setOther (a := ⟨w.heap.size, 0, none⟩) (by show w.heap.size + 1 ≠ w.heap.size; omega) (.slice none 0 0)
    have f1 := R1'.cell (i := 0) (by omega)
    have f2 := (R2'.set 0 (.bool false)).cell (i := 0) (by omega)
    simp only [if_true] at f1 f2
    have HBAD := Lib.hid hbad
    clear hbad
    go_wp2_with fail
    refine leaves_cons (f := 31) (args := #[.pointer (some ⟨w.heap.size, 0, none⟩), .pointer (some ⟨w.heap.size + 1, 0, none⟩)]) (by simp) (by simp [go_sem]) ?_
    refine (caughtWeak ⟨w.heap.size, 0, none⟩ ⟨w.heap.size + 1, 0, none⟩ _ _ u pv [] _ (R1.cell (i := 0) (by omega)) (R1.frozen 0) (R2'.cell (i := 0) (by omega)) (R2'.frozen 0)).mono ?_
    rintro e u' w'' ⟨rfl, rfl, rfl⟩
    simp [Leaves, settle, results, Tryd.results18, go_sem, f1, f2]
    exact ⟨.inr ⟨HBAD.out, rfl⟩, hfin⟩

end Go.Proofs.YtnbhkjalpcoccaaDoor
