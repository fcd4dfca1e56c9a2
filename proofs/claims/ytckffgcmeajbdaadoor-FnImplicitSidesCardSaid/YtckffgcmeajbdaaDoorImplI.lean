/- bidi.numbers, impl.largeOf, bidi.Implicit, impl.Implicit. -/
import Derived.Test.YtckffgcmeajbdaaDoorImpl
import Derived.Recover
namespace Go.Proofs.YtckffgcmeajbdaaDoor
open Go.RowKit

set_option maxHeartbeats 400000 in
/-- Levels as int8. -/
theorem numbers_any {ao : Option Addr} {b o n cc : Nat} {x : Nat → Int} (w : World) (hn : n ≤ 4294967296) (hx : Sees w ao b o n cc (fun i => .int .i8 (x i))) :
    Calls Tryd.prog 36 #[.slice ao n cc] w (RetSees w n (fun i => .int .i8 (x i))) := by
  have hmk := run_make_row' (P := Tryd.prog) 42 38 (.int .i8 0) 1 Tryd.underlying42 Tryd.infoInt8 rfl .i64 .i64 n (by omega) (by omega)
  go_enter Tryd.func36, Tryd.ntmps36
  go_wp2
  clear hmk
  go_loopg [4, 5, 11] n (fun g _ _ i wr => ∃ k : Nat, k ≤ n ∧ g = n - k ∧ i = .int .i64 k ∧ wr.rowIs w.heap.size 38 n (fun j => .int .i8 (if j < k then x j else 0)) ∧ w.Since w.heap.size wr)
  case atStart => exact ⟨0, by omega, rfl, rfl, (World.rowIs_made w _ n 38).congr (fun j _ => by simp), (World.Since.refl _ _).alloc (Nat.le_refl _) _⟩
  case round =>
    obtain ⟨k, hk, rfl, rfl, hr, hs⟩ := hrel
    by_cases hkn : k < n
    · have hkz : (k : Int) < (n : Int) := by omega
      obtain ⟨rfl, hc0⟩ := hx.get hkn
      have hc : wr.cell? ⟨b, o + k, none⟩ = some (.int .i8 (x k)) := by rw [hs.cell (World.block_lt_of_cell? _ _ hc0)]; exact hc0
      have g1 := hr.cell hkn
      have g2 := hr.frozen k
      have R := (hr.set k (.int .i8 (x k))).congr (g := fun j => .int .i8 (if j < k + 1 then x j else 0)) (fun j _ => by
        by_cases e : j = k
        · subst e; rw [if_pos rfl, if_pos (by omega)]
        · rw [if_neg e]
          by_cases h : j < k
          · rw [if_pos h, if_pos (by omega)]
          · rw [if_neg h, if_neg (by omega)])
      have S := hs.setCell (a := ⟨w.heap.size, k, none⟩) (Nat.le_refl _) (.int .i8 (x k))
      clear hr hs hc0
      go_wp2
      go_roundg (n - (k + 1))
      case rel => exact ⟨k + 1, by omega, rfl, by go_num, R, S⟩
      case measure => omega
    · obtain rfl : k = n := by omega
      go_wp2
      go_ret
      exact ⟨_, _, _, _, rfl, (Sees.ofRow hr).congr (fun j hj => by rw [if_pos hj]), Nat.le_refl _, hs⟩

set_option maxHeartbeats 400000 in
/-- int8 as int. -/
theorem largeOf_any {ao : Option Addr} {b o n c : Nat} {x : Nat → Int} (w : World) (hn : n ≤ 4294967296) (hx : Sees w ao b o n c (fun i => .int .i8 (x i))) (hr : ∀ i, i < n → -128 ≤ x i ∧ x i ≤ 127) :
    Calls Tryd.prog 27 #[.slice ao n c] w (RetSees w n (fun i => .int .i64 (x i))) := by
  have HR := Lib.hid hr
  clear hr
  go_enter Tryd.func27, Tryd.ntmps27
  go_wp2_with (at_make; refine wpList_make0 _ rfl _ _ 22 rfl w.heap.size 3 (.int .i64 0) 8 Tryd.underlying22 Tryd.infoInt (fun i => .int .i64 (x i)) n rfl rfl (by omega) hn (Nat.le_refl _) ?_)
  intro w1 hg1 hgr1
  have hs1 : w.Since w.heap.size w1 := (World.Since.refl _ _).grown hgr1 (Nat.le_refl _) (by simp)
  clear hgr1
  go_wp2
  go_loopg [3, 5, 11] n (fun g v _ i wr => ∃ k : Nat, k ≤ n ∧ g = n - k ∧ i = .int .i64 k ∧ Gr wr w.heap.size 3 v k (fun i => .int .i64 (x i)) ∧ w.Since w.heap.size wr)
  case atStart => exact ⟨0, by omega, rfl, rfl, hg1, hs1⟩
  case round =>
    obtain ⟨k, hk, rfl, rfl, hg, hs⟩ := hrel
    clear hg1 hs1
    by_cases hlt : k < n
    · obtain ⟨rfl, hc⟩ := hx.get hlt
      have hc' : wr.cell? ⟨b, o + k, none⟩ = some (.int .i8 (x k)) := by rw [hs.cell (World.block_lt_of_cell? _ _ hc)]; exact hc
      have hsz : w.heap.size ≤ wr.heap.size := hs.size
      obtain ⟨r0, r1⟩ := HR.out k hlt
      clear hc
      go_wp2_with (at_builtin; go_must (refine wpList_push wr rfl _ _ 22 rfl w.heap.size 3 (.int .i64 0) 8 Tryd.underlying22 Tryd.infoInt rfl _ _ _ _ (by rfl) hg (by rfl) rfl (by omega) (by omega) hsz ?_))
      intro v' w2 hg2 hgr2 hat
      have hs2 : w.Since w.heap.size w2 := (hs.alloc hsz _).grown hgr2 (by simp; omega) (fun k hk => (hg.ge k hk).1)
      have hg3 := hg2.congr (g := fun i => .int .i64 (x i)) (fun i _ => by split <;> simp_all)
      clear hg hs hc' hg2 hgr2 hat hx
      go_wp2
      go_roundg (n - (k + 1))
      case rel => exact ⟨k + 1, by omega, rfl, by go_num, hg3, hs2⟩
      case measure => omega
    · obtain rfl : k = n := by omega
      go_wp2
      go_ret
      exact hg.ret hs (Nat.le_refl _)

set_option maxHeartbeats 1000000 in
theorem bidiImplicit_any {ao : Option Addr} {b o n cc : Nat} {c : Nat → Int} {lv : Int} (w : World) (hn : n ≤ 4294967296) (h0 : 0 < n) (hlv0 : 0 ≤ lv) (hlv1 : lv ≤ 125) (hx : Sees w ao b o n cc (fun i => .int .u64 (c i))) :
    Calls Tryd.prog 28 #[.slice ao n cc, .int .i8 lv] w fun e w' =>
      (allB [0, 1, 2, 5] c n = true ∧ RetSees w n (fun i => .int .i8 (imp lv (c i))) e w') ∨ (allB [0, 1, 2, 5] c n = false ∧ Died e ∧ w.Since w.heap.size w') := by
  go_enter Tryd.func28, Tryd.ntmps28
  go_wp2_with fail
  refine (sequence_any _ hn h0 hx).mono ?_
  rintro e w1 ⟨S, q, cap, rfl, hS⟩
  go_wp2_with fail
  refine (resolveImplicit_any _ hn h0 hlv0 hlv1 hS.row hS.types hS.ne).mono ?_
  rintro e w2 (⟨hall, rfl, r, hI⟩ | ⟨hbad, ⟨u, pv, rfl⟩, hk⟩)
  · have hs2 : w.Since w.heap.size w2 := ⟨hI.kept.os.trans hS.since.os, hI.kept.tape.trans hS.since.tape, hI.kept.output.trans hS.since.output, Nat.le_trans hS.since.size hI.kept.size, fun k hk => (hI.kept.block k (Nat.lt_of_lt_of_le hk hS.since.size) (by have := hS.ge; omega)).trans (hS.since.block k hk)⟩
    have k3 : w2.cell? ⟨S, 3, none⟩ = some (.slice (some ⟨r, 0, none⟩) n n) := hI.row.cell (by omega)
    have HALL := Lib.hid hall
    clear hall
    go_wp2_with fail
    refine (numbers_any _ hn (Sees.ofRow hI.levels)).mono ?_
    rintro e w3 ⟨ao3, b3, o3, c3, rfl, hs3, hf3, hsi3⟩
    go_wp2_with fail
    go_ret
    exact .inl ⟨HALL.out, _, _, _, _, rfl, hs3, Nat.le_trans hs2.size hf3, since2 hs2 hsi3⟩
  · have hs2 : w.Since w.heap.size w2 := ⟨hk.os.trans hS.since.os, hk.tape.trans hS.since.tape, hk.output.trans hS.since.output, Nat.le_trans hS.since.size hk.size, fun k hk' => (hk.block k (Nat.lt_of_lt_of_le hk' hS.since.size) (by have := hS.ge; omega)).trans (hS.since.block k hk')⟩
    go_wp2_with fail
    exact ⟨rfl, .inr ⟨hbad, ⟨_, _, rfl⟩, hs2⟩⟩

theorem caught (p1 p2 : Addr) (v1 v2 : Value) (u : TypeId) (pv : Value) (older : List PanicEntry) (w : World) (h1 : w.cell? p1 = some v1) (z1 : w.frozen? p1 = false) (h2 : (w.setCell p1 (.slice none 0 0)).cell? p2 = some v2) (z2 : (w.setCell p1 (.slice none 0 0)).frozen? p2 = false) :
    CallsD Tryd.prog 26 #[.pointer (some p1), .pointer (some p2)] (.panicking ({ v := .iface u pv, recovered := false } :: older)) w fun e u' w' =>
      e = .returned (.tuple #[]) ∧ u' = .panicking ({ v := .iface u pv, recovered := true } :: older) ∧ w' = (w.setCell p1 (.slice none 0 0)).setCell p2 (.bool false) := by
  refine callsD_of_wpS Tryd.func26 rfl fun c₀ cs hu => ?_
  apply wpS_seq
  apply wpS_region
  simp [wpOpsS, go_sem, recoverD, hu, Tryd.ntmps26, Exit.thenS]
  refine wpS_cond (t := true) (by simp [Act.eval, Array.replicate]) ?_
  simp only [if_true]
  apply wpS_region
  simp [wpOpsS, go_sem, h1, z1, h2, z2, bodyPostS, results, Tryd.results26]

theorem idle (p1 p2 : Addr) (w : World) :
    CallsD Tryd.prog 26 #[.pointer (some p1), .pointer (some p2)] .returning w fun e u' w' => e = .returned (.tuple #[]) ∧ u' = .returning ∧ w' = w := by
  refine callsD_of_wpS Tryd.func26 rfl fun c₀ cs hu => ?_
  apply wpS_seq
  apply wpS_region
  simp [wpOpsS, go_sem, recoverD, hu, Tryd.ntmps26, Exit.thenS]
  refine wpS_cond (t := false) (by simp [Act.eval, Array.replicate]) ?_
  simp only [Bool.false_eq_true, if_false]
  refine wpS_of_wp (wp_skip ?_)
  cases c₀
  simp_all [bodyPostS, results, Tryd.results26]

def ImplRet (w : World) (n : Nat) (c : Nat → Int) (lv : Int) (e : Ending) (w' : World) : Prop :=
  ((allB [0, 1, 2, 5] c n = true ∧ ∃ a b o k, e = .returned (.tuple #[.slice a n k, .bool true]) ∧ Sees w' a b o n k (fun i => .int .i64 (imp lv (c i)))) ∨ (allB [0, 1, 2, 5] c n = false ∧ e = .returned (.tuple #[.slice none 0 0, .bool false]))) ∧ w.Since w.heap.size w'

theorem imp_range {lv c : Int} (h0 : 0 ≤ lv) (h1 : lv ≤ 125) : -128 ≤ imp lv c ∧ imp lv c ≤ 127 := by
  unfold imp
  repeat' split
  all_goals omega

set_option maxHeartbeats 1000000 in
theorem implImplicit_any {ao : Option Addr} {b o n cc : Nat} {x : Nat → Int} {lv : Int} (w : World) (ht : Tab w) (hn : n ≤ 4294967296) (h0 : 0 < n) (hlv0 : 0 ≤ lv) (hlv1 : lv ≤ 125) (hx : Sees w ao b o n cc (fun i => .int .i64 (x i))) :
    Calls Tryd.prog 18 #[.slice ao n cc, .int .i64 lv] w (ImplRet w n (fun i => cls (x i)) lv) := by
  have hmf : ∀ (fn : Fn) (first cap : Array Value) (w : World), (Instr.makeFunc fn first cap).run Tryd.prog w = .ok (.func fn first cap) w := fun _ _ _ _ => rfl
  have hsA : w.Since w.heap.size ((w.alloc (.cells #[.slice none 0 0] 22)).alloc (.cells #[.bool false] 4)) := ((World.Since.refl _ _).alloc (Nat.le_refl _) _).alloc (by simp) _
  have r1 : ((w.alloc (.cells #[.slice none 0 0] 22)).alloc (.cells #[.bool false] 4)).rowIs w.heap.size 22 1 (fun _ => .slice none 0 0) := (World.rowIs_alloc w #[.slice none 0 0] 22 (fun _ => .slice none 0 0) (fun i hi => by simp at hi; subst hi; rfl)).alloc _
  have r2 : ((w.alloc (.cells #[.slice none 0 0] 22)).alloc (.cells #[.bool false] 4)).rowIs (w.heap.size + 1) 4 1 (fun _ => .bool false) := by
    have := World.rowIs_alloc (w.alloc (.cells #[.slice none 0 0] 22)) #[.bool false] 4 (fun _ => .bool false) (fun i hi => by simp at hi; subst hi; rfl)
    rw [World.size_alloc] at this; exact this
  go_enter_defers Tryd.func18, Tryd.ntmps18
  go_wp2_with fail
  generalize hwA : (w.alloc (.cells #[.slice none 0 0] 22)).alloc (.cells #[.bool false] 4) = wA at hsA r1 r2 ⊢
  refine (classesOf_any _ (ht.since hsA) hn (hx.since hsA)).mono ?_
  rintro e w1 ⟨ao1, b1, o1, c1, rfl, hs1, hf1, hsi1⟩
  have hs01 := since2 hsA hsi1
  go_wp2_with fail
  refine (bidiImplicit_any _ hn h0 hlv0 hlv1 hs1).mono ?_
  rintro e w2 (⟨hall, ao2, b2, o2, c2, rfl, hs2, hf2, hsi2⟩ | ⟨hbad, ⟨u, pv, rfl⟩, hsi2⟩)
  · have HALL := Lib.hid hall
    clear hall
    go_wp2_with fail
    refine (largeOf_any _ hn hs2 (fun i _ => imp_range hlv0 hlv1)).mono ?_
    rintro e w3 ⟨ao3, b3, o3, c3, rfl, hs3, hf3, hsi3⟩
    have hsA3 : wA.Since wA.heap.size w3 := since2 hsi1 (since2 hsi2 hsi3)
    have R1 := r1.of_block (hsA3.block _ r1.lt)
    have R2 := r2.of_block (hsA3.block _ r2.lt)
    have q1 := R1.cell (i := 0) (by omega)
    have q2 := R2.cell (i := 0) (by omega)
    have z1 := R1.frozen 0
    have z2 := R2.frozen 0
    have hz : wA.heap.size = w.heap.size + 2 := by rw [← hwA]; simp
    have hz2 : wA.heap.size ≤ b3 := Nat.le_trans (since2 hsi1 hsi2).size hf3
    have hfin : w.Since w.heap.size ((w3.setCell ⟨w.heap.size, 0, none⟩ (.slice ao3 n c3)).setCell ⟨w.heap.size + 1, 0, none⟩ (.bool true)) := ((since2 hsA hsA3).setCell (a := ⟨w.heap.size, 0, none⟩) (Nat.le_refl _) _).setCell (a := ⟨w.heap.size + 1, 0, none⟩) (by show w.heap.size ≤ w.heap.size + 1; omega) _
    have hsees : Sees ((w3.setCell ⟨w.heap.size, 0, none⟩ (.slice ao3 n c3)).setCell ⟨w.heap.size + 1, 0, none⟩ (.bool true)) ao3 b3 o3 n c3 (fun i => .int .i64 (imp lv (cls (x i)))) :=
      (hs3.kept (fun _ => Go.Deep.blk_setCell_other _ _ _ _ (by show b3 ≠ w.heap.size; omega))).kept (fun _ => Go.Deep.blk_setCell_other _ _ _ _ (by show b3 ≠ w.heap.size + 1; omega))
    have f1 : ((w3.setCell ⟨w.heap.size, 0, none⟩ (.slice ao3 n c3)).setCell ⟨w.heap.size + 1, 0, none⟩ (.bool true)).cell? ⟨w.heap.size, 0, none⟩ = some (.slice ao3 n c3) := ((R1.set 0 (.slice ao3 n c3)).setOther (by show w.heap.size ≠ w.heap.size + 1; omega) _).cell (i := 0) (by omega)
    have f2 : ((w3.setCell ⟨w.heap.size, 0, none⟩ (.slice ao3 n c3)).setCell ⟨w.heap.size + 1, 0, none⟩ (.bool true)).cell? ⟨w.heap.size + 1, 0, none⟩ = some (.bool true) := ((R2.setOther (by show w.heap.size + 1 ≠ w.heap.size; omega) _).set 0 (.bool true)).cell (i := 0) (by omega)
    go_wp2_with fail
    refine leaves_cons (f := 26) (args := #[.pointer (some ⟨w.heap.size, 0, none⟩), .pointer (some ⟨w.heap.size + 1, 0, none⟩)]) (by simp) (by simp [go_sem]) ?_
    refine (idle _ _ _).mono ?_
    rintro e u' w'' ⟨rfl, rfl, rfl⟩
    simp [Leaves, settle, results, Tryd.results18, go_sem, f1, f2]
    exact ⟨.inl ⟨HALL.out, _, _, _, _, rfl, hsees⟩, hfin⟩
  · have hsA2 : wA.Since wA.heap.size w2 := since2 hsi1 hsi2
    have R1 := r1.of_block (hsA2.block _ r1.lt)
    have R2 := r2.of_block (hsA2.block _ r2.lt)
    have hfin : w.Since w.heap.size ((w2.setCell ⟨w.heap.size, 0, none⟩ (.slice none 0 0)).setCell ⟨w.heap.size + 1, 0, none⟩ (.bool false)) := ((since2 hsA hsA2).setCell (a := ⟨w.heap.size, 0, none⟩) (Nat.le_refl _) _).setCell (a := ⟨w.heap.size + 1, 0, none⟩) (by show w.heap.size ≤ w.heap.size + 1; omega) _
    have R1' := (R1.set 0 (.slice none 0 0)).setOther (a := ⟨w.heap.size + 1, 0, none⟩) (by show w.heap.size ≠ w.heap.size + 1; omega) (.bool false)
    have R2' := R2.setOther (a := ⟨w.heap.size, 0, none⟩) (by show w.heap.size + 1 ≠ w.heap.size; omega) (.slice none 0 0)
    have f1 := R1'.cell (i := 0) (by omega)
    have f2 := (R2'.set 0 (.bool false)).cell (i := 0) (by omega)
    simp only [if_true] at f1 f2
    go_wp2_with fail
    refine leaves_cons (f := 26) (args := #[.pointer (some ⟨w.heap.size, 0, none⟩), .pointer (some ⟨w.heap.size + 1, 0, none⟩)]) (by simp) (by simp [go_sem]) ?_
    refine (caught ⟨w.heap.size, 0, none⟩ ⟨w.heap.size + 1, 0, none⟩ _ _ u pv [] _ (R1.cell (i := 0) (by omega)) (R1.frozen 0) (R2'.cell (i := 0) (by omega)) (R2'.frozen 0)).mono ?_
    rintro e u' w'' ⟨rfl, rfl, rfl⟩
    simp [Leaves, settle, results, Tryd.results18, go_sem, f1, f2]
    exact ⟨.inr ⟨hbad, rfl⟩, hfin⟩

end Go.Proofs.YtckffgcmeajbdaaDoor
