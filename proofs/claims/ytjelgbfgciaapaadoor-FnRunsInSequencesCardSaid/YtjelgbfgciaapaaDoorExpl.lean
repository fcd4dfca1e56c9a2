/- bidi.explicit, bidi.Explicit, impl.Explicit. -/
import Derived.Test.YtjelgbfgciaapaaDoorExpI
import Derived.Test.YtjelgbfgciaapaaDoorSetL
import Derived.Test.YtjelgbfgciaapaaDoorNums
import Derived.Test.YtjelgbfgciaapaaDoorNumOf
import Derived.Deep.RegionHeld3
namespace Go.Proofs.YtjelgbfgciaapaaDoor
open Go.RowKit
set_option linter.unusedVariables false

/-- A paragraph behind X1 to X8. -/
structure Xp (w : World) (n : Nat) (x : Nat → Int) (base : Int) (p b0 T R N6 N7 c0 capT : Nat) (cl : Nat → Int) (w' : World) : Prop where
  lev : ∀ i, i < n → remN (x i) = false → cl i = lvl x (fsI n x) base i
  para : w'.rowIs p 79 8 (pf (.slice (some ⟨b0, 0, none⟩) n c0) (.slice none 0 0) (.slice none 0 0) (.int .i8 base) (.slice (some ⟨T, 0, none⟩) n capT) (.slice (some ⟨R, 0, none⟩) n n) (.slice (some ⟨N6, 0, none⟩) n n) (.slice (some ⟨N7, 0, none⟩) n n))
  init : Sees w' (some ⟨b0, 0, none⟩) b0 0 n c0 (fun i => .int .u64 (cls (x i)))
  types : Gr w' w.heap.size 67 (.slice (some ⟨T, 0, none⟩) n capT) n (fun i => .int .u64 (cls (tI x (fsI n x) base i)))
  levels : w'.rowIs R 76 n (fun i => .int .i8 (cl i))
  ends : w'.rowIs N6 3 n (fun i => .int .i64 (mt (iniN x) (pdiN x) n i))
  begins : w'.rowIs N7 3 n (fun i => .int .i64 (bg (iniN x) (pdiN x) n n i))
  since : w.Since w.heap.size w'

theorem iniC_cls {n : Nat} {x : Nat → Int} (hok : ∀ i, i < n → clsOk (x i)) : ∀ i, i < n → iniC (fun i => cls (x i)) i = iniN x i := fun i hi => cls_ini (hok i hi)
theorem pdiC_cls {n : Nat} {x : Nat → Int} (hok : ∀ i, i < n → clsOk (x i)) : ∀ i, i < n → pdiC (fun i => cls (x i)) i = pdiN x i := fun i hi => by
  show (cls (x i) == 24) = (x i == 22)
  rw [cls_pdi (hok i hi)]; unfold pdiB; rw [Bool.eq_iff_iff]; simp

set_option maxHeartbeats 4000000 in
theorem explicit_any {ao : Option Addr} {b o n cc : Nat} {base : Int} {x : Nat → Int} (w : World) (hn : n ≤ 4294967296) (h0 : 0 < n) (hb : base = 0 ∨ base = 1) (hok : ∀ i, i < n → clsOk (x i)) (hB : ∀ i, i < n → x i = 7 → n ≤ i + 1)
    (hx : Sees w ao b o n cc (fun i => .int .u64 (cls (x i)))) :
    Calls Tryd.prog 44 #[.slice ao n cc, .int .i8 base] w fun e w' => ∃ p b0 T R N6 N7 c0 capT cl, e = .returned (.pointer (some ⟨p, 0, none⟩)) ∧ Xp w n x base p b0 T R N6 N7 c0 capT cl w' := by
  have HOK := Lib.hid hok
  have HB := Lib.hid hB
  have HBB := Lib.hid hb
  clear hok hB hb
  go_enter Tryd.func44, Tryd.ntmps44
  go_wp2_with fail
  refine (bare_any _ hn hx).mono ?_
  rintro e w1 ⟨p, rfl, ⟨a0, c0, b0, a4, c4, b4, hp, hs0, hs4, hne, hb0, hb4, hg4⟩, hpge, hsi1⟩
  obtain ⟨rfl, _⟩ := hs0.get h0
  obtain ⟨rfl, _⟩ := hs4.get h0
  obtain ⟨hn0, hn4, hn04⟩ := hne h0
  have hz3 := hp.frozen 3
  have hc3 : w1.cell? ⟨p, 3, none⟩ = some (.int .i8 0) := hp.cell (by omega)
  have hp2 := pf_set3 hp (.int .i8 base)
  have hs0' : Sees (w1.setCell ⟨p, 3, none⟩ (.int .i8 base)) (some ⟨b0, 0, none⟩) b0 0 n c0 (fun i => .int .u64 (cls (x i))) := hs0.kept (fun _ => Go.Deep.blk_setCell_other _ _ _ _ hn0)
  have hs4' : Sees (w1.setCell ⟨p, 3, none⟩ (.int .i8 base)) (some ⟨b4, 0, none⟩) b4 0 n c4 (fun i => .int .u64 (cls (x i))) := hs4.kept (fun _ => Go.Deep.blk_setCell_other _ _ _ _ hn4)
  have hg4' := hg4.kept' (w' := w1.setCell ⟨p, 3, none⟩ (.int .i8 base)) (fun k hk => by
    simp only [Value.ownBlock, Option.some.injEq] at hk
    subst hk
    exact Go.Deep.blk_setCell_other _ _ _ _ hn4)
  have hsi2 := hsi1.setCell (a := ⟨p, 3, none⟩) hpge (.int .i8 base)
  clear hne hs0 hs4 hg4 hx
  go_upto_region 3 with fail
  clear hz3 hc3 hp hsi1
  generalize w1.setCell ⟨p, 3, none⟩ (.int .i8 base) = w2 at hp2 hs0' hs4' hg4' hsi2 ⊢
  go_wp2_with fail
  refine (dmi_any _ hn hp2 hs4' (fun _ => hn4)).mono ?_
  rintro e w3 ⟨rfl, hM⟩
  have hp2lt := hp2.lt
  have hb0lt := hs0'.lt h0
  have hb4lt := (hg4'.ge b4 rfl).2
  have hk := hM.kept
  have hs0'' := hk.sees hs0' (fun _ => hn0)
  have hg4'' := hg4'.kept' (w' := w3) (fun k hk2 => by
    simp only [Value.ownBlock, Option.some.injEq] at hk2
    subst hk2
    exact hk.block b4 hb4lt hn4)
  have hsi3 : w.Since w.heap.size w3 := ⟨hk.os.trans hsi2.os, hk.tape.trans hsi2.tape, hk.output.trans hsi2.output, Nat.le_trans hsi2.size hk.size, fun k hk3 => (hk.block k (Nat.lt_of_lt_of_le hk3 hsi2.size) (by omega)).trans (hsi2.block k hk3)⟩
  obtain ⟨N6, hN6⟩ : ∃ N6, N6 = w2.heap.size := ⟨_, rfl⟩
  obtain ⟨N7, hN7⟩ : ∃ N7, N7 = w2.heap.size + 1 := ⟨_, rfl⟩
  have hp3 := hM.para
  have he3 := hM.ends
  have hbg3 := hM.begins
  rw [← hN7, ← hN6] at hp3
  rw [← hN6] at he3
  rw [← hN7] at hbg3
  have hd6 : N6 ≠ p ∧ N6 ≠ b0 ∧ N6 ≠ b4 ∧ N7 ≠ p ∧ N7 ≠ b0 ∧ N7 ≠ b4 ∧ N6 ≠ N7 := by omega
  have HD6 := Lib.hid hd6
  clear hs0' hs4' hg4' hsi2 hp2 hM hk hN6 hN7 hd6 hp2lt hb0lt hb4lt
  have hmk := run_make_row' (P := Tryd.prog) 77 76 (.int .i8 0) 1 Tryd.underlying77 Tryd.infoLevel rfl .i64 .i64 n (by omega) (by omega)
  have k0 : w3.cell? ⟨p, 0, none⟩ = some (.slice (some ⟨b0, 0, none⟩) n c0) := hp3.cell (by omega)
  have k5 : (w3.alloc (.cells (madeCells #[.int .i8 0] n) 76)).cell? ⟨p, 5, none⟩ = some (.slice none 0 0) := (hp3.alloc _).cell (by omega)
  have z5 := (hp3.alloc (.cells (madeCells #[.int .i8 0] n) 76)).frozen 5
  go_wp2_with fail
  refine (len_any _ k0).mono ?_
  rintro e w4 ⟨rfl, rfl⟩
  have hplt3 := hp3.lt
  have hb0lt := hs0''.lt h0
  have hb4lt := (hg4''.ge b4 rfl).2
  have h6lt := he3.lt
  have h7lt := hbg3.lt
  go_upto_region 5 with fail
  have hr5 : (w3.setCell ⟨p, 5, none⟩ (.slice (some ⟨w3.heap.size, 0, none⟩) n n)).heap.size = w3.heap.size := World.size_setCell _ _ _
  have hp5 := (pf_set5 hp3 (.slice (some ⟨w3.heap.size, 0, none⟩) n n)).alloc (.cells (madeCells #[.int .i8 0] n) 76)
  have hlv5 := World.rowIs_made (w3.setCell ⟨p, 5, none⟩ (.slice (some ⟨w3.heap.size, 0, none⟩) n n)) (.int .i8 0) n 76
  rw [hr5] at hlv5
  have hk5 : Kp (fun k => k = p) w3 ((w3.setCell ⟨p, 5, none⟩ (.slice (some ⟨w3.heap.size, 0, none⟩) n n)).alloc (.cells (madeCells #[.int .i8 0] n) 76)) := ((Kp.refl (fun k => k = p) _).setCell (a := ⟨p, 5, none⟩) (.inl rfl) _).alloc _
  obtain ⟨R, hR⟩ : ∃ R, R = w3.heap.size := ⟨_, rfl⟩
  rw [← hR] at hp5 hlv5 hk5 ⊢
  have hRd : R ≠ p ∧ R ≠ b0 ∧ R ≠ b4 ∧ R ≠ N6 ∧ R ≠ N7 := by omega
  have hlv5' : ((w3.setCell ⟨p, 5, none⟩ (.slice (some ⟨R, 0, none⟩) n n)).alloc (.cells (madeCells #[.int .i8 0] n) 76)).rowIs R 76 n (fun _ => .int .i8 0) := hlv5
  generalize (w3.setCell ⟨p, 5, none⟩ (.slice (some ⟨R, 0, none⟩) n n)).alloc (.cells (madeCells #[.int .i8 0] n) 76) = w5 at hp5 hlv5' hk5 ⊢
  have HRD := Lib.hid hRd
  have HR := Lib.hid hR
  clear hlv5 hr5 k0 k5 z5 hmk hR hRd
  have hs5 := hk5.sees hs0'' (fun _ => hn0)
  have hg5 := hg4''.kept' (w' := w5) (fun k hk2 => by
    simp only [Value.ownBlock, Option.some.injEq] at hk2
    subst hk2
    exact hk5.block b4 hb4lt hn4)
  have he5 := hk5.row he3 HD6.out.1
  have hb5 := hk5.row hbg3 HD6.out.2.2.2.1
  have hsi5 : w.Since w.heap.size w5 := ⟨hk5.os.trans hsi3.os, hk5.tape.trans hsi3.tape, hk5.output.trans hsi3.output, Nat.le_trans hsi3.size hk5.size, fun k hk3 => (hk5.block k (Nat.lt_of_lt_of_le hk3 hsi3.size) (by omega)).trans (hsi3.block k hk3)⟩
  clear hs0'' hg4'' he3 hbg3 hsi3 hk5 hp3
  have c3 : w5.cell? ⟨p, 3, none⟩ = some (.int .i8 base) := hp5.cell (by omega)
  have c5 : w5.cell? ⟨p, 5, none⟩ = some (.slice (some ⟨R, 0, none⟩) n n) := hp5.cell (by omega)
  refine wp_region_quiet_tail 8 (by kernel_rfl) (by kernel_rfl) ?_
  simp only [List.take_succ_cons, List.take_zero, List.drop_succ_cons, List.drop_zero]
  repeat (quiet_step (fail))
  refine wpQuiet_nil ?_
  rintro _ ⟨nq, rfl⟩
  have hp6 := hp5.of_block (w' := w5.drewN nq) rfl
  have hlv6 := hlv5'.of_block (w' := w5.drewN nq) rfl
  have hs6 : Sees (w5.drewN nq) (some ⟨b0, 0, none⟩) b0 0 n c0 (fun i => .int .u64 (cls (x i))) := hs5
  have hg6 : Gr (w5.drewN nq) w.heap.size 67 (.slice (some ⟨b4, 0, none⟩) n c4) n (fun i => .int .u64 (cls (x i))) := hg5
  have he6 := he5.of_block (w' := w5.drewN nq) rfl
  have hb6 := hb5.of_block (w' := w5.drewN nq) rfl
  have hsi6 := since_drewN hsi5 nq
  clear c3 c5 hp5 hlv5' hs5 hg5 he5 hb5 hsi5
  generalize w5.drewN nq = w6 at hp6 hlv6 hs6 hg6 he6 hb6 hsi6 ⊢
  go_wp2_with fail
  refine (setLevels_any _ hn hlv6).mono ?_
  rintro e w7 ⟨rfl, hlv7, hk7⟩
  have hp7 := hk7.row hp6 (fun e => HRD.out.1 e.symm)
  have hs7 := hk7.sees hs6 (fun _ => fun e => HRD.out.2.1 e.symm)
  have hb4l6 := (hg6.ge b4 rfl).2
  have hg7 := hg6.kept' (w' := w7) (fun k hk2 => by
    simp only [Value.ownBlock, Option.some.injEq] at hk2
    subst hk2
    exact hk7.block b4 hb4l6 (fun e => HRD.out.2.2.1 e.symm))
  have he7 := hk7.row he6 (fun e => HRD.out.2.2.2.1 e.symm)
  have hb7 := hk7.row hb6 (fun e => HRD.out.2.2.2.2 e.symm)
  have hRge : w.heap.size ≤ R := by have := HR.out; omega
  have hsi7 : w.Since w.heap.size w7 := ⟨hk7.os.trans hsi6.os, hk7.tape.trans hsi6.tape, hk7.output.trans hsi6.output, Nat.le_trans hsi6.size hk7.size, fun k hk3 => (hk7.block k (Nat.lt_of_lt_of_le hk3 hsi6.size) (by omega)).trans (hsi6.block k hk3)⟩
  clear hp6 hlv6 hs6 hg6 he6 hb6 hsi6 hk7
  have hcl : ∀ i, i < n → mt (iniC (fun i => cls (x i))) (pdiC (fun i => cls (x i))) n i = mt (iniN x) (pdiN x) n i := fun i hi => mt_congr (iniC_cls HOK.out) (pdiC_cls HOK.out) hi
  have HCL := Lib.hid hcl
  clear hcl
  go_wp2_with fail
  refine (dee_any (x := x) _ hn h0 HBB.out HOK.out HB.out hp7 hg7 hlv7 he7 hn4.symm (fun e => HRD.out.1 e.symm) (fun e => HRD.out.2.2.1 e.symm) HD6.out.2.2.1 (fun e => HRD.out.2.2.2.1 e.symm)).mono ?_
  rintro e w8 ⟨rfl, cl, hcl, hE⟩
  have HC := Lib.hid hcl
  clear hcl
  go_wp2_with fail
  go_ret
  have hK := hE.kept
  have hb0l7 := hs7.lt h0
  have hb7lt := hb7.lt
  exact ⟨p, b0, b4, R, N6, N7, c0, c4, cl, rfl, HC.out, hE.para, hs7.kept (fun _ => hK.block b0 hb0l7 (by have := HRD.out.2.1; omega)), hE.types, hE.levels, hE.mts.congr (fun i hi => by rw [HCL.out i hi]), (hb7.of_block (hK.block N7 hb7lt (by have := HRD.out.2.2.2.2; have := HD6.out.2.2.2.2.2.1; omega))).congr (fun i _ => by rw [bg_congr (iniC_cls HOK.out) (pdiC_cls HOK.out) n (Nat.le_refl _) i]),
    ⟨hK.os.trans hsi7.os, hK.tape.trans hsi7.tape, hK.output.trans hsi7.output, Nat.le_trans hsi7.size hK.size, fun k hk3 => (hK.block k (Nat.lt_of_lt_of_le hk3 hsi7.size) (by have := hsi7.size; omega)).trans (hsi7.block k hk3)⟩⟩

/-- What bidi.Explicit hands back. -/
def RetX (w : World) (n : Nat) (f g : Nat → Value) (e : Ending) (w' : World) : Prop :=
  ∃ a b o c a2 b2 o2 c2, e = .returned (.tuple #[.slice a n c, .slice a2 n c2]) ∧ Sees w' a b o n c f ∧ Sees w' a2 b2 o2 n c2 g ∧ w.heap.size ≤ b ∧ w.heap.size ≤ b2 ∧ w.Since w.heap.size w'

set_option maxHeartbeats 4000000 in
theorem bidiExplicit_any {ao : Option Addr} {b o n cc : Nat} {base : Int} {x : Nat → Int} (w : World) (hn : n ≤ 4294967296) (h0 : 0 < n) (hb : base = 0 ∨ base = 1) (hok : ∀ i, i < n → clsOk (x i)) (hB : ∀ i, i < n → x i = 7 → n ≤ i + 1)
    (hx : Sees w ao b o n cc (fun i => .int .u64 (cls (x i)))) :
    Calls Tryd.prog 32 #[.slice ao n cc, .int .i8 base] w fun e w' => ∃ cl : Nat → Int, (∀ i, i < n → remN (x i) = false → cl i = lvl x (fsI n x) base i) ∧ RetX w n (fun i => .int .u64 (cls (tI x (fsI n x) base i))) (fun i => .int .i8 (cl i)) e w' := by
  have HOK := Lib.hid hok
  have HB := Lib.hid hB
  have HBB := Lib.hid hb
  clear hok hB hb
  go_enter Tryd.func32, Tryd.ntmps32
  go_wp2_with fail
  refine (explicit_any _ hn h0 HBB.out HOK.out HB.out hx).mono ?_
  rintro e w1 ⟨p, b0, T, R, N6, N7, c0, capT, cl, rfl, hX⟩
  have hp := hX.para
  have c4 : w1.cell? ⟨p, 4, none⟩ = some (.slice (some ⟨T, 0, none⟩) n capT) := hp.cell (by omega)
  have c5 : w1.cell? ⟨p, 5, none⟩ = some (.slice (some ⟨R, 0, none⟩) n n) := hp.cell (by omega)
  have hsee : Sees w1 (some ⟨T, 0, none⟩) T 0 n capT (fun i => .int .u64 (cls (tI x (fsI n x) base i))) := by
    obtain ⟨b, hb, hs⟩ := hX.types.see
    obtain rfl : T = b := by have := (hs.get h0).1; simp only [Option.some.injEq, Addr.mk.injEq, and_true] at this; exact this
    exact hs
  have hT := (hX.types.ge T rfl).1
  have hlv : Sees w1.drew (some ⟨R, 0, none⟩) R 0 n n (fun i => .int .i8 (cl i)) := Sees.ofRow hX.levels
  have hsi1 := hX.since
  have HLEV := Lib.hid hX.lev
  have hplt : p < w1.heap.size := hp.lt
  have HSEE := Lib.hid hsee
  clear hp hX hsee
  go_upto_region 2 with fail
  go_region_held3 (fun wx => wx.cell? ⟨p, 4, none⟩ = some (.slice (some ⟨T, 0, none⟩) n capT) ∧ wx.cell? ⟨p, 5, none⟩ = some (.slice (some ⟨R, 0, none⟩) n n)) (go_keep)
    (first | (go_at_call 45; refine (numbers_any w1.drew hn hlv).mono ?_; rintro e w3 ⟨a3, b3, o3, c3, rfl, hs3, hb3, hsi⟩; have q4 := (hsi.cell (a := ⟨p, 4, none⟩) hplt).trans c4; have q5 := (hsi.cell (a := ⟨p, 5, none⟩) hplt).trans c5))
  have HRR : Hid (RetX w n (fun i => .int .u64 (cls (tI x (fsI n x) base i))) (fun i => .int .i8 (cl i)) (.returned (.tuple #[.slice (some ⟨T, 0, none⟩) n capT, .slice a3 n c3])) w3) := Lib.hid
    ⟨_, T, 0, _, _, b3, o3, _, rfl, HSEE.out.since (show w1.Since w1.heap.size w3 from ⟨hsi.os, hsi.tape, hsi.output, hsi.size, hsi.block⟩), hs3, hT, Nat.le_trans hsi1.size hb3, since2 hsi1 (show w1.Since w1.heap.size w3 from ⟨hsi.os, hsi.tape, hsi.output, hsi.size, hsi.block⟩)⟩
  clear hs3 hsi hsi1 q4 q5 c4 c5 hlv
  go_wp2_with fail
  go_ret2
  exact ⟨cl, HLEV.out, HRR.out⟩

theorem wrap_lvl {x fs : Nat → Int} {base : Int} (hb : base = 0 ∨ base = 1) (i : Nat) : wrap64 (lvl x fs base i) = lvl x fs base i := by
  have := lvl_range (x := x) (fs := fs) (base := base) (by omega) (by omega) i
  exact IntWalk.wrap64_in _ (by omega)

theorem tI_ok {x fs : Nat → Int} {base : Int} {i : Nat} (h : clsOk (x i)) (hb : base ≤ 125) : clsOk (tI x fs base i) := by
  unfold tI
  split
  · exact h
  · have := (mst_ok (x := x) (fs := fs) hb i).tov_or
    split
    · exact h
    · unfold clsOk; omega

set_option maxHeartbeats 4000000 in
theorem implExplicit_any {ao : Option Addr} {b o n cc : Nat} {base : Int} {x : Nat → Int} (w : World) (ht : Tab w) (hn : n ≤ 4294967296) (h0 : 0 < n) (hb : base = 0 ∨ base = 1) (hok : ∀ i, i < n → clsOk (x i)) (hB : ∀ i, i < n → x i = 7 → n ≤ i + 1)
    (hx : Sees w ao b o n cc (fun i => .int .i64 (x i))) :
    Calls Tryd.prog 13 #[.slice ao n cc, .int .i64 base] w fun e w' => ∃ cl : Nat → Int, (∀ i, i < n → remN (x i) = false → cl i = lvl x (fsI n x) base i) ∧ RetX w n (fun i => .int .i64 (tI x (fsI n x) base i)) (fun i => .int .i64 (cl i)) e w' := by
  have HOK := Lib.hid hok
  have HB := Lib.hid hB
  have HBB := Lib.hid hb
  have hb0 : 0 ≤ base := by omega
  have hb1 : base ≤ 1 := by omega
  clear hok hB hb
  go_enter Tryd.func13, Tryd.ntmps13
  go_wp2_with fail
  refine (classesOf_any _ ht hn hx).mono ?_
  rintro e w1 ⟨a1, b1, o1, c1, rfl, hs1, hf1, hsi1⟩
  go_wp2_with fail
  refine (bidiExplicit_any _ hn h0 HBB.out HOK.out HB.out hs1).mono ?_
  rintro e w2 ⟨cl, hcl, a2, b2, o2, c2, a3, b3, o3, c3, rfl, hs2, hs3, hf2, hf3, hsi2⟩
  have hsi12 := since2 hsi1 hsi2
  have ht2 := ht.since hsi12
  have htok : ∀ i, i < n → clsOk (tI x (fsI n x) base i) := fun i hi => tI_ok (HOK.out i hi) (by have := HBB.out; omega)
  have HTOK := Lib.hid htok
  have HCL := Lib.hid hcl
  clear htok hcl hx hs1
  go_wp2_with fail
  refine (numbersOf_any _ ht2 hn HTOK.out hs2).mono ?_
  rintro e w4 ⟨a4, b4, o4, c4, rfl, hs4, hf4, hsi4⟩
  have hs3' := hs3.since hsi4
  clear hs2 hs3
  go_wp2_with fail
  refine (largeOfW_any _ hn hs3').mono ?_
  rintro e w5 ⟨a5, b5, o5, c5, rfl, hs5, hf5, hsi5⟩
  go_wp2_with fail
  go_ret2
  have hsi14 := since2 hsi12 hsi4
  exact ⟨fun i => wrap64 (cl i), fun i hi hr => by
    show wrap64 (cl i) = _
    rw [HCL.out i hi hr]
    exact wrap_lvl HBB.out i, _, b4, o4, _, _, b5, o5, _, rfl, hs4.since hsi5, hs5, Nat.le_trans hsi12.size hf4, Nat.le_trans hsi14.size hf5, since2 hsi14 hsi5⟩

end Go.Proofs.YtjelgbfgciaapaaDoor
