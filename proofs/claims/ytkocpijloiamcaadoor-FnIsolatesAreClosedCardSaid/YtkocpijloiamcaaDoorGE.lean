/- bidi.bare, bidi.Isolates, impl.Isolates. -/
import Derived.Test.YtkocpijloiamcaaDoorDmi
import Derived.Test.YtkocpijloiamcaaDoorGC
import Derived.Test.YtkocpijloiamcaaDoorGA
import Derived.Test.YtkocpijloiamcaaDoorGB
import Derived.Deep.QuietTactic
import Derived.BigQuiet
import Derived.BigRegion
import Derived.StillTailTactics
import Derived.Lib.Hide
import Derived.Deep.DeepCutAuto
import Derived.StillTail
import Derived.Deep.Quiet
import Derived.Deep.LoopGhost
import Derived.Deep.CutBlock
import Derived.Deep.Light
import Derived.Deep.RegionWith
namespace Go.Proofs.YtkocpijloiamcaaDoor
open Go.RowKit

/-- A new paragraph with two lists of the same classes. -/
structure Bare (w : World) (n : Nat) (c : Nat → Int) (p : Nat) (w' : World) : Prop where
  rows : ∃ a0 c0 b0 a4 c4 b4, w'.rowIs p 70 8 (pf (.slice a0 n c0) (.slice none 0 0) (.slice none 0 0) (.int .i8 0) (.slice a4 n c4) (.slice none 0 0) (.slice none 0 0) (.slice none 0 0)) ∧
    Sees w' a0 b0 0 n c0 (fun i => .int .u64 (c i)) ∧ Sees w' a4 b4 0 n c4 (fun i => .int .u64 (c i)) ∧ (0 < n → b0 ≠ p ∧ b4 ≠ p ∧ b0 ≠ b4) ∧ w.heap.size ≤ b0 ∧ w.heap.size ≤ b4 ∧
    Gr w' w.heap.size 67 (.slice a4 n c4) n (fun i => .int .u64 (c i))
  ge : w.heap.size ≤ p
  since : w.Since w.heap.size w'

set_option maxHeartbeats 1000000 in
theorem bare_any {ao : Option Addr} {b o n cc : Nat} {c : Nat → Int} (w : World) (hn : n ≤ 8589934592) (hx : Sees w ao b o n cc (fun i => .int .u64 (c i))) :
    Calls Tryd.prog 45 #[.slice ao n cc] w fun e w' => ∃ p, e = .returned (.pointer (some ⟨p, 0, none⟩)) ∧ Bare w n c p w' := by
  have g1 := Gr.empty w w.heap.size 67 (fun _ => .int .u64 0) (Nat.le_refl _)
  have hs1 : w.Since w.heap.size (w.alloc (.cells #[] 67)) := (World.Since.refl _ _).alloc (Nat.le_refl _) _
  have hx1 := hx.since hs1
  go_enter Tryd.func45, Tryd.ntmps45
  go_wp2_with (refine wpList_cat _ rfl (.tmp 3) (.tmp 4) 43 rfl w.heap.size 67 (.int .u64 0) 8 Tryd.underlying43 Tryd.infoClass rfl _ _ _ (by rfl) g1 (by rfl) hx1 (fun _ _ => rfl) (by omega) (by omega) (by simp) ?_)
  intro v2 w2 hg2 hgr2 _
  have hs2 : w.Since w.heap.size w2 := hs1.grown hgr2 (by simp) (by simp [Value.ownBlock])
  have hg2' : Gr w2 w.heap.size 67 v2 n (fun i => .int .u64 (c i)) := by first | exact hg2 | (rw [Nat.zero_add] at hg2; exact hg2.congr fun i _ => by simp)
  have hx2 := hx.since hs2
  have hz2 : w.heap.size ≤ w2.heap.size := hs2.size
  clear g1 hs1 hx1 hg2 hgr2 hx
  have g3 := Gr.empty w2 w2.heap.size 67 (fun _ => .int .u64 0) (Nat.le_refl _)
  have hsA : w2.Since w2.heap.size (w2.alloc (.cells #[] 67)) := (World.Since.refl _ _).alloc (Nat.le_refl _) _
  have hx3 := hx2.since hsA
  go_wp2_with (refine wpList_cat _ rfl (.tmp 6) (.tmp 7) 43 rfl w2.heap.size 67 (.int .u64 0) 8 Tryd.underlying43 Tryd.infoClass rfl _ _ _ (by rfl) g3 (by rfl) hx3 (fun _ _ => rfl) (by omega) (by omega) (by simp) ?_)
  intro v4 w4 hg4 hgr4 _
  have hs4' : w2.Since w2.heap.size w4 := hsA.grown hgr4 (by simp) (by simp [Value.ownBlock])
  have hg4' : Gr w4 w2.heap.size 67 v4 n (fun i => .int .u64 (c i)) := by first | exact hg4 | (rw [Nat.zero_add] at hg4; exact hg4.congr fun i _ => by simp)
  have hg2'' := hg2'.since hs4'
  have hs4 := since2 hs2 hs4'
  clear g3 hsA hx3 hg4 hgr4 hx2
  obtain ⟨a0, b0, c0, rfl, hb0, hse0⟩ := hg2''.sees
  obtain ⟨a4, b4, c4, rfl, hb4, hse4⟩ := hg4'.sees
  have hlt0 : 0 < n → b0 < w2.heap.size := fun h => by
    obtain ⟨bx, hbx, hsx⟩ := hg2'.see
    have e1 := (hsx.get h).1
    have e2 := (hse0.get h).1
    rw [e1] at e2
    simp only [Option.some.injEq, Addr.mk.injEq] at e2
    have := hsx.lt h
    omega
  have hlt4 : 0 < n → b4 < w4.heap.size := fun h => hse4.lt h
  have hsz : w2.heap.size ≤ w4.heap.size := hs4'.size
  clear hg2' hg2'' hs2 hs4'
  go_wp2
  go_ret
  refine ⟨w4.heap.size, rfl, ⟨a0, c0, b0, a4, c4, b4, ?_, hse0.since ((World.Since.refl _ _).alloc (Nat.le_refl _) _), hse4.since ((World.Since.refl _ _).alloc (Nat.le_refl _) _), fun h => ?_, hb0, by omega, (hg4'.alloc _).base hz2⟩, hs4.size, hs4.alloc hs4.size _⟩
  · refine World.rowIs_alloc w4 #[_, _, _, _, _, _, _, _] _ _ (fun i hi => ?_)
    match i, hi with
    | 0, _ => rfl
    | 1, _ => rfl
    | 2, _ => rfl
    | 3, _ => rfl
    | 4, _ => rfl
    | 5, _ => rfl
    | 6, _ => rfl
    | 7, _ => rfl
  · have := hlt0 h; have := hlt4 h
    omega

end Go.Proofs.YtkocpijloiamcaaDoor

/- The methods of directionalStatusStack. -/
namespace Go.Proofs.YtkocpijloiamcaaDoor
open Go.RowKit

/-- The class of an override. -/
def ovc (o : Int) : Int := if o = -1 then 10 else o

/-- The stack in memory. -/
def SRow (w : World) (K : Nat) (m : Mst) : Prop :=
  ∃ g, w.rowIs K 99 379 g ∧ g 0 = .int .i64 m.d ∧ ∀ j, j < m.d → g (1 + j) = .int .i8 (m.lv j) ∧ g (127 + j) = .int .u64 (ovc (m.ov j)) ∧ g (253 + j) = .bool (m.iso j)

section
variable {w w' : World} {K : Nat} {m : Mst}
theorem SRow.lt (h : SRow w K m) : K < w.heap.size := by obtain ⟨g, hg, _⟩ := h; exact hg.lt
theorem SRow.of_block (h : SRow w K m) (e : w'.heap[K]? = w.heap[K]?) : SRow w' K m := by
  obtain ⟨g, hg, h2⟩ := h
  exact ⟨g, hg.of_block e, h2⟩
theorem SRow.d (h : SRow w K m) : w.cell? ⟨K, 0, none⟩ = some (.int .i64 m.d) := by
  obtain ⟨g, hg, h0, _⟩ := h
  rw [hg.cell (by omega), h0]
theorem SRow.lv (h : SRow w K m) {j : Nat} (hj : j < m.d) (h126 : m.d ≤ 126) : w.cell? ⟨K, 1 + j, none⟩ = some (.int .i8 (m.lv j)) := by
  obtain ⟨g, hg, h0, h1⟩ := h
  rw [hg.cell (by omega), (h1 j hj).1]
theorem SRow.ov (h : SRow w K m) {j : Nat} (hj : j < m.d) (h126 : m.d ≤ 126) : w.cell? ⟨K, 127 + j, none⟩ = some (.int .u64 (ovc (m.ov j))) := by
  obtain ⟨g, hg, h0, h1⟩ := h
  rw [hg.cell (by omega), (h1 j hj).2.1]
theorem SRow.iso (h : SRow w K m) {j : Nat} (hj : j < m.d) (h126 : m.d ≤ 126) : w.cell? ⟨K, 253 + j, none⟩ = some (.bool (m.iso j)) := by
  obtain ⟨g, hg, h0, h1⟩ := h
  rw [hg.cell (by omega), (h1 j hj).2.2]
end

theorem wrap_pred {d : Nat} (h1 : 1 ≤ d) (h2 : d ≤ 126) : IntKind.i64.wrap ((d : Int) - 1) = ((d - 1 : Nat) : Int) := by
  have : ((d : Int) - 1) = ((d - 1 : Nat) : Int) := by omega
  rw [this]
  unfold IntKind.wrap
  simp [IntKind.signed, IntKind.bits]
  omega

theorem lastLevel_any {K : Nat} {m : Mst} (w : World) (h : SRow w K m) (h1 : 1 ≤ m.d) (h2 : m.d ≤ 126) :
    Calls Tryd.prog 70 #[.pointer (some ⟨K, 0, none⟩)] w fun e w' => e = .returned (.int .i8 m.top) ∧ ∃ k, w' = w.drewN k := by
  have c0 := h.d
  have c1 := h.lv (j := m.d - 1) (by omega) h2
  rw [show 1 + (m.d - 1) = m.d by omega] at c1
  have hw := wrap_pred h1 h2
  have hz2 : ((m.d - 1 : Nat) : Int) < 126 := by omega
  have HT := Lib.hid (show m.top = m.lv (m.d - 1) from rfl)
  clear h
  go_enter Tryd.func70, Tryd.ntmps70
  go_wp2_with fail
  go_quiet (fail)
  go_wp2_with fail
  go_ret
  exact ⟨by rw [HT.out]; rfl, _, rfl⟩

theorem lastOv_any {K : Nat} {m : Mst} (w : World) (h : SRow w K m) (h1 : 1 ≤ m.d) (h2 : m.d ≤ 126) :
    Calls Tryd.prog 71 #[.pointer (some ⟨K, 0, none⟩)] w fun e w' => e = .returned (.int .u64 (ovc m.tov)) ∧ ∃ k, w' = w.drewN k := by
  have c0 := h.d
  have c1 := h.ov (j := m.d - 1) (by omega) h2
  have hw := wrap_pred h1 h2
  have hz2 : ((m.d - 1 : Nat) : Int) < 126 := by omega
  have HT := Lib.hid (show ovc m.tov = ovc (m.ov (m.d - 1)) from rfl)
  clear h
  go_enter Tryd.func71, Tryd.ntmps71
  go_wp2_with fail
  go_quiet (fail)
  go_wp2_with fail
  go_ret
  exact ⟨by rw [HT.out]; rfl, _, rfl⟩

theorem lastIso_any {K : Nat} {m : Mst} (w : World) (h : SRow w K m) (h1 : 1 ≤ m.d) (h2 : m.d ≤ 126) :
    Calls Tryd.prog 72 #[.pointer (some ⟨K, 0, none⟩)] w fun e w' => e = .returned (.bool m.tiso) ∧ ∃ k, w' = w.drewN k := by
  have c0 := h.d
  have c1 := h.iso (j := m.d - 1) (by omega) h2
  have hw := wrap_pred h1 h2
  have hz2 : ((m.d - 1 : Nat) : Int) < 126 := by omega
  have HT := Lib.hid (show m.tiso = m.iso (m.d - 1) from rfl)
  clear h
  go_enter Tryd.func72, Tryd.ntmps72
  go_wp2_with fail
  go_quiet (fail)
  go_wp2_with fail
  go_ret
  exact ⟨by rw [HT.out]; rfl, _, rfl⟩

theorem SRow.setD {w : World} {K : Nat} {m : Mst} (h : SRow w K m) {d : Nat} (hd : d ≤ m.d) {m' : Mst} (e1 : m'.d = d) (e2 : m'.lv = m.lv) (e3 : m'.ov = m.ov) (e4 : m'.iso = m.iso) : SRow (w.setCell ⟨K, 0, none⟩ (.int .i64 d)) K m' := by
  obtain ⟨g, hg, h0, h1⟩ := h
  refine ⟨_, hg.set 0 (.int .i64 d), by rw [if_pos rfl, e1], fun j hj => ?_⟩
  rw [if_neg (by omega), if_neg (by omega), if_neg (by omega), e2, e3, e4]
  exact h1 j (by omega)

theorem SRow.frozen {w : World} {K : Nat} {m : Mst} (h : SRow w K m) (i : Nat) : w.frozen? ⟨K, i, none⟩ = false := by
  obtain ⟨g, hg, _⟩ := h
  exact hg.frozen i

theorem pop_any {K : Nat} {m : Mst} (w : World) (h : SRow w K m) (h1 : 1 ≤ m.d) (h2 : m.d ≤ 126) :
    Calls Tryd.prog 73 #[.pointer (some ⟨K, 0, none⟩)] w fun e w' => e = .returned (.tuple #[]) ∧ SRow w' K { m with d := m.d - 1 } ∧ Kp (fun k => k = K) w w' := by
  have c0 := h.d
  have z0 := h.frozen 0
  have R := h.setD (d := m.d - 1) (by omega) (m' := { m with d := m.d - 1 }) rfl rfl rfl rfl
  have hz : (1 : Int) ≤ (m.d : Int) := by omega
  have S := (Kp.refl (fun k => k = K) w).setCell (a := ⟨K, 0, none⟩) (.inl rfl) (.int .i64 (m.d - 1 : Nat))
  have e : ((m.d - 1 : Nat) : Int) = (m.d : Int) - 1 := by omega
  rw [e] at R S
  clear h e
  go_enter Tryd.func73, Tryd.ntmps73
  go_wp2_with fail
  go_end0
  exact ⟨rfl, R, S⟩

theorem depth_any {K : Nat} {m : Mst} (w : World) (h : SRow w K m) :
    Calls Tryd.prog 74 #[.pointer (some ⟨K, 0, none⟩)] w fun e w' => e = .returned (.int .i64 m.d) ∧ w = w' := by
  have c0 := h.d
  clear h
  go_enter Tryd.func74, Tryd.ntmps74
  go_wp2_with fail
  go_ret
  exact ⟨rfl, rfl⟩

theorem empty_any {K : Nat} {m : Mst} (w : World) (h : SRow w K m) :
    Calls Tryd.prog 75 #[.pointer (some ⟨K, 0, none⟩)] w fun e w' => e = .returned (.tuple #[]) ∧ Kp (fun k => k = K) w w' := by
  have c0 := h.d
  have z0 := h.frozen 0
  have S := (Kp.refl (fun k => k = K) w).setCell (a := ⟨K, 0, none⟩) (.inl rfl) (.int .i64 0)
  clear h
  go_enter Tryd.func75, Tryd.ntmps75
  go_wp2_with fail
  go_end0
  exact ⟨rfl, S⟩

set_option maxHeartbeats 2000000 in
set_option maxRecDepth 100000 in
theorem push_any {K : Nat} {m : Mst} {l o : Int} {b : Bool} (w : World) (h : SRow w K m) (h2 : m.d < 126) :
    Calls Tryd.prog 69 #[.pointer (some ⟨K, 0, none⟩), .int .i8 l, .int .u64 (ovc o), .bool b] w fun e w' => e = .returned (.tuple #[]) ∧ SRow w' K (m.push l o b) ∧ Kp (fun k => k = K) w w' := by
  obtain ⟨g, hg, hg0, hg1⟩ := h
  obtain ⟨d, hd⟩ : ∃ d, d = m.d := ⟨_, rfl⟩
  rw [← hd] at h2 hg0
  have HD := Lib.hid hd
  have HG1 := Lib.hid hg1
  clear hd hg1
  obtain ⟨oc, hoc⟩ : ∃ oc, oc = ovc o := ⟨_, rfl⟩
  rw [← hoc]
  have HOC := Lib.hid hoc
  clear hoc
  have hdz : (d : Int) < 126 := by omega
  obtain ⟨g1, e1⟩ : ∃ g1 : Nat → Value, g1 = fun j => if j = 1 + d then .int .i8 l else g j := ⟨_, rfl⟩
  obtain ⟨g2, e2⟩ : ∃ g2 : Nat → Value, g2 = fun j => if j = 127 + d then .int .u64 oc else g1 j := ⟨_, rfl⟩
  obtain ⟨g3, e3⟩ : ∃ g3 : Nat → Value, g3 = fun j => if j = 253 + d then .bool b else g2 j := ⟨_, rfl⟩
  have G0 := Lib.hid hg0
  have G1 : Hid (g1 0 = .int .i64 d) := Lib.hid (by rw [e1]; exact (if_neg (by omega)).trans hg0)
  have G2 : Hid (g2 0 = .int .i64 d) := Lib.hid (by rw [e2]; exact (if_neg (by omega)).trans G1.out)
  have G3 : Hid (g3 0 = .int .i64 d) := Lib.hid (by rw [e3]; exact (if_neg (by omega)).trans G2.out)
  have E1 := Lib.hid e1
  have E2 := Lib.hid e2
  have E3 := Lib.hid e3
  clear e1 e2 e3 hg0
  obtain ⟨wc0, rfl⟩ : ∃ wc0, wc0 = w := ⟨_, rfl⟩
  have H0 : wc0.rowIs K 99 379 g ∧ Kp (fun k => k = K) wc0 wc0 := ⟨hg, Kp.refl _ _⟩
  clear hg
  go_enter Tryd.func69, Tryd.ntmps69
  go_upto_region 0 with fail
  go_cut [] (fun wx => wx.rowIs K 99 379 g1 ∧ Kp (fun k => k = K) wc0 wx)
  case first =>
    have c0 : wc0.cell? ⟨K, 0, none⟩ = some (.int .i64 d) := by rw [H0.1.cell (by omega), G0.out]
    go_still_tail 9, (by kernel_rfl)
    change wpList _ _ _ _ _ wc0.drew
    have hd : wc0.drew.rowIs K 99 379 g := H0.1
    have hk : Kp (fun k => k = K) wc0 wc0.drew := H0.2.drew
    generalize wc0.drew = w2 at hd hk ⊢
    have cx := hd.cell (i := 1 + d) (by omega)
    have zx := hd.frozen (1 + d)
    have R := hd.set (1 + d) (.int .i8 l)
    have S := hk.setCell (a := ⟨K, 1 + d, none⟩) (.inl rfl) (.int .i8 l)
    go_wp2_with fail
    go_meet
    exact ⟨by rw [E1.out]; exact R, S⟩
  obtain ⟨wc1, rfl⟩ : ∃ wc1, wc1 = wc := ⟨_, rfl⟩
  have H1 := hcut
  clear hcut
  go_upto_region 1 with fail
  go_cut [] (fun wx => wx.rowIs K 99 379 g2 ∧ Kp (fun k => k = K) wc0 wx)
  case first =>
    have c0 : wc1.cell? ⟨K, 0, none⟩ = some (.int .i64 d) := by rw [H1.1.cell (by omega), G1.out]
    go_still_tail 9, (by kernel_rfl)
    change wpList _ _ _ _ _ wc1.drew
    have hd : wc1.drew.rowIs K 99 379 g1 := H1.1
    have hk : Kp (fun k => k = K) wc0 wc1.drew := H1.2.drew
    generalize wc1.drew = w2 at hd hk ⊢
    have cx := hd.cell (i := 127 + d) (by omega)
    have zx := hd.frozen (127 + d)
    have R := hd.set (127 + d) (.int .u64 oc)
    have S := hk.setCell (a := ⟨K, 127 + d, none⟩) (.inl rfl) (.int .u64 oc)
    go_wp2_with fail
    go_meet
    exact ⟨by rw [E2.out]; exact R, S⟩
  obtain ⟨wc2, rfl⟩ : ∃ wc2, wc2 = wc := ⟨_, rfl⟩
  have H2 := hcut
  clear hcut
  go_upto_region 2 with fail
  go_cut [] (fun wx => wx.rowIs K 99 379 g3 ∧ Kp (fun k => k = K) wc0 wx)
  case first =>
    have c0 : wc2.cell? ⟨K, 0, none⟩ = some (.int .i64 d) := by rw [H2.1.cell (by omega), G2.out]
    go_still_tail 9, (by kernel_rfl)
    change wpList _ _ _ _ _ wc2.drew
    have hd : wc2.drew.rowIs K 99 379 g2 := H2.1
    have hk : Kp (fun k => k = K) wc0 wc2.drew := H2.2.drew
    generalize wc2.drew = w2 at hd hk ⊢
    have cx := hd.cell (i := 253 + d) (by omega)
    have zx := hd.frozen (253 + d)
    have R := hd.set (253 + d) (.bool b)
    have S := hk.setCell (a := ⟨K, 253 + d, none⟩) (.inl rfl) (.bool b)
    go_wp2_with fail
    go_meet
    exact ⟨by rw [E3.out]; exact R, S⟩
  obtain ⟨wc3, rfl⟩ : ∃ wc3, wc3 = wc := ⟨_, rfl⟩
  have H3 := hcut
  clear hcut
  have c0 : wc3.cell? ⟨K, 0, none⟩ = some (.int .i64 d) := by rw [H3.1.cell (by omega), G3.out]
  have z0 := H3.1.frozen 0
  have R := H3.1.set 0 (.int .i64 ((d : Int) + 1))
  have S := H3.2.setCell (a := ⟨K, 0, none⟩) (.inl rfl) (.int .i64 ((d : Int) + 1))
  go_wp2_with fail
  go_end0
  refine ⟨rfl, ⟨_, R, ?_, fun j hj => ?_⟩, S⟩
  · show Value.int .i64 ((d : Int) + 1) = .int .i64 ((m.d + 1 : Nat) : Int)
    rw [HD.out]; rfl
  · have hj' : j < m.d + 1 := hj
    have hdm := HD.out
    rw [if_neg (by omega), if_neg (by omega), if_neg (by omega), E3.out, E2.out, E1.out]
    show _ = Value.int .i8 (Mst.up m.lv m.d l j) ∧ _ = Value.int .u64 (ovc (Mst.up m.ov m.d o j)) ∧ _ = Value.bool (Mst.up m.iso m.d b j)
    by_cases e : j = d
    · subst e
      rw [← hdm, Mst.up_at, Mst.up_at, Mst.up_at, HOC.out]
      refine ⟨?_, ?_, ?_⟩ <;> dsimp only
      · rw [if_neg (by omega), if_neg (by omega), if_pos rfl]
      · rw [if_neg (by omega), if_pos rfl]
      · rw [if_pos rfl]
    · have := HG1.out j (by omega)
      rw [Mst.up_ne _ _ (by omega), Mst.up_ne _ _ (by omega), Mst.up_ne _ _ (by omega)]
      refine ⟨?_, ?_, ?_⟩ <;> dsimp only
      · rw [if_neg (by omega), if_neg (by omega), if_neg (by omega)]; exact this.1
      · rw [if_neg (by omega), if_neg (by omega), if_neg (by omega)]; exact this.2.1
      · rw [if_neg (by omega), if_neg (by omega), if_neg (by omega)]; exact this.2.2

end Go.Proofs.YtkocpijloiamcaaDoor

/- A region that draws its order: all operations but the last ones read or call quietly (a callee may draw), the last ones have one forced order: one walk serves every order. The proofs follow those of Derived/StillTail and Derived/Deep/Quiet. No program in sight. -/
namespace Go.Proofs.YtkocpijloiamcaaDoor
open Go

section
variable {P : Program} {ops : Array Oper} {md : Region.Mode} {C : World → Prop}

def anyLQ (P : Program) (md : Region.Mode) (ops : Array Oper) (C : World → Prop) (n : Nat) (L : Array Bool → Act → Prop) : Nat → Array Bool → Act → Prop
  | 0, listed, a => L listed a
  | f + 1, listed, a => Region.ready md ops listed ≠ [] ∧ ∀ i ∈ Region.ready md ops listed, i < n ∧ qOp P ops C i (anyLQ P md ops C n L f (listed.setIfInBounds i true)) a

theorem any_of_headQ {n g : Nat} {L : Array Bool → Act → Prop} {Q' : Exit → Act → World → Prop} (hL : ∀ listed a w, C w → L listed a → wpAny P md ops Q' g listed a w) :
    ∀ (f : Nat) (listed : Array Bool) (a : Act) (w : World), C w → anyLQ P md ops C n L f listed a → wpAny P md ops Q' (f + g) listed a w
  | 0, listed, a, w, hw, h => by rw [Nat.zero_add]; exact hL _ _ _ hw h
  | f + 1, listed, a, w, hw, h => by
    rw [show f + 1 + g = (f + g) + 1 by omega]
    exact ⟨fun h0 => absurd h0 h.1, fun i hi => wpOp_of_qOp hw (fun a' w' hw' h' => any_of_headQ hL f _ a' w' hw' h') (h.2 i hi).2⟩

theorem anyLQ_first {n i : Nat} {oi : Oper} {v : Value} {L : Array Bool → Act → Prop} (hi : ops[i]? = some oi) (hsel : ∀ (j : Nat) (o : Oper) cs b, ops[j]? = some o → o.op ≠ .select cs b)
    (hs : Region.sinkB md ops n = true) (hc : Region.chainB md ops n = true) (hn : n < ops.size) (hin : i < n)
    (hdone : ∀ listed a, L listed a → ∀ j ∈ Region.ready md ops listed, n ≤ j) :
    ∀ (f : Nat) (listed : Array Bool) (a : Act), HeadInv md ops n listed →
      (∀ j oj, ops[j]? = some oj → j ≠ i → listed.getD j true = false → (∀ e ∈ oj.after, Region.binds md e = true → e.on ≠ i) → oi.apart ops oj = true) →
      i ∈ Region.ready md ops listed → YieldsIn P ops C oi v a →
      anyLQ P md ops C n L f (listed.setIfInBounds i true) (a.put oi.dst v) → anyLQ P md ops C n L (f + 1) listed a := by
  intro f
  induction f with
  | zero =>
    intro listed a inv _ hr hy H
    have hun := (mem_ready.1 hr).1
    refine ⟨fun h => (by rw [h] at hr; cases hr), fun j hj => ?_⟩
    have hjn : j < n := by
      rcases Nat.lt_or_ge j n with h | h
      · exact h
      · exact absurd hj (tail_waits hs hc hn inv _ i rfl hin hun j h)
    refine ⟨hjn, ?_⟩
    by_cases hji : j = i
    · subst hji; exact hy.qOp hi H
    · have := hdone _ _ H j (ready_mono hj hji)
      omega
  | succ f ih =>
    intro listed a inv hfree hr hy H
    have hun := (mem_ready.1 hr).1
    refine ⟨fun h => (by rw [h] at hr; cases hr), fun j hj => ?_⟩
    have hjn : j < n := by
      rcases Nat.lt_or_ge j n with h | h
      · exact h
      · exact absurd hj (tail_waits hs hc hn inv _ i rfl hin hun j h)
    refine ⟨hjn, ?_⟩
    by_cases hji : j = i
    · subst hji; exact hy.qOp hi H
    · have h1 := (H.2 j (ready_mono hj hji)).2
      obtain ⟨hjun, oj, hoj, hall⟩ := mem_ready.1 hj
      have hnot : ∀ e ∈ oj.after, Region.binds md e = true → e.on ≠ i := fun e he hb heq => by
        have h1 := hall e he hb
        rw [heq, getD_both hun] at h1
        cases h1
      have h2 := qOp_put hoj (hfree j oj hoj hji hjun hnot) (fun cs b => hsel i oi cs b hi) (fun cs b => hsel j oj cs b hoj) hy h1
      have hfree' : ∀ k ok, ops[k]? = some ok → k ≠ i → (listed.setIfInBounds j true).getD k true = false →
          (∀ e ∈ ok.after, Region.binds md e = true → e.on ≠ i) → oi.apart ops ok = true := fun k ok hk hki hun hno => by
        refine hfree k ok hk hki ?_ hno
        by_cases hjk : j = k
        · subst hjk; exact hjun
        · rw [getD_set_ne true hjk] at hun; exact hun
      refine qOp_mono (fun a' h3 => ih (listed.setIfInBounds j true) a' (inv.set hj hjn) hfree' (ready_mono hr (Ne.symm hji)) h3.1 ?_) h2
      rw [Array.setIfInBounds_comm _ _ hji]
      exact h3.2

theorem anyLQ_lex {n g : Nat} {Lq : Act → Prop} (hsel : Region.noSelect ops = true) (hs : Region.sinkB md ops n = true) (hc : Region.chainB md ops n = true) (hn : n < ops.size) :
    ∀ (l : List Oper) (k : Nat) (listed : Array Bool) (a : Act), (∀ j, j < l.length → l[j]? = ops[k + j]?) → k + l.length = n → HeadInv md ops n listed →
    Region.lexHead md ops g l.length k listed = true → wpQuiet P ops C Lq l a →
    anyLQ P md ops C n (fun listed' a' => Region.seqB md ops g n listed' = true ∧ Lq a') l.length listed a
  | [], k, listed, a, _, hk, _, hB, h => by
    have : k = n := by simpa using hk
    subst this
    exact ⟨by simpa [Region.lexHead] using hB, h⟩
  | o :: l, k, listed, a, hl, hk, inv, hB, h => by
    have h0 : ops[k]? = some o := by simpa using (hl 0 (by simp)).symm
    simp only [List.length_cons, Region.lexHead, Bool.and_eq_true] at hB
    obtain ⟨⟨hr, hf⟩, hB'⟩ := hB
    have hkn : k < n := by simp only [List.length_cons] at hk; omega
    have hr' : k ∈ Region.ready md ops listed := by simpa using hr
    have hst : qOp P ops C k (wpQuiet P ops C Lq l) a := by unfold qOp; simp only [h0]; exact h
    obtain ⟨v, hy, hK⟩ := yieldsIn_of_qOp h0 hst
    exact anyLQ_first h0 (Region.noSelect_spec hsel) hs hc hn hkn (fun listed' a' hL => seqB_ready hL.1) l.length listed a inv (Region.free_spec h0 hf) hr' hy
      (anyLQ_lex hsel hs hc hn l (k + 1) _ _ (fun j hj => by have := hl (j + 1) (by simp; omega); simpa [Nat.add_assoc, Nat.add_comm 1 j] using this) (by simp only [List.length_cons] at hk; omega) (inv.set hr' hkn) hB' hK)

theorem wp_region_quiet_tail {id : Nat} {Q : Exit → Act → World → Prop} {a : Act} {w : World} {l : List Oper} (n : Nat) (hm : P.follows .mixedOrders = true) (hB : Region.lexTailB .any l.toArray n = true)
    (h : wpQuiet P l.toArray (fun w' => ∃ n, w' = w.drewN n) (fun a' => ∀ w', (∃ n, w' = w.drewN n) → wpList P l.toArray Q (l.drop n) a' w') (l.take n) a) : (Code.region id l.toArray true).wp P Q a w := by
  simp only [Region.lexTailB, Bool.and_eq_true, decide_eq_true_eq] at hB
  obtain ⟨⟨⟨⟨hsel, hn⟩, hs⟩, hc⟩, hlex⟩ := hB
  have hn' : n < l.length := by simpa using hn
  have htl : (l.take n).length = n := by simp; omega
  have hdl : (l.drop n).length = l.toArray.size - n := by simp
  have inv0 : HeadInv .any l.toArray n (Array.replicate l.toArray.size false) :=
    ⟨by simp, fun j oj _ hl => (by rw [getD_replicate_false] at hl; cases hl), fun t _ ht => getD_in (by simpa using ht) (getD_replicate_false _ _)⟩
  have H := anyLQ_lex (md := .any) (g := l.toArray.size - n) hsel hs hc hn (l.take n) 0 _ a (fun j hj => by
    have hj' : j < n := by rw [htl] at hj; exact hj
    simp [hj']) (by simpa using htl) inv0 (by rw [htl]; exact hlex) h
  refine wp_region_any hm ?_
  have := any_of_headQ (Q' := Q) (g := l.toArray.size - n) (fun listed a' w' hw' hL => by
    have := wpAny_of_seq (md := .any) (Q' := Q) (l.drop n) n listed a' w' (fun j => by simp [List.getElem?_drop]) (by rw [hdl]; exact hL.1) (hL.2 w' hw')
    rwa [hdl] at this) _ _ _ { w with drawn := w.drawn + 1 } ⟨1, rfl⟩ H
  rw [htl, show n + (l.toArray.size - n) = l.toArray.size by omega] at this
  exact this
end

end Go.Proofs.YtkocpijloiamcaaDoor

/- spec.IsInitiator, spec.IsParagraph, spec.Matching. -/
namespace Go.Proofs.YtkocpijloiamcaaDoor
open Go.RowKit

theorem isInitiator_any (n : Int) (w : World) : Calls Tryd.prog 20 #[.int .i64 n] w fun e w' => e = .returned (.bool (iniB n)) ∧ w = w' := by
  by_cases h1 : n = 19
  · subst h1
    go_enter Tryd.func20, Tryd.ntmps20
    go_wp2
    go_ret
    exact ⟨rfl, rfl⟩
  · have b1 : (n == 19) = false := beq_eq_false_iff_ne.2 h1
    by_cases h2 : n = 20
    · subst h2
      go_enter Tryd.func20, Tryd.ntmps20
      go_wp2
      go_ret
      exact ⟨rfl, rfl⟩
    · have b2 : (n == 20) = false := beq_eq_false_iff_ne.2 h2
      by_cases h3 : n = 21
      · subst h3
        go_enter Tryd.func20, Tryd.ntmps20
        go_wp2
        go_ret
        exact ⟨rfl, rfl⟩
      · have b3 : (n == 21) = false := beq_eq_false_iff_ne.2 h3
        go_enter Tryd.func20, Tryd.ntmps20
        go_wp2
        go_ret
        exact ⟨ret_bool (by unfold iniB; symm; rw [decide_eq_false_iff_not]; omega), rfl⟩

set_option maxHeartbeats 1000000 in
theorem isParagraph_any {ao : Option Addr} {b o n c : Nat} {x : Nat → Int} (w : World) (hn : n ≤ 17179869184) (hx : Sees w ao b o n c (fun i => .int .i64 (x i))) :
    Calls Tryd.prog 11 #[.slice ao n c] w fun e w' => e = .returned (.bool (paraB n x)) ∧ w = w' := by
  go_enter Tryd.func11, Tryd.ntmps11
  go_wp2
  go_loop [3, 4, 7] (fun _ _ i => ∃ k : Nat, k ≤ n ∧ i = .int .i64 k ∧ (∀ j, j < k → 0 ≤ x j ∧ x j < 23 ∧ (x j = 7 → n ≤ j + 1))) (fun _ _ i => n - (intOf i).toNat)
  case atStart => exact ⟨0, by omega, rfl, fun j hj => absurd hj (Nat.not_lt_zero _)⟩
  case round =>
    obtain ⟨k, hk, rfl, hall⟩ := hrel
    have HA := Lib.hid hall
    clear hall
    by_cases hlt : k < n
    · obtain ⟨rfl, hc⟩ := hx.get hlt
      have hlz : (k : Int) < (n : Int) := by omega
      have hno : ∀ P : Prop, (0 ≤ x k ∧ x k < 23 ∧ (x k = 7 → n ≤ k + 1) → False) → (false = paraB n x) := fun _ h => by
        unfold paraB; symm; rw [decide_eq_false_iff_not]; exact fun h2 => h (h2.2 k hlt)
      have HNO := Lib.hid hno
      clear hno
      by_cases h1 : x k < 0
      · go_wp2
        go_ret
        exact ⟨ret_bool (HNO.out True (by omega)), rfl⟩
      · by_cases h2 : 23 ≤ x k
        · go_wp2
          go_ret
          exact ⟨ret_bool (HNO.out True (by omega)), rfl⟩
        · by_cases h3 : x k = 7
          · have b3 : (x k == 7) = true := by simp [h3]
            have H3 := Lib.hid h3
            clear h3
            by_cases h4 : k + 1 < n
            · go_wp2
              go_ret
              exact ⟨ret_bool (HNO.out True (fun h => by have := h.2.2 H3.out; omega)), rfl⟩
            · go_wp2
              go_round
              case rel => exact ⟨k + 1, by omega, by go_num, fun j hj => by rcases Nat.lt_succ_iff_lt_or_eq.1 hj with h | h; exact HA.out j h; subst h; exact ⟨by omega, by omega, fun _ => by omega⟩⟩
              case measure => simp [intOf]; omega
          · have b3 : (x k == 7) = false := by simp [h3]
            have H3 := Lib.hid h3
            clear h3
            go_wp2
            go_round
            case rel => exact ⟨k + 1, by omega, by go_num, fun j hj => by rcases Nat.lt_succ_iff_lt_or_eq.1 hj with h | h; exact HA.out j h; subst h; exact ⟨by omega, by omega, fun e => absurd e H3.out⟩⟩
            case measure => simp [intOf]; omega
    · obtain rfl : k = n := by omega
      by_cases h0 : 0 < k
      · go_wp2
        go_ret
        exact ⟨ret_bool (by unfold paraB; symm; rw [decide_eq_true_eq]; exact ⟨h0, HA.out⟩), rfl⟩
      · obtain rfl : k = 0 := by omega
        go_wp2
        go_ret
        exact ⟨ret_bool (by unfold paraB; symm; rw [decide_eq_false_iff_not]; exact fun h => absurd h.1 (Nat.not_lt_zero _)), rfl⟩

def endsToN (x : Nat → Int) (n k i : Nat) : Int := if i < k then mt (iniN x) (pdiN x) n i else 0

theorem endsToN_step (x : Nat → Int) (n k : Nat) (v : Int) (hv : mt (iniN x) (pdiN x) n k = v) (j : Nat) : endsToN x n (k + 1) j = if j = k then v else endsToN x n k j := by
  unfold endsToN
  by_cases e : j = k
  · subst e; rw [if_pos (by omega), if_pos rfl, hv]
  · rw [if_neg e]
    by_cases h : j < k
    · rw [if_pos h, if_pos (by omega)]
    · rw [if_neg h, if_neg (by omega)]

end Go.Proofs.YtkocpijloiamcaaDoor

/- (*paragraph).determineParagraphEmbeddingLevel, bidi.Embedding, impl.Embedding; spec.FirstStrong, spec.BaseLevel. -/
namespace Go.Proofs.YtkocpijloiamcaaDoor
open Go.RowKit

theorem ret_int {k : IntKind} {a b : Int} (h : a = b) : Ending.returned (.int k a) = Ending.returned (.int k b) := by rw [h]

/-- Strong classes of a text of classes. -/
def sLC (c : Nat → Int) (i : Nat) : Bool := c i == 0
def sRC (c : Nat → Int) (i : Nat) : Bool := c i == 1 || c i == 13

theorem mem_LAR (c : Int) : memB [0, 13, 1] c = ((c == 0) || (c == 1 || c == 13)) := by
  unfold memB; simp only [List.contains_cons, List.contains_nil, Bool.or_false]
  cases (c == 0) <;> cases (c == 1) <;> cases (c == 13) <;> rfl
theorem mem_FLR (c : Int) : memB [23, 21, 22] c = memB [21, 22, 23] c := by
  unfold memB; simp only [List.contains_cons, List.contains_nil, Bool.or_false]
  cases (c == 21) <;> cases (c == 22) <;> cases (c == 23) <;> rfl

theorem jmp_gt {ini pdi : Nat → Bool} {n : Nat} (i : Nat) (hi : i < n) : i < jmp ini pdi n i := by
  unfold jmp
  split
  · have := mat_gt (ini := ini) (pdi := pdi) hi; omega
  · omega

/-- The level from a place on up to another one. -/
def fsC (c : Nat → Int) (n i z : Nat) : Int := fsr (sLC c) (sRC c) (jmp (iniC c) (pdiC c) n) 0 z (z - i) i

theorem fsC_end {c : Nat → Int} {n i z : Nat} (h : z ≤ i) : fsC c n i z = 0 := fsr_end h
theorem fsC_jmp {c : Nat → Int} {n i z : Nat} (h : i < z) (hn : z ≤ n) (h1 : sLC c i = false) (h2 : sRC c i = false) : fsC c n i z = fsC c n (jmp (iniC c) (pdiC c) n i) z := by
  unfold fsC
  rw [show z - i = (z - i - 1) + 1 by omega, fsr_next h h1 h2]
  have hg := jmp_gt (ini := iniC c) (pdi := pdiC c) i (show i < n by omega)
  -- fuel
  have key : ∀ f g i, z ≤ i + f → z ≤ i + g → fsr (sLC c) (sRC c) (jmp (iniC c) (pdiC c) n) 0 z f i = fsr (sLC c) (sRC c) (jmp (iniC c) (pdiC c) n) 0 z g i := by
    intro f
    induction f with
    | zero => intro g i h _; rw [fsr_end (f := g) (by omega)]; rfl
    | succ f ih =>
      intro g i h1 h2
      by_cases hi : z ≤ i
      · rw [fsr_end hi, fsr_end hi]
      · cases g with
        | zero => omega
        | succ g =>
          have := jmp_gt (ini := iniC c) (pdi := pdiC c) i (show i < n by omega)
          rw [fsr, fsr, ih g _ (by omega) (by omega)]
  exact key _ _ _ (by omega) (by omega)
theorem fsC_L {c : Nat → Int} {n i z : Nat} (h : i < z) (h1 : sLC c i = true) : fsC c n i z = 0 := by
  unfold fsC; rw [show z - i = (z - i - 1) + 1 by omega, fsr_L h h1]
theorem fsC_R {c : Nat → Int} {n i z : Nat} (h : i < z) (h1 : sLC c i = false) (h2 : sRC c i = true) : fsC c n i z = 1 := by
  unfold fsC; rw [show z - i = (z - i - 1) + 1 by omega, fsr_R h h1 h2]

set_option maxHeartbeats 2000000 in
/-- The level of the characters from a place on up to another one; the isolates that begin there end there. -/
theorem dpel_any {p n i0 z : Nat} {f0 f1 f2 f3 f5 f7 : Value} {ao : Option Addr} {b o cc N6 : Nat} {c cur : Nat → Int} (w : World) (hn : n ≤ 8589934592) (hto : z ≤ n) (hi0 : i0 ≤ n) (hcur : ∀ i, i0 ≤ i → i < n → cur i = c i)
    (hp : w.rowIs p 70 8 (pf f0 f1 f2 f3 (.slice ao n cc) f5 (.slice (some ⟨N6, 0, none⟩) n n) f7)) (hx : Sees w ao b o n cc (fun i => .int .u64 (cur i)))
    (he : w.rowIs N6 3 n (fun i => .int .i64 (mt (iniC c) (pdiC c) n i))) (hu : ∀ i, i < n → 0 ≤ c i ∧ c i ≤ 24) (hin : ∀ i, i0 ≤ i → i < z → iniC c i = true → mat (iniC c) (pdiC c) n i ≤ z) :
    Calls Tryd.prog 47 #[.pointer (some ⟨p, 0, none⟩), .int .i64 i0, .int .i64 z] w fun e w' => e = .returned (.int .i8 (fsC c n i0 z)) ∧ w.Since w.heap.size w' := by
  have HIN := Lib.hid hin
  have HU := Lib.hid hu
  have HCUR := Lib.hid hcur
  clear hin hu hcur
  go_enter Tryd.func47, Tryd.ntmps47
  go_wp2
  go_loopg [7, 8, 9] (n + 1 - i0) (fun g s i _ wr => ∃ q : Nat, i0 ≤ q ∧ q ≤ n + 1 ∧ g = n + 1 - q ∧ i = .int .i64 q ∧ s = .int .u64 18446744073709551615 ∧ Hid (fsC c n i0 z = fsC c n q z) ∧ w.Since w.heap.size wr)
  case atStart => exact ⟨i0, by omega, by omega, rfl, rfl, rfl, rfl, World.Since.refl _ _⟩
  case round =>
    obtain ⟨q, hq0, hq1, rfl, rfl, rfl, hfs, hs⟩ := hrel
    by_cases hq : q < z
    · have hqz : (q : Int) < (z : Int) := by omega
      have hqn : (q : Int) < (n : Int) := by omega
      have hqn' : q < n := by omega
      obtain ⟨rfl, hc0⟩ := hx.get hqn'
      rw [HCUR.out q hq0 hqn'] at hc0
      have hc : wr.cell? ⟨b, o + q, none⟩ = some (.int .u64 (c q)) := by rw [hs.cell (World.block_lt_of_cell? _ _ hc0)]; exact hc0
      have k4 : wr.cell? ⟨p, 4, none⟩ = some (.slice (some ⟨b, o, none⟩) n cc) := by rw [hs.cell (a := ⟨p, 4, none⟩) hp.lt]; exact hp.cell (by omega)
      obtain ⟨u0, u1⟩ := HU.out q hqn'
      have hh := heap_alloc_new wr (.cells #[.int .u64 0, .int .u64 13, .int .u64 1] 67)
      have hs1 : w.Since w.heap.size (wr.alloc (.cells #[.int .u64 0, .int .u64 13, .int .u64 1] 67)) := hs.alloc hs.size _
      clear hc0
      go_wp2_with fail
      refine (in_any [0, 13, 1] (c q) _ (by decide) hh).mono ?_
      rintro e w2 ⟨rfl, rfl⟩
      clear hh hc k4
      by_cases hst : memB [0, 13, 1] (c q) = true
      · have hb1 : (c q == 18446744073709551615) = false := beq_eq_false_iff_ne.2 (by omega)
        by_cases hL : (c q == 0) = true
        · have hv : fsC c n i0 z = 0 := hfs.out.trans (fsC_L hq hL)
          have HV := Lib.hid hv
          clear hv
          go_wp2_with fail
          go_ret
          exact ⟨ret_int HV.out.symm, hs1⟩
        · have hL' : (c q == 0) = false := by simpa using hL
          have hR : sRC c q = true := by rw [mem_LAR, hL'] at hst; simpa [sRC] using hst
          have hv : fsC c n i0 z = 1 := hfs.out.trans (fsC_R hq hL' hR)
          have HV := Lib.hid hv
          clear hv hL
          go_wp2_with fail
          go_ret
          exact ⟨ret_int HV.out.symm, hs1⟩
      · have hst' : memB [0, 13, 1] (c q) = false := by simpa using hst
        have h1 : sLC c q = false := by rw [mem_LAR] at hst'; have := (Bool.or_eq_false_iff.1 hst').1; exact this
        have h2 : sRC c q = false := by rw [mem_LAR] at hst'; have := (Bool.or_eq_false_iff.1 hst').2; exact this
        have hfs2 := hfs.out.trans (fsC_jmp hq hto h1 h2)
        have hh2 := heap_alloc_new (wr.alloc (.cells #[.int .u64 0, .int .u64 13, .int .u64 1] 67)) (.cells #[.int .u64 23, .int .u64 21, .int .u64 22] 67)
        rw [World.size_alloc] at hh2
        have hs2 := hs1.alloc (by simp; have := hs.size; omega) (.cells #[.int .u64 23, .int .u64 21, .int .u64 22] 67)
        clear hst h1 h2 hfs hs
        go_wp2_with fail
        refine (in_any [23, 21, 22] (c q) _ (by decide) hh2).mono ?_
        rintro e w2 ⟨rfl, rfl⟩
        clear hh2
        by_cases hi : memB [23, 21, 22] (c q) = true
        · have hi2 : iniC c q = true := by rw [mem_FLR] at hi; exact hi
          have hmle := HIN.out q hq0 hq hi2
          have hmgt := mat_gt (ini := iniC c) (pdi := pdiC c) hqn'
          have hmtq : mt (iniC c) (pdiC c) n q = (mat (iniC c) (pdiC c) n q : Int) := mt_ini hi2
          have hj : jmp (iniC c) (pdiC c) n q = mat (iniC c) (pdiC c) n q + 1 := if_pos hi2
          rw [hj] at hfs2
          have k6 : ((wr.alloc (.cells #[.int .u64 0, .int .u64 13, .int .u64 1] 67)).alloc (.cells #[.int .u64 23, .int .u64 21, .int .u64 22] 67)).cell? ⟨p, 6, none⟩ = some (.slice (some ⟨N6, 0, none⟩) n n) := by rw [hs2.cell (a := ⟨p, 6, none⟩) hp.lt]; exact hp.cell (by omega)
          have k7 : ((wr.alloc (.cells #[.int .u64 0, .int .u64 13, .int .u64 1] 67)).alloc (.cells #[.int .u64 23, .int .u64 21, .int .u64 22] 67)).cell? ⟨N6, q, none⟩ = some (.int .i64 (mat (iniC c) (pdiC c) n q : Int)) := by rw [hs2.cell (a := ⟨N6, q, none⟩) he.lt, he.cell hqn', hmtq]
          obtain ⟨mq, hmq⟩ : ∃ mq, mq = mat (iniC c) (pdiC c) n q := ⟨_, rfl⟩
          rw [← hmq] at hmle hmgt hfs2 k7
          have HF := Lib.hid hfs2
          clear hmtq hj hmq hfs2 hi2
          have hz1 : ¬ (z : Int) < (mq : Int) := by omega
          go_wp2_with fail
          go_roundg (n + 1 - (mq + 1))
          case rel => exact ⟨mq + 1, by omega, by omega, rfl, by go_num, rfl, HF, hs2⟩
          case measure => omega
        · have hi' : memB [23, 21, 22] (c q) = false := by simpa using hi
          have hi2 : iniC c q = false := by rw [mem_FLR] at hi'; exact hi'
          have hj : jmp (iniC c) (pdiC c) n q = q + 1 := if_neg (by rw [hi2]; decide)
          rw [hj] at hfs2
          have HF := Lib.hid hfs2
          clear hj hfs2 hi hi2
          go_wp2_with fail
          go_roundg (n + 1 - (q + 1))
          case rel => exact ⟨q + 1, by omega, by omega, rfl, by go_num, rfl, HF, hs2⟩
          case measure => omega
    · have hqz : ¬ (q : Int) < (z : Int) := by omega
      have hv : fsC c n i0 z = 0 := hfs.out.trans (fsC_end (by omega))
      have HV := Lib.hid hv
      clear hv
      go_wp2_with fail
      go_ret
      exact ⟨ret_int HV.out.symm, hs⟩

theorem fsC_small (c : Nat → Int) (n i z : Nat) : fsC c n i z = 0 ∨ fsC c n i z = 1 := by
  unfold fsC
  generalize z - i = f
  induction f generalizing i with
  | zero => exact .inl rfl
  | succ f ih =>
    rw [fsr]
    split
    · exact .inl rfl
    · split
      · exact .inl rfl
      · split
        · exact .inr rfl
        · exact ih _

end Go.Proofs.YtkocpijloiamcaaDoor

/- spec.FirstStrong, spec.BaseLevel. -/
namespace Go.Proofs.YtkocpijloiamcaaDoor
open Go.RowKit

def sLN (x : Nat → Int) (i : Nat) : Bool := x i == 0
def sRN (x : Nat → Int) (i : Nat) : Bool := x i == 1 || x i == 13

/-- The side of the first strong one from a place on up to another one, outside of isolates; d if there is none. -/
def fsN (x : Nat → Int) (d : Int) (n i z : Nat) : Int := fsr (sLN x) (sRN x) (jmp (iniN x) (pdiN x) n) d z (z - i) i

theorem fsN_end {x : Nat → Int} {d : Int} {n i z : Nat} (h : z ≤ i) : fsN x d n i z = d := fsr_end h
theorem fsN_jmp {x : Nat → Int} {d : Int} {n i z : Nat} (h : i < z) (hn : z ≤ n) (h1 : sLN x i = false) (h2 : sRN x i = false) : fsN x d n i z = fsN x d n (jmp (iniN x) (pdiN x) n i) z := by
  unfold fsN
  rw [show z - i = (z - i - 1) + 1 by omega, fsr_next h h1 h2]
  have hg := jmp_gt (ini := iniN x) (pdi := pdiN x) i (show i < n by omega)
  have key : ∀ f g i, z ≤ i + f → z ≤ i + g → fsr (sLN x) (sRN x) (jmp (iniN x) (pdiN x) n) d z f i = fsr (sLN x) (sRN x) (jmp (iniN x) (pdiN x) n) d z g i := by
    intro f
    induction f with
    | zero => intro g i h _; rw [fsr_end (f := g) (by omega)]; rfl
    | succ f ih =>
      intro g i h1 h2
      by_cases hi : z ≤ i
      · rw [fsr_end hi, fsr_end hi]
      · cases g with
        | zero => omega
        | succ g =>
          have := jmp_gt (ini := iniN x) (pdi := pdiN x) i (show i < n by omega)
          rw [fsr, fsr, ih g _ (by omega) (by omega)]
  exact key _ _ _ (by omega) (by omega)
theorem fsN_L {x : Nat → Int} {d : Int} {n i z : Nat} (h : i < z) (h1 : sLN x i = true) : fsN x d n i z = 0 := by
  unfold fsN; rw [show z - i = (z - i - 1) + 1 by omega, fsr_L h h1]
theorem fsN_R {x : Nat → Int} {d : Int} {n i z : Nat} (h : i < z) (h1 : sLN x i = false) (h2 : sRN x i = true) : fsN x d n i z = 1 := by
  unfold fsN; rw [show z - i = (z - i - 1) + 1 by omega, fsr_R h h1 h2]

theorem fsC_eq {x : Nat → Int} {n z : Nat} (hz : z ≤ n) (hok : ∀ i, i < n → clsOk (x i)) (i : Nat) : fsC (fun i => cls (x i)) n i z = fsN x 0 n i z := by
  unfold fsC fsN
  refine fsr_congr (fun i hi => ?_) (fun i hi => ?_) (fun i hi => ?_) _ _
  · have := hok i (by omega)
    unfold clsOk at this
    show (cls (x i) == 0) = (x i == 0)
    rw [Bool.eq_iff_iff, beq_iff_eq, beq_iff_eq]
    unfold cls
    rw [if_neg (by omega)]
    split <;> omega
  · have := hok i (by omega)
    unfold clsOk at this
    show (cls (x i) == 1 || cls (x i) == 13) = (x i == 1 || x i == 13)
    rw [Bool.eq_iff_iff, Bool.or_eq_true, Bool.or_eq_true, beq_iff_eq, beq_iff_eq, beq_iff_eq, beq_iff_eq]
    unfold cls
    rw [if_neg (by omega)]
    split <;> omega
  · have H1 : ∀ i, i < n → iniC (fun i => cls (x i)) i = iniN x i := fun i hi => cls_ini (hok i hi)
    have H2 : ∀ i, i < n → pdiC (fun i => cls (x i)) i = pdiN x i := fun i hi => by
      show (cls (x i) == 24) = (x i == 22)
      rw [cls_pdi (hok i hi)]; unfold pdiB; rw [Bool.eq_iff_iff]; simp
    unfold jmp
    rw [H1 i (by omega)]
    split
    · next h =>
      have := mt_congr H1 H2 (show i < n by omega)
      rw [mt_ini ((H1 i (by omega)).trans h), mt_ini h] at this
      omega
    · rfl

/-- P2 and P3, if no level is given. -/
def baseN (x : Nat → Int) (n : Nat) (g : Int) : Int := if g = 0 ∨ g = 1 then g else fsN x 0 n 0 n

end Go.Proofs.YtkocpijloiamcaaDoor

/- (*paragraph).determineExplicitEmbeddingLevels (X1 to X8): words and plain laws for the walk. -/
namespace Go.Proofs.YtkocpijloiamcaaDoor
open Go.RowKit
set_option linter.unusedVariables false

/-- Places in memory that differ. -/
structure Dis (p K T R N6 : Nat) : Prop where
  pK : p ≠ K
  pT : p ≠ T
  pR : p ≠ R
  TK : T ≠ K
  RK : R ≠ K
  TR : T ≠ R
  NK : N6 ≠ K
  NT : N6 ≠ T
  NR : N6 ≠ R

/-- The paragraph while the levels are found. -/
structure EX (w0 : World) (B p K T R N6 capT n : Nat) (f0 f1 f2 f7 : Value) (base : Int) (c ct cl : Nat → Int) (wx : World) : Prop where
  para : wx.rowIs p 70 8 (pf f0 f1 f2 (.int .i8 base) (.slice (some ⟨T, 0, none⟩) n capT) (.slice (some ⟨R, 0, none⟩) n n) (.slice (some ⟨N6, 0, none⟩) n n) f7)
  types : Gr wx B 67 (.slice (some ⟨T, 0, none⟩) n capT) n (fun i => .int .u64 (ct i))
  levels : wx.rowIs R 62 n (fun i => .int .i8 (cl i))
  mts : wx.rowIs N6 3 n (fun i => .int .i64 (mt (iniC c) (pdiC c) n i))
  kept : Kp (fun k => k = T ∨ k = R ∨ k = K) w0 wx

section
variable {w0 wx wy : World} {B p K T R N6 capT n : Nat} {f0 f1 f2 f7 : Value} {base : Int} {c ct cl ct' cl' : Nat → Int}

theorem EX.step (h : EX w0 B p K T R N6 capT n f0 f1 f2 f7 base c ct cl wx) (hd : Dis p K T R N6) (s : Kp (fun k => k = K) wx wy) : EX w0 B p K T R N6 capT n f0 f1 f2 f7 base c ct cl wy :=
  ⟨s.row h.para hd.pK, h.types.kept' (fun k hk => by
      simp only [Value.ownBlock, Option.some.injEq] at hk
      subst hk
      exact s.block _ (h.types.ge _ rfl).2 hd.TK), s.row h.levels hd.RK, s.row h.mts hd.NK, h.kept.trans (s.mono (fun k _ e => .inr (.inr e)))⟩

theorem EX.since (h : EX w0 B p K T R N6 capT n f0 f1 f2 f7 base c ct cl wx) (hd : Dis p K T R N6) (s : wx.Since wx.heap.size wy) : EX w0 B p K T R N6 capT n f0 f1 f2 f7 base c ct cl wy :=
  h.step hd (Kp.since s _)

theorem EX.drewN (h : EX w0 B p K T R N6 capT n f0 f1 f2 f7 base c ct cl wx) (k : Nat) : EX w0 B p K T R N6 capT n f0 f1 f2 f7 base c ct cl (wx.drewN k) :=
  ⟨h.para, h.types, h.levels, h.mts, h.kept.drewN k⟩

theorem EX.congr (h : EX w0 B p K T R N6 capT n f0 f1 f2 f7 base c ct cl wx) (e1 : ∀ i, i < n → ct i = ct' i) (e2 : ∀ i, i < n → cl i = cl' i) : EX w0 B p K T R N6 capT n f0 f1 f2 f7 base c ct' cl' wx :=
  ⟨h.para, h.types.congr (fun i hi => by rw [e1 i hi]), h.levels.congr (fun i hi => by rw [e2 i hi]), h.mts, h.kept⟩

theorem EX.setL (h : EX w0 B p K T R N6 capT n f0 f1 f2 f7 base c ct cl wx) (hd : Dis p K T R N6) (k : Nat) (v : Int) : EX w0 B p K T R N6 capT n f0 f1 f2 f7 base c ct (fun i => if i = k then v else cl i) (wx.setCell ⟨R, k, none⟩ (.int .i8 v)) :=
  ⟨h.para.setOther hd.pR _, h.types.kept' (fun q hq => by
      simp only [Value.ownBlock, Option.some.injEq] at hq
      subst hq
      exact Go.Deep.blk_setCell_other _ _ _ _ hd.TR), (h.levels.set k (.int .i8 v)).congr (fun i _ => by split <;> rfl), h.mts.setOther hd.NR _, h.kept.setCell (a := ⟨R, k, none⟩) (.inl (.inr (.inl rfl))) _⟩

theorem EX.setT (h : EX w0 B p K T R N6 capT n f0 f1 f2 f7 base c ct cl wx) (hd : Dis p K T R N6) (k : Nat) (v : Int) : EX w0 B p K T R N6 capT n f0 f1 f2 f7 base c (fun i => if i = k then v else ct i) cl (wx.setCell ⟨T, k, none⟩ (.int .u64 v)) :=
  ⟨h.para.setOther hd.pT _, (h.types.set k (.int .u64 v)).congr (fun i _ => by split <;> rfl), h.levels.setOther hd.TR.symm _, h.mts.setOther hd.NT _, h.kept.setCell (a := ⟨T, k, none⟩) (.inl (.inl rfl)) _⟩

theorem SRow.setOther {w : World} {m : Mst} (h : SRow w K m) {a : Addr} (ha : K ≠ a.block) (v : Value) : SRow (w.setCell a v) K m := h.of_block (Go.Deep.blk_setCell_other _ _ _ _ ha)
end

theorem SRow.congr {w : World} {K : Nat} {m m' : Mst} (h : SRow w K m) (e : m'.d = m.d) (e1 : ∀ j, j < m.d → m'.lv j = m.lv j) (e2 : ∀ j, j < m.d → m'.ov j = m.ov j) (e3 : ∀ j, j < m.d → m'.iso j = m.iso j) : SRow w K m' := by
  obtain ⟨g, hg, h0, h1⟩ := h
  refine ⟨g, hg, by rw [h0, e], fun j hj => ?_⟩
  rw [e] at hj
  rw [e1 j hj, e2 j hj, e3 j hj]
  exact h1 j hj

theorem zeros_size : (Tryd.zeroCells99).size = 379 := by kernel_rfl
theorem zeros_zero : (Tryd.zeroCells99)[0]? = some (.int .i64 0) := by kernel_rfl

theorem zeros_row (w : World) : (w.alloc (.cells Tryd.zeroCells99 99)).rowIs w.heap.size 99 379 (fun i => (Tryd.zeroCells99[i]?).getD undef) := by
  have := World.rowIs_alloc w Tryd.zeroCells99 99 (fun i => (Tryd.zeroCells99[i]?).getD undef) (fun i hi => by
    rw [Array.getElem?_eq_getElem hi]; rfl)
  rw [zeros_size] at this
  exact this

theorem zeros_srow (w : World) (base : Int) : SRow (w.alloc (.cells Tryd.zeroCells99 99)) w.heap.size ⟨0, fun _ => base, fun _ => -1, fun _ => false, 0, 0, 0⟩ := by
  refine ⟨_, zeros_row w, ?_, fun j hj => absurd hj (Nat.not_lt_zero _)⟩
  rw [zeros_zero]; rfl

theorem start_srow {w : World} {K : Nat} {base : Int} {x fs : Nat → Int} (h : SRow w K (Mst.push ⟨0, fun _ => base, fun _ => -1, fun _ => false, 0, 0, 0⟩ base (-1) false)) : SRow w K (mst x fs base 0) := by
  show SRow w K (Mst.start base)
  refine h.congr rfl (fun j hj => ?_) (fun j hj => ?_) (fun j hj => ?_)
  · show base = Mst.up (fun _ => base) 0 base j
    unfold Mst.up; split <;> rfl
  · show -1 = Mst.up (fun _ => (-1 : Int)) 0 (-1) j
    unfold Mst.up; split <;> rfl
  · show false = Mst.up (fun _ => false) 0 false j
    unfold Mst.up; split <;> rfl

/-- The side of an FSI. -/
def fsI (n : Nat) (x : Nat → Int) (i : Nat) : Int := fsN x 0 n (i + 1) (mat (iniN x) (pdiN x) n i)

/-- The types as the package leaves them. -/
def tI (x fs : Nat → Int) (base : Int) (j : Nat) : Int :=
  if x j = 14 ∨ x j = 15 ∨ x j = 16 ∨ x j = 17 ∨ x j = 18 ∨ x j = 22 ∨ x j = 7 then x j else if (mst x fs base j).tov = -1 then x j else (mst x fs base j).tov

theorem SRow.drewN {w : World} {K : Nat} {m : Mst} (h : SRow w K m) (k : Nat) : SRow (w.drewN k) K m := h

theorem push_of {K : Nat} {m : Mst} {l o oc : Int} {b : Bool} (w : World) (h : SRow w K m) (h2 : m.d < 126) (ho : ovc o = oc) :
    Calls Tryd.prog 69 #[.pointer (some ⟨K, 0, none⟩), .int .i8 l, .int .u64 oc, .bool b] w fun e w' => e = .returned (.tuple #[]) ∧ SRow w' K (m.push l o b) ∧ Kp (fun k => k = K) w w' := by
  subst ho; exact push_any w h h2

theorem in_of (l : List Int) (c : Int) (r : Bool) (w : World) {b : Nat} (hl : l.length ≤ 1000) (h : w.heap[b]? = some (.cells (l.map (Value.int .u64)).toArray 67 (0, 0))) (hr : memB l c = r) :
    Calls Tryd.prog 55 #[.int .u64 c, .slice (some ⟨b, 0, none⟩) l.length l.length] w fun e w' => e = .returned (.bool r) ∧ w = w' := by
  subst hr; exact in_any l c w hl h

theorem bits_or_i8 : ∀ k : Fin 127, bits BinOp.or IntKind.i8 ((k : Nat) : Int) 1 = (if ((k : Nat) : Int) % 2 = 1 then ((k : Nat) : Int) else ((k : Nat) : Int) + 1) := by decide
theorem bits_andNot_i8 : ∀ k : Fin 128, bits BinOp.andNot IntKind.i8 ((k : Nat) : Int) 1 = (if ((k : Nat) : Int) % 2 = 0 then ((k : Nat) : Int) else ((k : Nat) : Int) - 1) := by decide

theorem next_bits1 {m : Mst} {v : Nat} (hv : m.top = v) (h2 : v ≤ 125 := by omega) : bits BinOp.or IntKind.i8 ((v : Int) + 1) 1 = m.next 1 ∧ 0 ≤ m.next 1 ∧ m.next 1 ≤ 127 := by
  have h := bits_or_i8 ⟨v + 1, by omega⟩
  simp only at h
  rw [show ((v + 1 : Nat) : Int) = (v : Int) + 1 from by omega] at h
  unfold Mst.next
  rw [h, hv]
  refine ⟨?_, ?_, ?_⟩ <;> repeat' split
  all_goals omega
theorem next_bits0 {m : Mst} {v : Nat} (hv : m.top = v) (h2 : v ≤ 125 := by omega) : bits BinOp.andNot IntKind.i8 ((v : Int) + 2) 1 = m.next 0 ∧ 0 ≤ m.next 0 ∧ m.next 0 ≤ 127 := by
  have h := bits_andNot_i8 ⟨v + 2, by omega⟩
  simp only at h
  rw [show ((v + 2 : Nat) : Int) = (v : Int) + 2 from by omega] at h
  unfold Mst.next
  rw [h, hv]
  refine ⟨?_, ?_, ?_⟩ <;> repeat' split
  all_goals omega

theorem step_17 (m : Mst) (f : Int) : m.step 17 f = m.embed 1 (-1) := rfl
theorem step_16 (m : Mst) (f : Int) : m.step 16 f = m.embed 0 (-1) := rfl
theorem step_15 (m : Mst) (f : Int) : m.step 15 f = m.embed 1 1 := rfl
theorem step_14 (m : Mst) (f : Int) : m.step 14 f = m.embed 0 0 := rfl
theorem step_18 (m : Mst) (f : Int) : m.step 18 f = m.pop := rfl
theorem step_20 (m : Mst) (f : Int) : m.step 20 f = m.begin_ 1 := rfl
theorem step_19 (m : Mst) (f : Int) : m.step 19 f = m.begin_ 0 := rfl
theorem step_21 (m : Mst) (f : Int) : m.step 21 f = m.begin_ f := rfl
theorem step_22 (m : Mst) (f : Int) : m.step 22 f = m.close := rfl

/-- The types when k characters are done. -/
def ctK (x fs : Nat → Int) (base : Int) (k : Nat) : Nat → Int := fun i => if i < k then cls (tI x fs base i) else cls (x i)
theorem ctK_at {x fs : Nat → Int} {base : Int} {k : Nat} : ctK x fs base k k = cls (x k) := if_neg (Nat.lt_irrefl _)

theorem tI_rem {x fs : Nat → Int} {base : Int} {k : Nat} {t : Int} (h : x k = t) (ht : t = 14 ∨ t = 15 ∨ t = 16 ∨ t = 17 ∨ t = 18 ∨ t = 22 ∨ t = 7) : tI x fs base k = x k := by
  unfold tI; rw [if_pos (by rw [h]; exact ht)]

/-- An embedding, override or initiator. -/
def sevB (t : Int) : Bool := decide (t = 14 ∨ t = 15 ∨ t = 16 ∨ t = 17 ∨ t = 19 ∨ t = 20 ∨ t = 21)
/-- Does it ask for an odd level? -/
def rtlB (t fs : Int) : Bool := decide (t = 17 ∨ t = 15 ∨ t = 20 ∨ (t = 21 ∧ fs = 1))
/-- The override that it asks for. -/
def ovr (t : Int) : Int := if t = 14 then 0 else if t = 15 then 1 else -1

theorem sevB_iff {t : Int} : sevB t = true ↔ (t = 14 ∨ t = 15 ∨ t = 16 ∨ t = 17 ∨ t = 19 ∨ t = 20 ∨ t = 21) := by unfold sevB; rw [decide_eq_true_eq]
theorem sevB_cls {t : Int} (h : sevB t = true) : cls t = 19 ∨ cls t = 18 ∨ cls t = 17 ∨ cls t = 16 ∨ cls t = 22 ∨ cls t = 21 ∨ cls t = 23 := by
  rw [sevB_iff] at h
  rcases h with rfl | rfl | rfl | rfl | rfl | rfl | rfl <;> decide
theorem sevB_iso {t : Int} (h : sevB t = true) : memB [22, 21, 23] (cls t) = iniB t := by
  rw [sevB_iff] at h
  rcases h with rfl | rfl | rfl | rfl | rfl | rfl | rfl <;> decide
theorem sevB_rtl {t : Int} (f : Int) (h : sevB t = true) : rtlB t f = if t = 21 then (f == 1) else memB [19, 17, 22] (cls t) := by
  rw [sevB_iff] at h
  by_cases e : t = 21
  · subst e
    rw [if_pos rfl, Bool.eq_iff_iff, beq_iff_eq]
    unfold rtlB
    rw [decide_eq_true_eq]; omega
  · rw [if_neg e]
    have : rtlB t f = decide (t = 17 ∨ t = 15 ∨ t = 20) := by
      unfold rtlB; rw [Bool.eq_iff_iff, decide_eq_true_eq, decide_eq_true_eq]; omega
    rw [this]
    rcases h with rfl | rfl | rfl | rfl | rfl | rfl | rfl <;> first | decide | exact absurd rfl e
theorem fsN_small (x : Nat → Int) (n i z : Nat) : fsN x 0 n i z = 0 ∨ fsN x 0 n i z = 1 := by
  unfold fsN
  generalize z - i = f
  induction f generalizing i with
  | zero => exact .inl rfl
  | succ f ih =>
    rw [fsr]
    split
    · exact .inl rfl
    · split
      · exact .inl rfl
      · split
        · exact .inr rfl
        · exact ih _
theorem fsI_small {N : Nat} (_ : N ≤ 8589934592) (n : Nat) (x : Nat → Int) (k : Nat) : fsI n x k = 0 ∨ fsI n x k = 1 := fsN_small _ _ _ _
theorem sevB_step {m : Mst} {t : Int} (f : Int) (hf : f = 0 ∨ f = 1) (h : sevB t = true) : m.step t f = if iniB t = true then m.begin_ (if rtlB t f = true then 1 else 0) else m.embed (if rtlB t f = true then 1 else 0) (ovr t) := by
  rw [sevB_iff] at h
  by_cases e : t = 21
  · subst e
    rw [if_pos (by decide), step_21]
    rcases hf with rfl | rfl
    · rw [if_neg (by decide)]
    · rw [if_pos (by decide)]
  · have hr : rtlB t f = decide (t = 17 ∨ t = 15 ∨ t = 20) := by
      unfold rtlB; rw [Bool.eq_iff_iff, decide_eq_true_eq, decide_eq_true_eq]; omega
    rw [hr]
    rcases h with rfl | rfl | rfl | rfl | rfl | rfl | rfl <;> first | rfl | exact absurd rfl e
theorem sevB_noiso {t : Int} (h : sevB t = true) (hi : false = iniB t) : t = 14 ∨ t = 15 ∨ t = 16 ∨ t = 17 ∨ t = 18 ∨ t = 22 ∨ t = 7 := by
  rw [sevB_iff] at h
  have : iniB t = decide (t = 19 ∨ t = 20 ∨ t = 21) := rfl
  rw [this] at hi
  have := of_decide_eq_false hi.symm
  omega
theorem sevB_isorange {t : Int} (h : sevB t = true) (hi : true = iniB t) : ¬ (t = 14 ∨ t = 15 ∨ t = 16 ∨ t = 17 ∨ t = 18 ∨ t = 22 ∨ t = 7) := by
  have : iniB t = decide (t = 19 ∨ t = 20 ∨ t = 21) := rfl
  rw [this] at hi
  have := of_decide_eq_true hi.symm
  omega
theorem sevB_rem {t : Int} (h : sevB t = true) (hr : remN t = false) : iniB t = true := by
  rw [sevB_iff] at h
  rcases h with rfl | rfl | rfl | rfl | rfl | rfl | rfl <;> first | rfl | exact absurd hr (by decide)
theorem sevB_ne {t : Int} (h : sevB t = true) : t ≠ 22 ∧ t ≠ 7 := by rw [sevB_iff] at h; omega
theorem ovr_iso {t : Int} (hi : true = iniB t) : ovr t = -1 := by
  have : iniB t = decide (t = 19 ∨ t = 20 ∨ t = 21) := rfl
  rw [this] at hi
  have := of_decide_eq_true hi.symm
  unfold ovr
  rw [if_neg (by omega), if_neg (by omega)]
theorem cls_fsi {t : Int} (h : cls t = 23) : t = 21 := by
  unfold cls at h
  split at h
  · omega
  · split at h <;> omega
theorem cls_lro {t : Int} (h : cls t = 16) : t = 14 := by
  unfold cls at h
  split at h
  · omega
  · split at h <;> omega
theorem cls_rlo {t : Int} (h : cls t = 17) : t = 15 := by
  unfold cls at h
  split at h
  · omega
  · split at h <;> omega
theorem tI_same {x fs : Nat → Int} {base : Int} {k : Nat} (h : x k = 14 ∨ x k = 15 ∨ x k = 16 ∨ x k = 17 ∨ x k = 18 ∨ x k = 22 ∨ x k = 7) : tI x fs base k = x k := by unfold tI; rw [if_pos h]
theorem next_range {m : Mst} {v : Nat} {o : Int} (hv : m.top = v) (h2 : v ≤ 125) : 0 ≤ m.next o ∧ m.next o ≤ 127 := by
  unfold Mst.next
  rw [hv]
  split <;> omega
theorem Mst.Ok.tov_or {base : Int} {i : Nat} {m : Mst} (h : Mst.Ok base i m) : m.tov = -1 ∨ m.tov = 0 ∨ m.tov = 1 := h.ov _ (by have := h.d1; omega)
theorem lvl_b {x fs : Nat → Int} {base : Int} {k : Nat} (h : x k = 7) : lvl x fs base k = base := by unfold lvl; rw [if_neg (by omega), if_pos h]
theorem oth_range {t : Int} (h1 : ¬ sevB t = true) (h2 : t ≠ 22) (h3 : t ≠ 18) (h4 : t ≠ 7) : sevB t = false ∧ ¬ (t = 14 ∨ t = 15 ∨ t = 16 ∨ t = 17 ∨ t = 18 ∨ t = 22 ∨ t = 7) := by
  refine ⟨by simpa using h1, ?_⟩
  rw [sevB_iff] at h1
  omega
theorem oth_cls {t : Int} (hr : 0 ≤ t ∧ t < 23) (h : sevB t = false ∧ ¬ (t = 14 ∨ t = 15 ∨ t = 16 ∨ t = 17 ∨ t = 18 ∨ t = 22 ∨ t = 7)) :
    (cls t == 19) = false ∧ (cls t == 18) = false ∧ (cls t == 17) = false ∧ (cls t == 16) = false ∧ (cls t == 22) = false ∧ (cls t == 21) = false ∧ (cls t == 23) = false ∧ (cls t == 24) = false ∧ (cls t == 20) = false ∧ (cls t == 7) = false := by
  have h1 : ¬ sevB t = true := by rw [h.1]; decide
  rw [sevB_iff] at h1
  have h2 := h.2
  have : cls t = if t ≤ 13 then t else t + 2 := by unfold cls; rw [if_neg (by omega)]
  simp only [beq_eq_false_iff_ne]
  rw [this]
  split <;> omega
theorem oth_step {m : Mst} {t f : Int} (h : sevB t = false ∧ ¬ (t = 14 ∨ t = 15 ∨ t = 16 ∨ t = 17 ∨ t = 18 ∨ t = 22 ∨ t = 7)) : m.step t f = m := by
  have h1 : ¬ sevB t = true := by rw [h.1]; decide
  rw [sevB_iff] at h1
  have h2 := h.2
  unfold Mst.step
  rw [if_neg (by omega), if_neg (by omega), if_neg (by omega), if_neg (by omega), if_neg (by omega), if_neg (by omega), if_neg (by omega), if_neg (by omega), if_neg (by omega)]

/-- Behind the level and the override of an initiator. -/
def Mid (w : World) (B p K T R N6 capT n : Nat) (f0 f1 f2 f7 : Value) (base : Int) (x : Nat → Int) (k : Nat) (cl : Nat → Int) (M : Mst) (iso : Bool) (wx : World) : Prop :=
  ∃ ct cl2, (∀ i, i ≠ k → ct i = ctK x (fsI n x) base k i) ∧ ct k = cls (tI x (fsI n x) base k) ∧ (∀ i, i ≠ k → cl2 i = cl i) ∧ (iso = true → cl2 k = M.top) ∧
    EX w B p K T R N6 capT n f0 f1 f2 f7 base (fun i => cls (x i)) ct cl2 wx ∧ SRow wx K M

/-- What the loop holds when k characters are done. -/
def Nxt (w : World) (B p K T R N6 capT n : Nat) (f0 f1 f2 f7 : Value) (base : Int) (x : Nat → Int) (k : Nat) (o3 o4 o5 : Value) (wx : World) : Prop :=
  ∃ cl, (∀ i, i < k → remN (x i) = false → cl i = lvl x (fsI n x) base i) ∧ EX w B p K T R N6 capT n f0 f1 f2 f7 base (fun i => cls (x i)) (ctK x (fsI n x) base k) cl wx ∧
    (k < n → SRow wx K (mst x (fsI n x) base k) ∧ o3 = .int .i64 (mst x (fsI n x) base k).oi ∧ o4 = .int .i64 (mst x (fsI n x) base k).oe ∧ o5 = .int .i64 (mst x (fsI n x) base k).vi)

theorem Nxt.of {w : World} {B p K T R N6 capT n : Nat} {f0 f1 f2 f7 : Value} {base : Int} {x ct cl : Nat → Int} {k : Nat} {o3 o4 o5 : Value} {wx : World}
    (hE : EX w B p K T R N6 capT n f0 f1 f2 f7 base (fun i => cls (x i)) ct cl wx) (h1 : ∀ i, i < n → i ≠ k → ct i = ctK x (fsI n x) base k i) (h2 : ct k = cls (tI x (fsI n x) base k))
    (h3 : ∀ i, i < k → remN (x i) = false → cl i = lvl x (fsI n x) base i) (h4 : remN (x k) = false → cl k = lvl x (fsI n x) base k)
    (h5 : k + 1 < n → SRow wx K (mst x (fsI n x) base (k + 1)) ∧ o3 = .int .i64 (mst x (fsI n x) base (k + 1)).oi ∧ o4 = .int .i64 (mst x (fsI n x) base (k + 1)).oe ∧ o5 = .int .i64 (mst x (fsI n x) base (k + 1)).vi) :
    Nxt w B p K T R N6 capT n f0 f1 f2 f7 base x (k + 1) o3 o4 o5 wx := by
  refine ⟨cl, fun i hi hr => ?_, hE.congr (fun i hi => ?_) (fun _ _ => rfl), h5⟩
  · by_cases e : i = k
    · subst e; exact h4 hr
    · exact h3 i (by omega) hr
  · unfold ctK
    by_cases e : i = k
    · subst e; rw [h2, if_pos (by omega)]
    · rw [h1 i hi e]; unfold ctK
      by_cases h : i < k
      · rw [if_pos h, if_pos (by omega)]
      · rw [if_neg h, if_neg (by omega)]

end Go.Proofs.YtkocpijloiamcaaDoor
