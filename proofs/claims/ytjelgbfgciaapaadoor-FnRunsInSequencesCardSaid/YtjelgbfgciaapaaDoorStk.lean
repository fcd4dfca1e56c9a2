/- The methods of directionalStatusStack. -/
import Derived.Test.YtjelgbfgciaapaaDoorRet
import Derived.Test.YtjelgbfgciaapaaDoorInfo
import Derived.Test.YtjelgbfgciaapaaDoorExp
import Derived.Deep.QuietTactic
import Derived.BigQuiet
import Derived.BigRegion
import Derived.StillTailTactics
import Derived.Lib.Hide
import Derived.Deep.DeepCutAuto
namespace Go.Proofs.YtjelgbfgciaapaaDoor
open Go.RowKit

/-- The class of an override. -/
def ovc (o : Int) : Int := if o = -1 then 10 else o

/-- The stack in memory. -/
def SRow (w : World) (K : Nat) (m : Mst) : Prop :=
  ∃ g, w.rowIs K 99 379 g ∧ g 0 = .int .i64 m.d ∧ ∀ j, j < m.d → g (1 + j) = .int .i8 (m.lv j) ∧ g (127 + j) = .int .u64 (ovc (m.ov j)) ∧ g (253 + j) = .bool (m.iso j)

section
variable {w w' : World} {K : Nat} {m : Mst}
theorem SRow.lt (h : SRow w K m) : K < w.heap.size := by obtain ⟨g, hg, _⟩ := h; exact hg.lt
theorem SRow.of_block (h : SRow w K m) (e : w'.heap[K]? = w.heap[K]?) : SRow w' K m := by
  obtain ⟨g, hg, h2⟩ := h
  exact ⟨g, hg.of_block e, h2⟩
theorem SRow.d (h : SRow w K m) : w.cell? ⟨K, 0, none⟩ = some (.int .i64 m.d) := by
  obtain ⟨g, hg, h0, _⟩ := h
  rw [hg.cell (by omega), h0]
theorem SRow.lv (h : SRow w K m) {j : Nat} (hj : j < m.d) (h126 : m.d ≤ 126) : w.cell? ⟨K, 1 + j, none⟩ = some (.int .i8 (m.lv j)) := by
  obtain ⟨g, hg, h0, h1⟩ := h
  rw [hg.cell (by omega), (h1 j hj).1]
theorem SRow.ov (h : SRow w K m) {j : Nat} (hj : j < m.d) (h126 : m.d ≤ 126) : w.cell? ⟨K, 127 + j, none⟩ = some (.int .u64 (ovc (m.ov j))) := by
  obtain ⟨g, hg, h0, h1⟩ := h
  rw [hg.cell (by omega), (h1 j hj).2.1]
theorem SRow.iso (h : SRow w K m) {j : Nat} (hj : j < m.d) (h126 : m.d ≤ 126) : w.cell? ⟨K, 253 + j, none⟩ = some (.bool (m.iso j)) := by
  obtain ⟨g, hg, h0, h1⟩ := h
  rw [hg.cell (by omega), (h1 j hj).2.2]
end

theorem wrap_pred {d : Nat} (h1 : 1 ≤ d) (h2 : d ≤ 126) : IntKind.i64.wrap ((d : Int) - 1) = ((d - 1 : Nat) : Int) := by
  have : ((d : Int) - 1) = ((d - 1 : Nat) : Int) := by omega
  rw [this]
  unfold IntKind.wrap
  simp [IntKind.signed, IntKind.bits]
  omega

theorem lastLevel_any {K : Nat} {m : Mst} (w : World) (h : SRow w K m) (h1 : 1 ≤ m.d) (h2 : m.d ≤ 126) :
    Calls Tryd.prog 59 #[.pointer (some ⟨K, 0, none⟩)] w fun e w' => e = .returned (.int .i8 m.top) ∧ ∃ k, w' = w.drewN k := by
  have c0 := h.d
  have c1 := h.lv (j := m.d - 1) (by omega) h2
  rw [show 1 + (m.d - 1) = m.d by omega] at c1
  have hw := wrap_pred h1 h2
  have hz2 : ((m.d - 1 : Nat) : Int) < 126 := by omega
  have HT := Lib.hid (show m.top = m.lv (m.d - 1) from rfl)
  clear h
  go_enter Tryd.func59, Tryd.ntmps59
  go_wp2_with fail
  go_quiet (fail)
  go_wp2_with fail
  go_ret
  exact ⟨by rw [HT.out]; rfl, _, rfl⟩

theorem lastOv_any {K : Nat} {m : Mst} (w : World) (h : SRow w K m) (h1 : 1 ≤ m.d) (h2 : m.d ≤ 126) :
    Calls Tryd.prog 60 #[.pointer (some ⟨K, 0, none⟩)] w fun e w' => e = .returned (.int .u64 (ovc m.tov)) ∧ ∃ k, w' = w.drewN k := by
  have c0 := h.d
  have c1 := h.ov (j := m.d - 1) (by omega) h2
  have hw := wrap_pred h1 h2
  have hz2 : ((m.d - 1 : Nat) : Int) < 126 := by omega
  have HT := Lib.hid (show ovc m.tov = ovc (m.ov (m.d - 1)) from rfl)
  clear h
  go_enter Tryd.func60, Tryd.ntmps60
  go_wp2_with fail
  go_quiet (fail)
  go_wp2_with fail
  go_ret
  exact ⟨by rw [HT.out]; rfl, _, rfl⟩

theorem lastIso_any {K : Nat} {m : Mst} (w : World) (h : SRow w K m) (h1 : 1 ≤ m.d) (h2 : m.d ≤ 126) :
    Calls Tryd.prog 61 #[.pointer (some ⟨K, 0, none⟩)] w fun e w' => e = .returned (.bool m.tiso) ∧ ∃ k, w' = w.drewN k := by
  have c0 := h.d
  have c1 := h.iso (j := m.d - 1) (by omega) h2
  have hw := wrap_pred h1 h2
  have hz2 : ((m.d - 1 : Nat) : Int) < 126 := by omega
  have HT := Lib.hid (show m.tiso = m.iso (m.d - 1) from rfl)
  clear h
  go_enter Tryd.func61, Tryd.ntmps61
  go_wp2_with fail
  go_quiet (fail)
  go_wp2_with fail
  go_ret
  exact ⟨by rw [HT.out]; rfl, _, rfl⟩

theorem SRow.setD {w : World} {K : Nat} {m : Mst} (h : SRow w K m) {d : Nat} (hd : d ≤ m.d) {m' : Mst} (e1 : m'.d = d) (e2 : m'.lv = m.lv) (e3 : m'.ov = m.ov) (e4 : m'.iso = m.iso) : SRow (w.setCell ⟨K, 0, none⟩ (.int .i64 d)) K m' := by
  obtain ⟨g, hg, h0, h1⟩ := h
  refine ⟨_, hg.set 0 (.int .i64 d), by rw [if_pos rfl, e1], fun j hj => ?_⟩
  rw [if_neg (by omega), if_neg (by omega), if_neg (by omega), e2, e3, e4]
  exact h1 j (by omega)

theorem SRow.frozen {w : World} {K : Nat} {m : Mst} (h : SRow w K m) (i : Nat) : w.frozen? ⟨K, i, none⟩ = false := by
  obtain ⟨g, hg, _⟩ := h
  exact hg.frozen i

theorem pop_any {K : Nat} {m : Mst} (w : World) (h : SRow w K m) (h1 : 1 ≤ m.d) (h2 : m.d ≤ 126) :
    Calls Tryd.prog 62 #[.pointer (some ⟨K, 0, none⟩)] w fun e w' => e = .returned (.tuple #[]) ∧ SRow w' K { m with d := m.d - 1 } ∧ Kp (fun k => k = K) w w' := by
  have c0 := h.d
  have z0 := h.frozen 0
  have R := h.setD (d := m.d - 1) (by omega) (m' := { m with d := m.d - 1 }) rfl rfl rfl rfl
  have hz : (1 : Int) ≤ (m.d : Int) := by omega
  have S := (Kp.refl (fun k => k = K) w).setCell (a := ⟨K, 0, none⟩) (.inl rfl) (.int .i64 (m.d - 1 : Nat))
  have e : ((m.d - 1 : Nat) : Int) = (m.d : Int) - 1 := by omega
  rw [e] at R S
  clear h e
  go_enter Tryd.func62, Tryd.ntmps62
  go_wp2_with fail
  go_end0
  exact ⟨rfl, R, S⟩

theorem depth_any {K : Nat} {m : Mst} (w : World) (h : SRow w K m) :
    Calls Tryd.prog 63 #[.pointer (some ⟨K, 0, none⟩)] w fun e w' => e = .returned (.int .i64 m.d) ∧ w = w' := by
  have c0 := h.d
  clear h
  go_enter Tryd.func63, Tryd.ntmps63
  go_wp2_with fail
  go_ret
  exact ⟨rfl, rfl⟩

theorem empty_any {K : Nat} {m : Mst} (w : World) (h : SRow w K m) :
    Calls Tryd.prog 64 #[.pointer (some ⟨K, 0, none⟩)] w fun e w' => e = .returned (.tuple #[]) ∧ Kp (fun k => k = K) w w' := by
  have c0 := h.d
  have z0 := h.frozen 0
  have S := (Kp.refl (fun k => k = K) w).setCell (a := ⟨K, 0, none⟩) (.inl rfl) (.int .i64 0)
  clear h
  go_enter Tryd.func64, Tryd.ntmps64
  go_wp2_with fail
  go_end0
  exact ⟨rfl, S⟩


set_option maxHeartbeats 2000000 in
set_option maxRecDepth 100000 in
theorem push_any {K : Nat} {m : Mst} {l o : Int} {b : Bool} (w : World) (h : SRow w K m) (h2 : m.d < 126) :
    Calls Tryd.prog 57 #[.pointer (some ⟨K, 0, none⟩), .int .i8 l, .int .u64 (ovc o), .bool b] w fun e w' => e = .returned (.tuple #[]) ∧ SRow w' K (m.push l o b) ∧ Kp (fun k => k = K) w w' := by
  obtain ⟨g, hg, hg0, hg1⟩ := h
  obtain ⟨d, hd⟩ : ∃ d, d = m.d := ⟨_, rfl⟩
  rw [← hd] at h2 hg0
  have HD := Lib.hid hd
  have HG1 := Lib.hid hg1
  clear hd hg1
  obtain ⟨oc, hoc⟩ : ∃ oc, oc = ovc o := ⟨_, rfl⟩
  rw [← hoc]
  have HOC := Lib.hid hoc
  clear hoc
  have hdz : (d : Int) < 126 := by omega
  obtain ⟨g1, e1⟩ : ∃ g1 : Nat → Value, g1 = fun j => if j = 1 + d then .int .i8 l else g j := ⟨_, rfl⟩
  obtain ⟨g2, e2⟩ : ∃ g2 : Nat → Value, g2 = fun j => if j = 127 + d then .int .u64 oc else g1 j := ⟨_, rfl⟩
  obtain ⟨g3, e3⟩ : ∃ g3 : Nat → Value, g3 = fun j => if j = 253 + d then .bool b else g2 j := ⟨_, rfl⟩
  have G0 := Lib.hid hg0
  have G1 : Hid (g1 0 = .int .i64 d) := Lib.hid (by rw [e1]; exact (if_neg (by omega)).trans hg0)
  have G2 : Hid (g2 0 = .int .i64 d) := Lib.hid (by rw [e2]; exact (if_neg (by omega)).trans G1.out)
  have G3 : Hid (g3 0 = .int .i64 d) := Lib.hid (by rw [e3]; exact (if_neg (by omega)).trans G2.out)
  have E1 := Lib.hid e1
  have E2 := Lib.hid e2
  have E3 := Lib.hid e3
  clear e1 e2 e3 hg0
  obtain ⟨wc0, rfl⟩ : ∃ wc0, wc0 = w := ⟨_, rfl⟩
  have H0 : wc0.rowIs K 99 379 g ∧ Kp (fun k => k = K) wc0 wc0 := ⟨hg, Kp.refl _ _⟩
  clear hg
  go_enter Tryd.func57, Tryd.ntmps57
  go_upto_region 0 with fail
  go_cut [] (fun wx => wx.rowIs K 99 379 g1 ∧ Kp (fun k => k = K) wc0 wx)
  case first =>
    have c0 : wc0.cell? ⟨K, 0, none⟩ = some (.int .i64 d) := by rw [H0.1.cell (by omega), G0.out]
    go_still_tail 9, (by kernel_rfl)
    change wpList _ _ _ _ _ wc0.drew
    have hd : wc0.drew.rowIs K 99 379 g := H0.1
    have hk : Kp (fun k => k = K) wc0 wc0.drew := H0.2.drew
    generalize wc0.drew = w2 at hd hk ⊢
    have cx := hd.cell (i := 1 + d) (by omega)
    have zx := hd.frozen (1 + d)
    have R := hd.set (1 + d) (.int .i8 l)
    have S := hk.setCell (a := ⟨K, 1 + d, none⟩) (.inl rfl) (.int .i8 l)
    go_wp2_with fail
    go_meet
    exact ⟨by rw [E1.out]; exact R, S⟩
  obtain ⟨wc1, rfl⟩ : ∃ wc1, wc1 = wc := ⟨_, rfl⟩
  have H1 := hcut
  clear hcut
  go_upto_region 1 with fail
  go_cut [] (fun wx => wx.rowIs K 99 379 g2 ∧ Kp (fun k => k = K) wc0 wx)
  case first =>
    have c0 : wc1.cell? ⟨K, 0, none⟩ = some (.int .i64 d) := by rw [H1.1.cell (by omega), G1.out]
    go_still_tail 9, (by kernel_rfl)
    change wpList _ _ _ _ _ wc1.drew
    have hd : wc1.drew.rowIs K 99 379 g1 := H1.1
    have hk : Kp (fun k => k = K) wc0 wc1.drew := H1.2.drew
    generalize wc1.drew = w2 at hd hk ⊢
    have cx := hd.cell (i := 127 + d) (by omega)
    have zx := hd.frozen (127 + d)
    have R := hd.set (127 + d) (.int .u64 oc)
    have S := hk.setCell (a := ⟨K, 127 + d, none⟩) (.inl rfl) (.int .u64 oc)
    go_wp2_with fail
    go_meet
    exact ⟨by rw [E2.out]; exact R, S⟩
  obtain ⟨wc2, rfl⟩ : ∃ wc2, wc2 = wc := ⟨_, rfl⟩
  have H2 := hcut
  clear hcut
  go_upto_region 2 with fail
  go_cut [] (fun wx => wx.rowIs K 99 379 g3 ∧ Kp (fun k => k = K) wc0 wx)
  case first =>
    have c0 : wc2.cell? ⟨K, 0, none⟩ = some (.int .i64 d) := by rw [H2.1.cell (by omega), G2.out]
    go_still_tail 9, (by kernel_rfl)
    change wpList _ _ _ _ _ wc2.drew
    have hd : wc2.drew.rowIs K 99 379 g2 := H2.1
    have hk : Kp (fun k => k = K) wc0 wc2.drew := H2.2.drew
    generalize wc2.drew = w2 at hd hk ⊢
    have cx := hd.cell (i := 253 + d) (by omega)
    have zx := hd.frozen (253 + d)
    have R := hd.set (253 + d) (.bool b)
    have S := hk.setCell (a := ⟨K, 253 + d, none⟩) (.inl rfl) (.bool b)
    go_wp2_with fail
    go_meet
    exact ⟨by rw [E3.out]; exact R, S⟩
  obtain ⟨wc3, rfl⟩ : ∃ wc3, wc3 = wc := ⟨_, rfl⟩
  have H3 := hcut
  clear hcut
  have c0 : wc3.cell? ⟨K, 0, none⟩ = some (.int .i64 d) := by rw [H3.1.cell (by omega), G3.out]
  have z0 := H3.1.frozen 0
  have R := H3.1.set 0 (.int .i64 ((d : Int) + 1))
  have S := H3.2.setCell (a := ⟨K, 0, none⟩) (.inl rfl) (.int .i64 ((d : Int) + 1))
  go_wp2_with fail
  go_end0
  refine ⟨rfl, ⟨_, R, ?_, fun j hj => ?_⟩, S⟩
  · show Value.int .i64 ((d : Int) + 1) = .int .i64 ((m.d + 1 : Nat) : Int)
    rw [HD.out]; rfl
  · have hj' : j < m.d + 1 := hj
    have hdm := HD.out
    rw [if_neg (by omega), if_neg (by omega), if_neg (by omega), E3.out, E2.out, E1.out]
    show _ = Value.int .i8 (Mst.up m.lv m.d l j) ∧ _ = Value.int .u64 (ovc (Mst.up m.ov m.d o j)) ∧ _ = Value.bool (Mst.up m.iso m.d b j)
    by_cases e : j = d
    · subst e
      rw [← hdm, Mst.up_at, Mst.up_at, Mst.up_at, HOC.out]
      refine ⟨?_, ?_, ?_⟩ <;> dsimp only
      · rw [if_neg (by omega), if_neg (by omega), if_pos rfl]
      · rw [if_neg (by omega), if_pos rfl]
      · rw [if_pos rfl]
    · have := HG1.out j (by omega)
      rw [Mst.up_ne _ _ (by omega), Mst.up_ne _ _ (by omega), Mst.up_ne _ _ (by omega)]
      refine ⟨?_, ?_, ?_⟩ <;> dsimp only
      · rw [if_neg (by omega), if_neg (by omega), if_neg (by omega)]; exact this.1
      · rw [if_neg (by omega), if_neg (by omega), if_neg (by omega)]; exact this.2.1
      · rw [if_neg (by omega), if_neg (by omega), if_neg (by omega)]; exact this.2.2

end Go.Proofs.YtjelgbfgciaapaaDoor
