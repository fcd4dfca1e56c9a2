/- (*isolatingRunSequence).applyLevelsAndTypes: what a sequence has found is written into the paragraph. -/
import Derived.Test.YtkocpijloiamcaaDoorGG
import Derived.Test.YtkocpijloiamcaaDoorIrs
import Derived.Deep.LoopGhost
namespace Go.Proofs.YtkocpijloiamcaaDoor
open Go.RowKit
set_option linter.unusedVariables false
set_option linter.unusedSimpArgs false

/-- The paragraph while k of a sequence's characters are written. -/
structure Ap (w : World) (B T R N capT : Nat) (l : List Nat) (cT cL ft fl : Nat → Int) (k : Nat) (wx : World) : Prop where
  kept : Kp (fun b => b = T ∨ b = R) w wx
  ex : ∃ ft' fl' : Nat → Int, Gr wx B 67 (.slice (some ⟨T, 0, none⟩) N capT) N (fun i => .int .u64 (ft' i)) ∧ wx.rowIs R 62 N (fun i => .int .i8 (fl' i)) ∧
    (∀ j, j < k → ft' (l.getD j 0) = cT j ∧ fl' (l.getD j 0) = cL j) ∧ (∀ i, (∀ j, j < k → l.getD j 0 ≠ i) → ft' i = ft i ∧ fl' i = fl i)

section
variable {w wx wy : World} {B T R N capT : Nat} {l : List Nat} {cT cL ft fl : Nat → Int} {k : Nat}

theorem Ap.start (hT : Gr w B 67 (.slice (some ⟨T, 0, none⟩) N capT) N (fun i => .int .u64 (ft i))) (hR : w.rowIs R 62 N (fun i => .int .i8 (fl i))) : Ap w B T R N capT l cT cL ft fl 0 w :=
  ⟨Kp.refl _ _, ft, fl, hT, hR, fun j hj => absurd hj (Nat.not_lt_zero _), fun _ _ => ⟨rfl, rfl⟩⟩

theorem Ap.drew (h : Ap w B T R N capT l cT cL ft fl k wx) : Ap w B T R N capT l cT cL ft fl k wx.drew := ⟨h.kept.drew, h.ex⟩

theorem Ap.step (h : Ap w B T R N capT l cT cL ft fl k wx) (hTR : T ≠ R) (hinj : ∀ j, j < k → l.getD j 0 ≠ l.getD k 0) :
    Ap w B T R N capT l cT cL ft fl (k + 1) (((wx.setCell ⟨T, l.getD k 0, none⟩ (.int .u64 (cT k))).drew.setCell ⟨R, l.getD k 0, none⟩ (.int .i8 (cL k))).drew) := by
  obtain ⟨ft', fl', h1, h2, h3, h4⟩ := h.ex
  refine ⟨((h.kept.setCell (a := ⟨T, l.getD k 0, none⟩) (.inl (.inl rfl)) _).drew.setCell (a := ⟨R, l.getD k 0, none⟩) (.inl (.inr rfl)) _).drew, fun i => if i = l.getD k 0 then cT k else ft' i, fun i => if i = l.getD k 0 then cL k else fl' i, ?_, ?_, ?_, ?_⟩
  · have g1 := (h1.set (l.getD k 0) (.int .u64 (cT k))).drew
    have g2 : Gr ((wx.setCell ⟨T, l.getD k 0, none⟩ (.int .u64 (cT k))).drew.setCell ⟨R, l.getD k 0, none⟩ (.int .i8 (cL k))) B 67 (.slice (some ⟨T, 0, none⟩) N capT) N (fun i => if i = l.getD k 0 then .int .u64 (cT k) else .int .u64 (ft' i)) := g1.kept' (fun q hq => by
      simp only [Value.ownBlock, Option.some.injEq] at hq
      subst hq
      exact Go.Deep.blk_setCell_other _ _ _ _ hTR)
    exact g2.drew.congr (fun i _ => by dsimp only; split <;> rfl)
  · have g1 : ((wx.setCell ⟨T, l.getD k 0, none⟩ (.int .u64 (cT k))).drew).rowIs R 62 N (fun i => .int .i8 (fl' i)) := (h2.setOther (a := ⟨T, l.getD k 0, none⟩) (fun e => hTR e.symm) _).drew
    exact ((g1.set (l.getD k 0) (.int .i8 (cL k))).congr (fun i _ => by dsimp only; split <;> rfl)).drew
  · intro j hj
    by_cases e : j = k
    · subst e; exact ⟨if_pos rfl, if_pos rfl⟩
    · have hne := hinj j (by omega)
      show (if l.getD j 0 = l.getD k 0 then _ else _) = _ ∧ (if l.getD j 0 = l.getD k 0 then _ else _) = _
      rw [if_neg hne, if_neg hne]
      exact h3 j (by omega)
  · intro i hi
    have hne : i ≠ l.getD k 0 := fun e => hi k (by omega) e.symm
    show (if i = l.getD k 0 then _ else _) = _ ∧ (if i = l.getD k 0 then _ else _) = _
    rw [if_neg hne, if_neg hne]
    exact h4 i (fun j hj => hi j (by omega))
end

set_option maxHeartbeats 4000000 in
set_option maxRecDepth 100000 in
theorem apply_any {S p q r T R B n N cap capT b o c : Nat} {a : Option Addr} {f4 f5 f6 : Value} {l : List Nat} {cT cL ft fl : Nat → Int} (w : World) (hn : n ≤ 8589934592) (hN : N ≤ 8589934592) (hln : l.length = n)
    (hS : w.rowIs S 109 7 (sf (.pointer (some ⟨p, 0, none⟩)) (.slice a n c) (.slice (some ⟨q, 0, none⟩) n cap) (.slice (some ⟨r, 0, none⟩) n n) f4 f5 f6))
    (p4 : w.cell? ⟨p, 4, none⟩ = some (.slice (some ⟨T, 0, none⟩) N capT)) (p5 : w.cell? ⟨p, 5, none⟩ = some (.slice (some ⟨R, 0, none⟩) N N))
    (hT : Gr w B 67 (.slice (some ⟨T, 0, none⟩) N capT) N (fun i => .int .u64 (ft i))) (hR : w.rowIs R 62 N (fun i => .int .i8 (fl i)))
    (hi : Sees w a b o n c (cellsOf l)) (hlt : ∀ j, j < n → l.getD j 0 < N) (hinj : ∀ j k, j < k → k < n → l.getD j 0 ≠ l.getD k 0)
    (hq : ∀ j, j < n → w.cell? ⟨q, j, none⟩ = some (.int .u64 (cT j))) (hr : ∀ j, j < n → w.cell? ⟨r, j, none⟩ = some (.int .i8 (cL j)))
    (d1 : S ≠ T ∧ S ≠ R) (d2 : p ≠ T ∧ p ≠ R) (d3 : q ≠ T ∧ q ≠ R) (d4 : r ≠ T ∧ r ≠ R) (d5 : b ≠ T ∧ b ≠ R) (d6 : T ≠ R) :
    Calls Tryd.prog 66 #[.pointer (some ⟨S, 0, none⟩)] w fun e w' => e = .returned (.tuple #[]) ∧ Ap w B T R N capT l cT cL ft fl n w' := by
  have HC := Lib.hid (show ∀ wx, Kp (fun b => b = T ∨ b = R) w wx → wx.cell? ⟨S, 0, none⟩ = some (.pointer (some ⟨p, 0, none⟩)) ∧ wx.cell? ⟨S, 1, none⟩ = some (.slice a n c) ∧ wx.cell? ⟨S, 2, none⟩ = some (.slice (some ⟨q, 0, none⟩) n cap) ∧ wx.cell? ⟨S, 3, none⟩ = some (.slice (some ⟨r, 0, none⟩) n n) ∧
      wx.cell? ⟨p, 4, none⟩ = some (.slice (some ⟨T, 0, none⟩) N capT) ∧ wx.cell? ⟨p, 5, none⟩ = some (.slice (some ⟨R, 0, none⟩) N N) from fun wx h => by
    have hs := h.row hS (by rintro (e | e); exact d1.1 e; exact d1.2 e)
    exact ⟨hs.cell (i := 0) (by omega), hs.cell (i := 1) (by omega), hs.cell (i := 2) (by omega), hs.cell (i := 3) (by omega), h.cell p4 (by rintro (e | e); exact d2.1 e; exact d2.2 e), h.cell p5 (by rintro (e | e); exact d2.1 e; exact d2.2 e)⟩)
  have HI := Lib.hid (show ∀ wx, Kp (fun b => b = T ∨ b = R) w wx → Sees wx a b o n c (cellsOf l) from fun wx h => h.sees hi (fun _ => by rintro (e | e); exact d5.1 e; exact d5.2 e))
  have HQ := Lib.hid (show ∀ wx j, Kp (fun b => b = T ∨ b = R) w wx → j < n → wx.cell? ⟨q, j, none⟩ = some (.int .u64 (cT j)) ∧ wx.cell? ⟨r, j, none⟩ = some (.int .i8 (cL j)) from fun wx j h hj =>
    ⟨h.cell (hq j hj) (by rintro (e | e); exact d3.1 e; exact d3.2 e), h.cell (hr j hj) (by rintro (e | e); exact d4.1 e; exact d4.2 e)⟩)
  have HLT := Lib.hid hlt
  have HINJ := Lib.hid hinj
  have HST := Lib.hid (Ap.start (l := l) (cT := cT) (cL := cL) hT hR)
  have hSlt := hS.lt
  clear hS p4 p5 hT hR hi hlt hinj hq hr
  go_enter Tryd.func66, Tryd.ntmps66
  obtain ⟨u0, u1, u2, u3, u4, u5⟩ := HC.out w (Kp.refl _ _)
  go_wp2
  clear u0 u1 u2 u3 u4 u5
  go_loopg [2, 3, 9] n (fun g _ _ i wr => ∃ k : Nat, k ≤ n ∧ g = n - k ∧ i = .int .i64 k ∧ Hid (Ap w B T R N capT l cT cL ft fl k wr))
  case atStart => exact ⟨0, Nat.zero_le _, rfl, rfl, HST⟩
  case round =>
    clear HST
    obtain ⟨k, hk, rfl, rfl, HA⟩ := hrel
    by_cases hkn : k < n
    · have hkz : (k : Int) < (n : Int) := by omega
      obtain ⟨u0, u1, u2, u3, u4, u5⟩ := HC.out _ HA.out.kept
      obtain ⟨rfl, u6⟩ := (HI.out _ HA.out.kept).get hkn
      have hle := (HI.out _ HA.out.kept).le
      obtain ⟨u7, u8⟩ := HQ.out _ k HA.out.kept hkn
      have hlk := HLT.out k hkn
      have HS1 := Lib.hid (HA.out.step d6 (fun j hj => HINJ.out j k hj hkn))
      change _ = some (Value.int .i64 ((l.getD k 0 : Nat) : Int)) at u6
      obtain ⟨ft', fl', g1, g2, _, _⟩ := HA.out.ex
      have z1 := g1.frozen (l.getD k 0)
      have z2 := g2.frozen (l.getD k 0)
      have y1 := g1.cell hlk
      have y2 := g2.cell hlk
      have hK2 : Kp (fun b => b = T ∨ b = R) w ((‹World›.setCell ⟨T, l.getD k 0, none⟩ (.int .u64 (cT k))).drew) := (HA.out.kept.setCell (a := ⟨T, l.getD k 0, none⟩) (.inl (.inl rfl)) _).drew
      obtain ⟨t0, t1, t2, t3, t4, t5⟩ := HC.out _ hK2
      obtain ⟨t7, t8⟩ := HQ.out _ k hK2 hkn
      have g3 := (g2.setOther (a := ⟨T, l.getD k 0, none⟩) (fun e => d6 e.symm) (.int .u64 (cT k))).drew
      have z3 := g3.frozen (l.getD k 0)
      have y3 := g3.cell hlk
      obtain ⟨y, hy⟩ : ∃ y, y = l.getD k 0 := ⟨_, rfl⟩
      rw [← hy] at u6 hlk z1 z2 y1 y2 t0 t1 t2 t3 t4 t5 t7 t8 z3 y3
      have HS2 := Lib.hid (show Ap w B T R N capT l cT cL ft fl (k + 1) _ from hy ▸ HS1.out)
      have hyz : (y : Int) < (N : Int) := by omega
      clear hy hK2 g1 g2 g3 HS1
      go_wp2
      go_region
      go_wp2
      go_region
      go_wp2
      go_roundg (n - (k + 1))
      case rel => exact ⟨k + 1, by omega, rfl, by go_num, HS2⟩
      case measure => omega
    · obtain rfl : k = n := by omega
      go_wp2
      go_end0
      exact ⟨rfl, HA.out⟩
end Go.Proofs.YtkocpijloiamcaaDoor
