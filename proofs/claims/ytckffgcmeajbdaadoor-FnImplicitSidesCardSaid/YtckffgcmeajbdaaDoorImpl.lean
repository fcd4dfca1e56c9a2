/- bidi.setLevels, (*isolatingRunSequence).resolveImplicitLevels (I1, I2). -/
import Derived.Test.YtckffgcmeajbdaaDoorSeq
import Derived.Deep.DeepCutAuto
import Derived.Deep.QuietTactic
import Derived.BigQuiet
import Derived.StillTailTactics
namespace Go.Proofs.YtckffgcmeajbdaaDoor
open Go.RowKit

theorem and_one_i8 : ∀ k : Fin 128, bits BinOp.and IntKind.i8 ((k : Nat) : Int) 1 = (((k : Nat) % 2 : Nat) : Int) := by decide

set_option maxHeartbeats 400000 in
theorem setLevels_any {r n : Nat} {f : Nat → Value} {v : Int} (w : World) (hn : n ≤ 4294967296) (hr : w.rowIs r 48 n f) :
    Calls Tryd.prog 40 #[.slice (some ⟨r, 0, none⟩) n n, .int .i8 v] w fun e w' => e = .returned (.tuple #[]) ∧ w'.rowIs r 48 n (fun _ => .int .i8 v) ∧ Kp (fun k => k = r) w w' := by
  go_enter Tryd.func40, Tryd.ntmps40
  go_wp2
  go_loopg [4, 7] n (fun g _ i wr => ∃ k : Nat, k ≤ n ∧ g = n - k ∧ i = .int .i64 k ∧ wr.rowIs r 48 n (fun j => if j < k then .int .i8 v else f j) ∧ Kp (fun k => k = r) w wr)
  case atStart => exact ⟨0, by omega, rfl, rfl, hr.congr (fun j _ => by simp), Kp.refl _ _⟩
  case round =>
    clear hr
    obtain ⟨k, hk, rfl, rfl, hr, hs⟩ := hrel
    by_cases hkn : k < n
    · have hkz : (k : Int) < (n : Int) := by omega
      have g1 := hr.cell hkn
      rw [if_neg (by omega)] at g1
      have g2 := hr.frozen k
      have R := (hr.set k (.int .i8 v)).congr (g := fun j => if j < k + 1 then .int .i8 v else f j) (fun j _ => by
        by_cases e : j = k
        · subst e; rw [if_pos rfl, if_pos (by omega)]
        · rw [if_neg e]
          by_cases h : j < k
          · rw [if_pos h, if_pos (by omega)]
          · rw [if_neg h, if_neg (by omega)])
      have S := hs.setCell (a := ⟨r, k, none⟩) (.inl rfl) (.int .i8 v)
      clear hr hs
      go_wp2
      go_roundg (n - (k + 1))
      case rel => exact ⟨k + 1, by omega, rfl, by go_num, R, S⟩
      case measure => omega
    · obtain rfl : k = n := by omega
      go_wp2
      go_end0
      exact ⟨rfl, hr.congr (fun j hj => by rw [if_pos hj]), hs⟩

/-- I1 and I2. -/
def imp (lv c : Int) : Int := if lv % 2 = 0 then (if c = 0 then lv else if c = 1 then lv + 1 else lv + 2) else (if c = 1 then lv else lv + 1)

def impTo (lv : Int) (c : Nat → Int) (k i : Nat) : Int := if i < k then imp lv (c i) else lv

theorem impTo_step (lv : Int) (c : Nat → Int) (k : Nat) (j : Nat) (v : Int) (hv : imp lv (c k) = v) : impTo lv c (k + 1) j = if j = k then v else impTo lv c k j := by
  unfold impTo
  by_cases e : j = k
  · subst e; rw [if_pos (by omega), if_pos rfl, hv]
  · rw [if_neg e]
    by_cases h : j < k
    · rw [if_pos h, if_pos (by omega)]
    · rw [if_neg h, if_neg (by omega)]

theorem impTo_same (lv : Int) (c : Nat → Int) (k : Nat) (j : Nat) (hv : imp lv (c k) = lv) : impTo lv c (k + 1) j = impTo lv c k j := by
  rw [impTo_step lv c k j lv hv]
  by_cases e : j = k
  · subst e; rw [if_pos rfl]; unfold impTo; rw [if_neg (by omega)]
  · rw [if_neg e]

theorem impTo_at (lv : Int) (c : Nat → Int) (k : Nat) : impTo lv c k k = lv := by unfold impTo; rw [if_neg (by omega)]

variable {S q cap n : Nat} {f0 f1 f5 f6 : Value} {c : Nat → Int} {lv : Int} {B : Nat}

/-- The sequence while its levels are written. -/
structure Im (w : World) (B S q cap n : Nat) (f0 f1 f5 f6 : Value) (c : Nat → Int) (lv : Int) (r : Nat) (L : Nat → Int) (w' : World) : Prop where
  row : w'.rowIs S 61 7 (sf f0 f1 (.slice (some ⟨q, 0, none⟩) n cap) (.slice (some ⟨r, 0, none⟩) n n) (.int .i8 lv) f5 f6)
  types : Gr w' B 53 (.slice (some ⟨q, 0, none⟩) n cap) n (fun i => .int .u64 (c i))
  levels : w'.rowIs r 48 n (fun j => .int .i8 (L j))
  kept : Kp (fun k => k = S) w w'
  ge : w.heap.size ≤ r

theorem Im.set {w w' : World} {r : Nat} {L L' : Nat → Int} (h : Im w B S q cap n f0 f1 f5 f6 c lv r L w') (hS : S < w.heap.size) (hq : q < w.heap.size) (k : Nat) (v : Int) (hL : ∀ j, j < n → L' j = if j = k then v else L j) :
    Im w B S q cap n f0 f1 f5 f6 c lv r L' (w'.setCell ⟨r, k, none⟩ (.int .i8 v)) := by
  have hr := h.ge
  refine ⟨h.row.setOther (by show S ≠ r; omega) _, h.types.kept' (fun k hk => ?_), (h.levels.set k (.int .i8 v)).congr (fun j hj => ?_), h.kept.setCell (a := ⟨r, k, none⟩) (.inr hr) _, hr⟩
  · simp only [Value.ownBlock, Option.some.injEq] at hk
    subst hk
    exact Go.Deep.blk_setCell_other _ _ _ _ (by show q ≠ r; omega)
  · rw [hL j hj]; split <;> rfl

theorem Im.congr {w w' : World} {r : Nat} {L L' : Nat → Int} (h : Im w B S q cap n f0 f1 f5 f6 c lv r L w') (hL : ∀ j, j < n → L' j = L j) : Im w B S q cap n f0 f1 f5 f6 c lv r L' w' :=
  ⟨h.row, h.types, h.levels.congr (fun j hj => by rw [hL j hj]), h.kept, h.ge⟩

set_option maxHeartbeats 4000000 in
set_option maxRecDepth 100000 in
theorem resolveImplicit_any (w : World) (hn : n ≤ 4294967296) (h0 : 0 < n) (hlv0 : 0 ≤ lv) (hlv1 : lv ≤ 125) {f3 : Value}
    (hp : w.rowIs S 61 7 (sf f0 f1 (.slice (some ⟨q, 0, none⟩) n cap) f3 (.int .i8 lv) f5 f6)) (hg : Gr w B 53 (.slice (some ⟨q, 0, none⟩) n cap) n (fun i => .int .u64 (c i))) (hqS : q ≠ S) :
    Calls Tryd.prog 35 #[.pointer (some ⟨S, 0, none⟩)] w fun e w' =>
      (allB [0, 1, 2, 5] c n = true ∧ e = .returned (.tuple #[]) ∧ ∃ r, Im w B S q cap n f0 f1 f5 f6 c lv r (fun j => imp lv (c j)) w') ∨ (allB [0, 1, 2, 5] c n = false ∧ Died e ∧ Kp (fun k => k = S) w w') := by
  have hSlt := hp.lt
  have hqlt := (hg.ge q rfl).2
  have hgB := (hg.ge q rfl).1
  have hh := heap_alloc_new w (.cells #[.int .u64 0, .int .u64 1, .int .u64 2, .int .u64 5] 53)
  have k2 : (w.alloc (.cells #[.int .u64 0, .int .u64 1, .int .u64 2, .int .u64 5] 53)).cell? ⟨S, 2, none⟩ = some (.slice (some ⟨q, 0, none⟩) n cap) := (hp.alloc _).cell (by omega)
  have hsees : Sees (w.alloc (.cells #[.int .u64 0, .int .u64 1, .int .u64 2, .int .u64 5] 53)) (some ⟨q, 0, none⟩) q 0 n cap (fun i => .int .u64 (c i)) := by
    obtain ⟨b, hb, hs⟩ := (hg.alloc (.cells #[.int .u64 0, .int .u64 1, .int .u64 2, .int .u64 5] 53)).see
    obtain rfl : q = b := by have := (hs.get h0).1; simp only [Option.some.injEq, Addr.mk.injEq, and_true] at this; exact this
    exact hs
  go_enter Tryd.func35, Tryd.ntmps35
  go_wp2_with fail
  refine (assertOnly_any [0, 1, 2, 5] _ hn (by decide) k2 hsees hh).mono ?_
  rintro e w1 ⟨h, rfl⟩
  clear k2 hsees hh
  rcases h with ⟨hall, rfl⟩ | ⟨hbad, u, pv, rfl⟩
  case inr =>
    go_wp2_with fail
    exact ⟨rfl, .inr ⟨hbad, ⟨_, _, rfl⟩, (Kp.refl _ _).alloc _⟩⟩
  have HALL := Lib.hid hall
  clear hall
  have hmk := run_make_row' (P := Tryd.prog) 49 48 (.int .i8 0) 1 Tryd.underlying49 Tryd.infoLevel rfl .i64 .i64 n (by omega) (by omega)
  go_upto_region 1 with fail
  go_cut [] (fun wx => Im w B S q cap n f0 f1 f5 f6 c lv (w.heap.size + 1) (fun _ => 0) wx)
  case first =>
    have k2 : (w.alloc (.cells #[.int .u64 0, .int .u64 1, .int .u64 2, .int .u64 5] 53)).cell? ⟨S, 2, none⟩ = some (.slice (some ⟨q, 0, none⟩) n cap) := (hp.alloc _).cell (by omega)
    have k3 : ((w.alloc (.cells #[.int .u64 0, .int .u64 1, .int .u64 2, .int .u64 5] 53)).alloc (.cells (madeCells #[.int .i8 0] n) 48)).cell? ⟨S, 3, none⟩ = some f3 := ((hp.alloc _).alloc _).cell (by omega)
    have z3 := ((hp.alloc (.cells #[.int .u64 0, .int .u64 1, .int .u64 2, .int .u64 5] 53)).alloc (.cells (madeCells #[.int .i8 0] n) 48)).frozen 3
    go_wp2_with fail
    go_meet
    have r1 := World.rowIs_made ((w.setCell ⟨S, 3, none⟩ (.slice (some ⟨w.heap.size + 1, 0, none⟩) n n)).alloc (.cells #[.int .u64 0, .int .u64 1, .int .u64 2, .int .u64 5] 53)) (.int .i8 0) n 48
    rw [World.size_alloc, World.size_setCell] at r1
    refine ⟨((sf_set3 hp _).alloc _).alloc _, ((hg.kept' (fun k hk => ?_)).alloc _).alloc _, r1, (((Kp.refl (fun k => k = S) w).setCell (a := ⟨S, 3, none⟩) (.inl rfl) _).alloc _).alloc _, by omega⟩
    simp only [Value.ownBlock, Option.some.injEq] at hk
    subst hk
    exact Go.Deep.blk_setCell_other _ _ _ _ (by show q ≠ S; exact hqS)
  case rest =>
    clear hp hg hmk
    have k3 : wc.cell? ⟨S, 3, none⟩ = some (.slice (some ⟨w.heap.size + 1, 0, none⟩) n n) := hcut.row.cell (by omega)
    have k4 : wc.cell? ⟨S, 4, none⟩ = some (.int .i8 lv) := hcut.row.cell (by omega)
    go_upto_region 2 with fail
    have hc1 := hcut
    clear hcut
    go_cut [] (fun wx => Im w B S q cap n f0 f1 f5 f6 c lv (w.heap.size + 1) (fun _ => lv) wx)
    case first =>
      go_still_tail 8, (by kernel_rfl)
      change wpList _ _ _ _ _ wc.drew
      have hd : Im w B S q cap n f0 f1 f5 f6 c lv (w.heap.size + 1) (fun _ => 0) wc.drew := ⟨hc1.row, hc1.types, hc1.levels, hc1.kept.drew, hc1.ge⟩
      clear hc1 k3 k4
      generalize wc.drew = w2 at hd ⊢
      go_wp2_with fail
      refine (setLevels_any _ hn hd.levels).mono ?_
      rintro e w3 ⟨rfl, hr3, hk3⟩
      go_wp2_with fail
      go_meet
      refine ⟨hk3.row hd.row (by omega), hd.types.kept' (fun k hk => ?_), hr3, ⟨hk3.os.trans hd.kept.os, hk3.tape.trans hd.kept.tape, hk3.output.trans hd.kept.output, Nat.le_trans hd.kept.size hk3.size, fun k hk hs => (hk3.block k (Nat.lt_of_lt_of_le hk hd.kept.size) (by omega)).trans (hd.kept.block k hk hs)⟩, hd.ge⟩
      simp only [Value.ownBlock, Option.some.injEq] at hk
      subst hk
      exact hk3.block q (Nat.lt_of_lt_of_le hqlt hd.kept.size) (by omega)
    case rest =>
      clear k3 k4 hc1
      have k4 : wc.cell? ⟨S, 4, none⟩ = some (.int .i8 lv) := hcut.row.cell (by omega)
      obtain ⟨v, rfl⟩ := Int.eq_ofNat_of_zero_le hlv0
      have hand := and_one_i8 ⟨v, by omega⟩
      simp only at hand
      by_cases hev : v % 2 = 0
      · rw [hev] at hand
        have k2 : wc.cell? ⟨S, 2, none⟩ = some (.slice (some ⟨q, 0, none⟩) n cap) := hcut.row.cell (by omega)
        go_wp2_with fail
        go_loopg [2, 3, 38] n (fun g _ _ i wr => ∃ k : Nat, k ≤ n ∧ g = n - k ∧ i = .int .i64 k ∧ Im w B S q cap n f0 f1 f5 f6 c v (w.heap.size + 1) (impTo v c k) wr)
        case atStart => exact ⟨0, by omega, rfl, rfl, hcut.congr (fun j _ => by unfold impTo; rw [if_neg (by omega)])⟩
        case round =>
          clear hcut k2 k4
          obtain ⟨k, hk, rfl, rfl, hI⟩ := hrel
          by_cases hkn : k < n
          · have hkz : (k : Int) < (n : Int) := by omega
            have hc := hI.types.cell hkn
            have k3 : wr.cell? ⟨S, 3, none⟩ = some (.slice (some ⟨w.heap.size + 1, 0, none⟩) n n) := hI.row.cell (by omega)
            have g1 := hI.levels.cell hkn
            rw [impTo_at] at g1
            have g2 := hI.levels.frozen k
            by_cases h1 : c k = 0
            · have b1 : (c k == 0) = true := by simp [h1]
              have R := hI.congr (L' := impTo v c (k + 1)) (fun j _ => impTo_same _ _ _ _ (by unfold imp; rw [if_pos (by omega), if_pos h1]))
              clear hI
              go_wp2_with fail
              go_roundg (n - (k + 1))
              case rel => exact ⟨k + 1, by omega, rfl, by go_num, R⟩
              case measure => omega
            · have b1 : (c k == 0) = false := by simp [h1]
              by_cases h2 : c k = 1
              · have b2 : (c k == 1) = true := by simp [h2]
                have R := hI.set hSlt hqlt k ((v : Int) + 1) (L' := impTo v c (k + 1)) (fun j _ => impTo_step _ _ _ _ _ (by unfold imp; rw [if_pos (by omega), if_neg h1, if_pos h2]))
                clear hI
                go_wp2_with fail
                go_roundg (n - (k + 1))
                case rel => exact ⟨k + 1, by omega, rfl, by go_num, R⟩
                case measure => omega
              · have b2 : (c k == 1) = false := by simp [h2]
                have R := hI.set hSlt hqlt k ((v : Int) + 2) (L' := impTo v c (k + 1)) (fun j _ => impTo_step _ _ _ _ _ (by unfold imp; rw [if_pos (by omega), if_neg h1, if_neg h2]))
                clear hI
                go_wp2_with fail
                go_roundg (n - (k + 1))
                case rel => exact ⟨k + 1, by omega, rfl, by go_num, R⟩
                case measure => omega
          · obtain rfl : k = n := by omega
            go_wp2_with fail
            go_end0
            exact .inl ⟨HALL.out, rfl, _, hI.congr (fun j hj => by unfold impTo; rw [if_pos hj])⟩
      · rw [show v % 2 = 1 by omega] at hand
        have k2 : wc.cell? ⟨S, 2, none⟩ = some (.slice (some ⟨q, 0, none⟩) n cap) := hcut.row.cell (by omega)
        go_wp2_with fail
        go_loopg [4, 5, 71] n (fun g _ _ i wr => ∃ k : Nat, k ≤ n ∧ g = n - k ∧ i = .int .i64 k ∧ Im w B S q cap n f0 f1 f5 f6 c v (w.heap.size + 1) (impTo v c k) wr)
        case atStart => exact ⟨0, by omega, rfl, rfl, hcut.congr (fun j _ => by unfold impTo; rw [if_neg (by omega)])⟩
        case round =>
          clear hcut k2 k4
          obtain ⟨k, hk, rfl, rfl, hI⟩ := hrel
          by_cases hkn : k < n
          · have hkz : (k : Int) < (n : Int) := by omega
            have hc := hI.types.cell hkn
            have k3 : wr.cell? ⟨S, 3, none⟩ = some (.slice (some ⟨w.heap.size + 1, 0, none⟩) n n) := hI.row.cell (by omega)
            have g1 := hI.levels.cell hkn
            rw [impTo_at] at g1
            have g2 := hI.levels.frozen k
            by_cases h2 : c k = 1
            · have b2 : (c k == 1) = true := by simp [h2]
              have R := hI.congr (L' := impTo v c (k + 1)) (fun j _ => impTo_same _ _ _ _ (by unfold imp; rw [if_neg (by omega), if_pos h2]))
              clear hI
              go_wp2_with fail
              go_roundg (n - (k + 1))
              case rel => exact ⟨k + 1, by omega, rfl, by go_num, R⟩
              case measure => omega
            · have b2 : (c k == 1) = false := by simp [h2]
              have R := hI.set hSlt hqlt k ((v : Int) + 1) (L' := impTo v c (k + 1)) (fun j _ => impTo_step _ _ _ _ _ (by unfold imp; rw [if_neg (by omega), if_neg h2]))
              clear hI
              go_wp2_with fail
              go_roundg (n - (k + 1))
              case rel => exact ⟨k + 1, by omega, rfl, by go_num, R⟩
              case measure => omega
          · obtain rfl : k = n := by omega
            go_wp2_with fail
            go_end0
            exact .inl ⟨HALL.out, rfl, _, hI.congr (fun j hj => by unfold impTo; rw [if_pos hj])⟩

end Go.Proofs.YtckffgcmeajbdaaDoor
