/- (*isolatingRunSequence).findRunLimit, bidi.setTypes, bidi.typeForLevel. -/
import Derived.Test.YtnbhkjalpcoccaaDoorSeq
import Derived.Test.YtnbhkjalpcoccaaDoorNeu
namespace Go.Proofs.YtnbhkjalpcoccaaDoor
open Go.RowKit

set_option maxHeartbeats 1000000 in
theorem findRunLimit_any (l : List Int) {S b2 : Nat} {ao : Option Addr} {b o n cc i0 : Nat} {c : Nat → Int} (w : World) (hn : n ≤ 4294967296) (hi0 : i0 ≤ n) (hl : l.length ≤ 1000) (hc : w.cell? ⟨S, 2, none⟩ = some (.slice ao n cc)) (hx : Sees w ao b o n cc (fun i => .int .u64 (c i)))
    (hh : w.heap[b2]? = some (.cells (l.map (Value.int .u64)).toArray 40 (0, 0))) :
    Calls Tryd.prog 46 #[.pointer (some ⟨S, 0, none⟩), .int .i64 i0, .slice (some ⟨b2, 0, none⟩) l.length l.length] w fun e w' => e = .returned (.int .i64 (nxt (fun j => memB l (c j)) (n - i0) i0 : Nat)) ∧ w = w' := by
  have HC : ∀ i, i < l.length → w.cell? ⟨b2, i, none⟩ = some (.int .u64 (l.getD i 0)) := fun i hi => by rw [lits_cell hh hi]; simp [hi]
  have HH := Lib.hid HC
  clear HC hh
  obtain ⟨m, hm⟩ : ∃ m, m = l.length := ⟨_, rfl⟩
  rw [← hm]
  rw [← hm] at hl
  have HM := Lib.hid hm
  clear hm
  go_enter Tryd.func46, Tryd.ntmps46
  go_wp2
  go_step3
  go_wp2
  go_step3
  go_wp2
  go_loop [1] (fun i => ∃ k : Nat, k ≤ n ∧ i = .int .i64 k ∧ Hid (nxt (fun j => memB l (c j)) (n - i0) i0 = nxt (fun j => memB l (c j)) (n - k) k)) (fun i => n - (intOf i).toNat)
  case atStart => exact ⟨i0, by omega, rfl, rfl⟩
  case round =>
    obtain ⟨k, hk, rfl, HA⟩ := hrel
    by_cases hkn : k < n
    · have hkz : (k : Int) < (n : Int) := by omega
      obtain ⟨rfl, hck⟩ := hx.get hkn
      go_wp2
      go_loop [28] (fun i => ∃ q : Nat, q ≤ m ∧ i = .int .i64 q ∧ Hid (∀ j, j < q → l.getD j 0 ≠ c k)) (fun i => m - (intOf i).toNat)
      case atStart => exact ⟨0, by omega, rfl, fun j hj => absurd hj (Nat.not_lt_zero _)⟩
      case round =>
        obtain ⟨q, hq, rfl, HB⟩ := hrel
        by_cases hqm : q < m
        · have hqz : (q : Int) < (m : Int) := by omega
          have hcq := HH.out q (by rw [← HM.out]; exact hqm)
          obtain ⟨u, hu⟩ : ∃ u, u = l.getD q 0 := ⟨_, rfl⟩
          rw [← hu] at hcq
          have HU := Lib.hid hu
          clear hu
          by_cases he : c k = u
          · have hb : (c k == u) = true := by simp [he]
            have hin : memB l (c k) = true := by
              rw [memB_iff, he, HU.out]
              have hk2 : q < l.length := by rw [← HM.out]; exact hqm
              simp [hk2]
            have HN := Lib.hid (HA.out.trans (nxt_neu (N := fun j => memB l (c j)) hkn hin))
            clear he hin
            go_wp2
            go_round
            case rel => exact ⟨k + 1, by omega, by go_num, HN.out⟩
            case measure => simp [intOf]; omega
          · have hb : (c k == u) = false := by simp [he]
            have HE := Lib.hid he
            clear he
            go_wp2
            go_round
            case rel => exact ⟨q + 1, by omega, by go_num, fun j hj => by
              rcases Nat.lt_succ_iff_lt_or_eq.1 hj with h | h
              · exact HB.out j h
              · subst h; rw [← HU.out]; exact fun e => HE.out e.symm⟩
            case measure => simp [intOf]; omega
        · obtain rfl : q = m := by omega
          have hout : memB l (c k) = false := by
            rw [memB_not]; intro hmem
            obtain ⟨i, hi, e⟩ := List.getElem_of_mem hmem
            exact HB.out i (by rw [HM.out]; exact hi) (by simp [hi, e])
          have HN := Lib.hid (HA.out.trans (nxt_not (N := fun j => memB l (c j)) hkn hout))
          clear hout
          go_wp2
          go_ret
          exact ⟨by rw [HN.out]; rfl, rfl⟩
    · obtain rfl : k = n := by omega
      have HN := Lib.hid (HA.out.trans (nxt_end (N := fun j => memB l (c j)) (Nat.le_refl _)))
      go_wp2
      go_ret
      exact ⟨by rw [HN.out]; rfl, rfl⟩

set_option maxHeartbeats 400000 in
theorem setTypes_any {q cap n lo hi cc B : Nat} {f : Nat → Value} {v : Int} (w : World) (hn : n ≤ 4294967296) (hlh : lo ≤ hi) (hhi : hi ≤ n) (hg : Gr w B 40 (.slice (some ⟨q, 0, none⟩) n cap) n f) :
    Calls Tryd.prog 49 #[.slice (some ⟨q, lo, none⟩) (hi - lo : Nat) cc, .int .u64 v] w fun e w' => e = .returned (.tuple #[]) ∧ Gr w' B 40 (.slice (some ⟨q, 0, none⟩) n cap) n (fun j => if lo ≤ j ∧ j < hi then .int .u64 v else f j) ∧ Kp (fun k => k = q) w w' := by
  obtain ⟨d, hd⟩ : ∃ d, d = hi - lo := ⟨_, rfl⟩
  obtain rfl : hi = lo + d := by omega
  rw [← hd]
  clear hd hlh
  go_enter Tryd.func49, Tryd.ntmps49
  go_wp2
  go_loopg [4, 7] d (fun g _ i wr => ∃ k : Nat, k ≤ d ∧ g = d - k ∧ i = .int .i64 k ∧ Gr wr B 40 (.slice (some ⟨q, 0, none⟩) n cap) n (fun j => if lo ≤ j ∧ j < lo + k then .int .u64 v else f j) ∧ Kp (fun k => k = q) w wr)
  case atStart => exact ⟨0, by omega, rfl, rfl, hg.congr (fun j _ => by rw [if_neg (by omega)]), Kp.refl _ _⟩
  case round =>
    clear hg
    obtain ⟨k, hk, rfl, rfl, hg, hs⟩ := hrel
    by_cases hkn : k < d
    · have hkz : (k : Int) < (d : Int) := by omega
      have g1 := hg.cell (i := lo + k) (by omega)
      rw [if_neg (by omega)] at g1
      have g2 := hg.frozen (lo + k)
      have R := (hg.set (lo + k) (.int .u64 v)).congr (g := fun j => if lo ≤ j ∧ j < lo + (k + 1) then .int .u64 v else f j) (fun j _ => by
        by_cases e : j = lo + k
        · rw [if_pos e, if_pos (by omega)]
        · rw [if_neg e]
          by_cases h : lo ≤ j ∧ j < lo + k
          · rw [if_pos h, if_pos (by omega)]
          · rw [if_neg h, if_neg (by omega)])
      have S := hs.setCell (a := ⟨q, lo + k, none⟩) (.inl rfl) (.int .u64 v)
      clear hg hs
      go_wp2
      go_roundg (d - (k + 1))
      case rel => exact ⟨k + 1, by omega, rfl, by go_num, R, S⟩
      case measure => omega
    · obtain rfl : k = d := by omega
      go_wp2
      go_end0
      exact ⟨rfl, hg, hs⟩

theorem and_one_i8 : ∀ k : Fin 128, bits BinOp.and IntKind.i8 ((k : Nat) : Int) 1 = (((k : Nat) % 2 : Nat) : Int) := by decide

theorem typeForLevel_any {lv : Int} (w : World) (h0 : 0 ≤ lv) (h1 : lv ≤ 127) : Calls Tryd.prog 48 #[.int .i8 lv] w fun e w' => e = .returned (.int .u64 (lv % 2)) ∧ w = w' := by
  obtain ⟨v, rfl⟩ := Int.eq_ofNat_of_zero_le h0
  have hand := and_one_i8 ⟨v, by omega⟩
  simp only at hand
  by_cases hev : v % 2 = 0
  · rw [hev] at hand
    have hz : (v : Int) % 2 = 0 := by omega
    rw [hz]
    clear hz
    go_enter Tryd.func48, Tryd.ntmps48
    go_wp2
    go_ret
    exact ⟨rfl, rfl⟩
  · rw [show v % 2 = 1 by omega] at hand
    have hz : (v : Int) % 2 = 1 := by omega
    rw [hz]
    clear hz
    go_enter Tryd.func48, Tryd.ntmps48
    go_wp2
    go_ret
    exact ⟨rfl, rfl⟩

end Go.Proofs.YtnbhkjalpcoccaaDoor
