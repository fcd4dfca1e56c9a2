/- sort.partialInsertionSort over bracketPairs: what it makes of the pairs is what the plain function says. -/
import Derived.Test.YtkocpijloiamcaaDoorGF
import Derived.Sort.WalkA6
import Derived.Deep.DeepCutAuto
import Derived.Deep.CutBlock
namespace Go.Proofs.YtkocpijloiamcaaDoor
set_option linter.unusedVariables false
set_option linter.unusedSimpArgs false
open Go.RowKit Go.Sort Go.Lib

section
variable {B q cap n : Nat} {d : Array (Nat × Nat)}

set_option maxHeartbeats 16000000 in
set_option maxRecDepth 1000000 in
theorem partialIns_p (w : World) (h : Hp w B q cap n d) (hn : n ≤ 4294967296) (a b : Nat) (hab : a < b) (hb : b ≤ n) :
    Calls Tryd.prog 112 #[.iface 115 (rvp q n cap), .int .i64 a, .int .i64 b] w fun e w' =>
      e = .returned (.bool (partialInsertionSort ltp d a b).2) ∧ Hp w' B q cap n (partialInsertionSort ltp d a b).1 ∧ Kp (fun k => k = q) w w' := by
  have mL := mLess (rvp q n cap); have mS := mSwap (rvp q n cap); have eL := eLess; have eS := eSwap
  have HS := hid h
  clear h
  go_enter Tryd.func112, Tryd.ntmps112
  go_wp2
  go_loopg [7, 8] 5 (fun g1 vi vs wr => ∃ (i s : Nat) (dk : Array (Nat × Nat)), vi = .int .i64 i ∧ vs = .int .i64 s ∧ s ≤ 5 ∧ 5 - s ≤ g1 ∧ a < i ∧ i ≤ b ∧ Hid (Hp wr B q cap n dk) ∧ Hid (Kp (fun k => k = q) w wr) ∧ Hid (partialIns ltp a b (5 - s) i dk = partialIns ltp a b 5 (a + 1) d))
  case atStart => exact ⟨a + 1, 0, d, by go_num, rfl, by omega, by omega, by omega, by omega, HS, Kp.refl _ _, rfl⟩
  case round =>
    clear HS
    obtain ⟨i, s, dk, rfl, rfl, hs5, hg1, hai, hib, HP, HK, HO⟩ := hrel
    by_cases hs : s < 5
    · have hsz5 : (s : Int) < 5 := by omega
      go_wp2
      -- the scan
      go_loopg [7] (b - i) (fun g2 vi wr2 => ∃ (kx : Nat), vi = .int .i64 kx ∧ i ≤ kx ∧ kx ≤ b ∧ b - kx ≤ g2 ∧ Hid (Hp wr2 B q cap n dk) ∧ Hid (Kp (fun k => k = q) w wr2) ∧ Hid (scanSorted ltp dk b kx = scanSorted ltp dk b i))
      case atStart => exact ⟨i, rfl, Nat.le_refl _, hib, Nat.le_refl _, HP, HK, rfl⟩
      case round =>
        clear HP HK
        obtain ⟨kx, rfl, hik, hkb, hg2, HP, HK, HSc⟩ := hrel
        by_cases hkb' : kx < b
        · have hkz : (kx : Int) < (b : Int) := by omega
          cases hlv : ltp dk[kx]! dk[kx - 1]! with
          | false =>
            go_wp2_with (go_at_fn 140; refine (lessAt _ HP.out hn kx (kx - 1) hlv (by omega) (by omega) (by omega) (by omega)).mono ?_; rintro e w' ⟨rfl, k, rfl⟩)
            go_roundg (b - (kx + 1))
            case measure => omega
            case rel => exact ⟨kx + 1, by go_num, by omega, by omega, Nat.le_refl _, HP.out.drewN _, HK.out.drewN _, by rw [← HSc.out, scanSorted_go ltp dk b kx hkb' hlv]; exact rfl⟩
          | true =>
            -- a pair out of order, at kx
            have HKx : Hid (scanSorted ltp dk b i = kx) := by show _ = _; rw [← HSc.out, scanSorted_stop ltp dk b kx (Or.inr hlv)]
            have hkne : ((kx : Int) == (b : Int)) = false := beq_eq_false_iff_ne.2 (by omega)
            by_cases h50 : b - a < 50
            · have h50z : (b : Int) - (a : Int) < 50 := by omega
              go_wp2_with (go_at_fn 140; refine (lessAt _ HP.out hn kx (kx - 1) hlv (by omega) (by omega) (by omega) (by omega)).mono ?_; rintro e w' ⟨rfl, k, rfl⟩)
              have hv : partialInsertionSort ltp d a b = (dk, false) := by
                unfold partialInsertionSort
                rw [← HO.out, pi_short ltp a b s i dk hs (by rw [HKx.out]; omega) h50]
              rw [hv]
              go_ret
              exact ⟨rfl, HP.out.drewN _, HK.out.drewN _⟩
            · have h50z : ¬ ((b : Int) - (a : Int) < 50) := by omega
              have hX1 : Hid (partialIns ltp a b (5 - (s + 1)) kx (fixUp ltp b kx (fixDown ltp a kx (swp dk kx (kx - 1)))) = partialIns ltp a b 5 (a + 1) d) := by
                rw [← HO.out, pi_go ltp a b s i kx dk hs HKx.out (by omega) h50]; exact rfl
              clear HKx HSc HO
              go_upto_if 45 with (first
                | (go_at_fn 140; refine (lessAt _ HP.out hn kx (kx - 1) hlv (by omega) (by omega) (by omega) (by omega)).mono ?_; rintro e w' ⟨rfl, k, rfl⟩)
                | (go_at_fn 141; refine (swapAt _ (HP.out.drewN _) hn kx (kx - 1) (by omega) (by omega) (by omega) (by omega)).mono ?_; rintro e w' ⟨rfl, HP2, HK2⟩))
              have HKs : Hid (Kp (fun k => k = q) w w') := (HK.out.drewN _).trans HK2.out
              obtain ⟨D, hD⟩ : ∃ D, D = swp dk kx (kx - 1) := ⟨_, rfl⟩
              rw [← hD] at HP2 hX1
              clear HK HK2 HP hD hlv
              rename World => w3
              go_cut [] (fun wx => Hid (Hp wx B q cap n (fixDown ltp a kx D)) ∧ Hid (Kp (fun k => k = q) w wx))
              case first =>
                by_cases hka : kx - a ≥ 2
                · have hkaz : (2 : Int) ≤ (kx : Int) - (a : Int) := by omega
                  rw [decide_eq_true hkaz]
                  go_wp2_with fail
                  go_loopg [9] (kx - 1) (fun g3 vj wr3 => ∃ (j : Nat) (dj : Array (Nat × Nat)), vj = .int .i64 j ∧ j ≤ kx - 1 ∧ j ≤ g3 ∧ Hid (Hp wr3 B q cap n dj) ∧ Hid (Kp (fun k => k = q) w wr3) ∧ Hid (shiftDown ltp j dj = shiftDown ltp (kx - 1) D))
                  case atStart => exact ⟨kx - 1, D, by congr 1; omega, Nat.le_refl _, Nat.le_refl _, HP2, HKs, rfl⟩
                  case round =>
                    clear HP2 HKs
                    obtain ⟨j, dj, rfl, hjk, hg3, HP, HK, HDn⟩ := hrel
                    by_cases hj1 : 1 ≤ j
                    · have hj1z : (1 : Int) ≤ (j : Int) := by omega
                      cases hlv2 : ltp dj[j]! dj[j - 1]! with
                      | true =>
                        go_wp2_with (first
                          | (go_at_fn 140; refine (lessAt _ HP.out hn j (j - 1) hlv2 (by omega) (by omega) (by omega) (by omega)).mono ?_; rintro e w' ⟨rfl, k, rfl⟩)
                          | (go_at_fn 141; refine (swapAt _ (HP.out.drewN _) hn j (j - 1) (by omega) (by omega) (by omega) (by omega)).mono ?_; rintro e w' ⟨rfl, HP2, HK2⟩))
                        go_roundg (j - 1)
                        case measure => omega
                        case rel => exact ⟨j - 1, swp dj j (j - 1), by congr 1; omega, by omega, Nat.le_refl _, HP2, (HK.out.drewN _).trans HK2.out, by rw [← HDn.out, shiftDown_go ltp j dj hj1 hlv2]; exact rfl⟩
                      | false =>
                        go_wp2_with (go_at_fn 140; refine (lessAt _ HP.out hn j (j - 1) hlv2 (by omega) (by omega) (by omega) (by omega)).mono ?_; rintro e w' ⟨rfl, k, rfl⟩)
                        go_meet
                        exact ⟨by unfold fixDown; rw [if_pos hka, ← HDn.out, shiftDown_stop ltp j dj (Or.inr hlv2)]; exact HP.out.drewN _, HK.out.drewN _⟩
                    · have hj1z : ¬ (1 : Int) ≤ (j : Int) := by omega
                      go_wp2
                      go_meet
                      exact ⟨by unfold fixDown; rw [if_pos hka, ← HDn.out, shiftDown_stop ltp j dj (Or.inl (by omega))]; exact HP, HK⟩
                · have hkaz : ¬ (2 : Int) ≤ (kx : Int) - (a : Int) := by omega
                  go_wp2_with fail
                  go_meet
                  exact ⟨by unfold fixDown; rw [if_neg hka]; exact HP2, HKs⟩
              case rest =>
                obtain ⟨HP3, HK3⟩ := hcut
                obtain ⟨E, hE⟩ : ∃ E, E = fixDown ltp a kx D := ⟨_, rfl⟩
                rw [← hE] at HP3 hX1
                clear HP2 HKs hE
                by_cases hbk : b - kx ≥ 2
                · have hbkz : (2 : Int) ≤ (b : Int) - (kx : Int) := by omega
                  go_wp2_with fail
                  go_loopg [10] (b - (kx + 1)) (fun g4 vj wr4 => ∃ (ju : Nat) (du : Array (Nat × Nat)), vj = .int .i64 ju ∧ kx + 1 ≤ ju ∧ ju ≤ b ∧ b - ju ≤ g4 ∧ Hid (Hp wr4 B q cap n du) ∧ Hid (Kp (fun k => k = q) w wr4) ∧ Hid (shiftUp ltp b ju du = shiftUp ltp b (kx + 1) E))
                  case atStart => exact ⟨kx + 1, E, by go_num, Nat.le_refl _, by omega, Nat.le_refl _, HP3, HK3, rfl⟩
                  case round =>
                    clear HP3 HK3
                    obtain ⟨ju, du, rfl, hkj, hjb, hg4, HP, HK, HU⟩ := hrel
                    by_cases hjb' : ju < b
                    · have hjz : (ju : Int) < (b : Int) := by omega
                      cases hlv3 : ltp du[ju]! du[ju - 1]! with
                      | true =>
                        go_wp2_with (first
                          | (go_at_fn 140; refine (lessAt _ HP.out hn ju (ju - 1) hlv3 (by omega) (by omega) (by omega) (by omega)).mono ?_; rintro e w' ⟨rfl, k, rfl⟩)
                          | (go_at_fn 141; refine (swapAt _ (HP.out.drewN _) hn ju (ju - 1) (by omega) (by omega) (by omega) (by omega)).mono ?_; rintro e w' ⟨rfl, HP2, HK2⟩))
                        go_roundg (b - (ju + 1))
                        case measure => omega
                        case rel => exact ⟨ju + 1, swp du ju (ju - 1), by go_num, by omega, by omega, Nat.le_refl _, HP2, (HK.out.drewN _).trans HK2.out, by rw [← HU.out, shiftUp_go ltp b ju du hjb' hlv3]; exact rfl⟩
                      | false =>
                        go_wp2_with (go_at_fn 140; refine (lessAt _ HP.out hn ju (ju - 1) hlv3 (by omega) (by omega) (by omega) (by omega)).mono ?_; rintro e w' ⟨rfl, k, rfl⟩)
                        go_roundg (5 - (s + 1))
                        case measure => omega
                        case rel => exact ⟨kx, s + 1, fixUp ltp b kx E, rfl, by go_num, by omega, Nat.le_refl _, by omega, by omega, by unfold fixUp; rw [if_pos hbk, ← HU.out, shiftUp_stop ltp b ju du (Or.inr hlv3)]; exact HP.out.drewN _, HK.out.drewN _, hX1⟩
                    · have hjz : ¬ (ju : Int) < (b : Int) := by omega
                      go_wp2
                      go_roundg (5 - (s + 1))
                      case measure => omega
                      case rel => exact ⟨kx, s + 1, fixUp ltp b kx E, rfl, by go_num, by omega, Nat.le_refl _, by omega, by omega, by unfold fixUp; rw [if_pos hbk, ← HU.out, shiftUp_stop ltp b ju du (Or.inl hjb')]; exact HP, HK, hX1⟩
                · have hbkz : ¬ (2 : Int) ≤ (b : Int) - (kx : Int) := by omega
                  go_wp2_with fail
                  go_roundg (5 - (s + 1))
                  case measure => omega
                  case rel => exact ⟨kx, s + 1, fixUp ltp b kx E, rfl, by go_num, by omega, Nat.le_refl _, by omega, by omega, by unfold fixUp; rw [if_neg hbk]; exact HP3, HK3, hX1⟩
        · -- the scan has come to b: true
          obtain rfl : kx = b := by omega
          have hkz : ¬ (kx : Int) < (kx : Int) := by omega
          go_wp2
          have hv : partialInsertionSort ltp d a kx = (dk, true) := by
            unfold partialInsertionSort
            rw [← HO.out, pi_true ltp a kx s i dk hs (by rw [← HSc.out, scanSorted_stop ltp dk kx kx (Or.inl (by omega))])]
          rw [hv]
          go_ret
          exact ⟨rfl, HP.out, HK.out⟩
    · -- five steps are done: false
      obtain rfl : s = 5 := by omega
      go_wp2
      have hv : partialInsertionSort ltp d a b = (dk, false) := by
        unfold partialInsertionSort
        rw [← HO.out, pi_end]
      rw [hv]
      go_ret
      exact ⟨rfl, HP.out, HK.out⟩
end
end Go.Proofs.YtkocpijloiamcaaDoor
