/- spec.Visual: the reference's order of a line, by the places as they stand. -/
import Derived.Test.YtlppmagjgodkjaaOrders
namespace Go.Proofs.Ytlppmagjgodkjaa
open Go.RowKit

structure High (lv : Nat → Int) (k : Nat) (H : Int) : Prop where
  h0 : 0 ≤ H
  h1 : H ≤ 126
  hle : ∀ i, i < k → lv i ≤ H

theorem High.step {lv : Nat → Int} {k : Nat} {H : Int} (h : High lv k H) (h0 : 0 ≤ lv k) (hl : lv k ≤ 126) : High lv (k + 1) (max H (lv k)) :=
  ⟨by have := h.h0; omega, by have := h.h1; omega, fun i hi => by
    by_cases e : i = k
    · subst e; omega
    · have := h.hle i (by omega); omega⟩

set_option maxHeartbeats 4000000 in
set_option maxRecDepth 100000 in
theorem visual_any {ao : Option Addr} {b o n c : Nat} {lv : Nat → Int} (w : World) (hn : n ≤ 4294967296) (hn0 : 0 < n) (hx : Sees w ao b o n c (fun i => .int .i64 (lv i))) (hlv : ∀ i, i < n → 0 ≤ lv i ∧ lv i ≤ 126) :
    Calls Try.prog 14 #[.slice ao n c] w (RetSees w n (ordVal (Ord.U lv n 126))) := by
  have h1 := Gr.empty w w.heap.size 3 (ordVal fun p => p) (Nat.le_refl _)
  have hs1 : w.Since w.heap.size (w.alloc (.cells #[] 3)) := (World.Since.refl _ _).alloc (Nat.le_refl _) _
  go_enter Try.func14, Try.ntmps14
  go_wp2
  go_loopg [3, 4, 5, 6, 15] n (fun g v h _ _ i wr => ∃ (k : Nat) (H : Int), k ≤ n ∧ g = n - k ∧ i = .int .i64 k ∧ h = .int .i64 H ∧ High lv k H ∧ Gr wr w.heap.size 3 v k (ordVal fun p => p) ∧ w.Since w.heap.size wr)
  case atStart => exact ⟨0, 0, by omega, rfl, rfl, rfl, ⟨by omega, by omega, fun i hi => absurd hi (Nat.not_lt_zero _)⟩, h1, hs1⟩
  case round =>
    obtain ⟨k, H, hk, rfl, rfl, rfl, hH, hg, hs⟩ := hrel
    clear h1 hs1
    have q0 := hH.h0; have q1 := hH.h1
    by_cases hlt : k < n
    · obtain ⟨rfl, hc⟩ := hx.get hlt
      have hc' : wr.cell? ⟨b, o + k, none⟩ = some (.int .i64 (lv k)) := by rw [hs.cell (World.block_lt_of_cell? _ _ hc)]; exact hc
      have hsz : w.heap.size ≤ wr.heap.size := hs.size
      obtain ⟨hl0, hl1⟩ := hlv k hlt
      have hb1 : (lv k != -1) = true := by simp; omega
      have HH := hH.step hl0 hl1
      clear hc hH
      go_wp2_with (at_builtin; refine wpList_push wr rfl _ _ 22 rfl w.heap.size 3 (.int .i64 0) 8 Try.underlying22 Try.infoInt rfl _ _ _ _ (by rfl) hg (by rfl) rfl (by omega) (by omega) hsz ?_)
      intro v' w2 hg2 hgr2 hat
      have hs2 : w.Since w.heap.size w2 := (hs.alloc hsz _).grown hgr2 (by simp; omega) (fun k hk => (hg.ge k hk).1)
      have hg3 := hg2.congr (g := ordVal fun p => p) (fun i _ => by
        by_cases e : i = k
        · subst e; simp [ordVal]
        · simp [ordVal, e])
      clear hg hs hc' hg2 hgr2 hat
      go_wp2
      all_goals
        go_roundg (n - (k + 1))
        case rel => exact ⟨k + 1, _, by omega, rfl, by go_num, rfl, by first | (rw [show max H (lv k) = lv k by omega] at HH; exact HH) | (rw [show max H (lv k) = H by omega] at HH; exact HH), hg3, hs2⟩
        case measure => omega
    · obtain rfl : k = n := by omega
      obtain ⟨g0, cap, hv, hg0⟩ := hg.form hn0
      rw [hv]
      rw [hv] at hg
      clear hv
      go_wp2
      -- level by level
      go_loopg [7] H.toNat (fun g l wl => ∃ (m : Nat) (L : Int), l = .int .i64 L ∧ Hid (L + m = H) ∧ 0 ≤ L ∧ Hid (g = L.toNat) ∧ Gr wl w.heap.size 3 (.slice (some ⟨g0, 0, none⟩) k cap) k (ordVal (Ord.Dn lv k H m)) ∧ w.Since w.heap.size wl)
      case atStart => exact ⟨0, H, rfl, Int.add_zero _, q0, rfl, hg, hs⟩
      case round =>
        obtain ⟨m, L, rfl, hL, b0, hgm, hrowm, hsm⟩ := hrel
        clear hg hs
        have b1 : L ≤ 126 := by have := hL.out; omega
        by_cases hqL : 1 ≤ L
        · go_wp2
          -- row by row
          go_loopg [8] (k + 1) (fun g i wl => ∃ i' : Nat, i' ≤ k + 1 ∧ g = k + 1 - i' ∧ i = .int .i64 i' ∧ (i' = 0 ∨ k ≤ i' ∨ lv (i' - 1) < L) ∧ Gr wl w.heap.size 3 (.slice (some ⟨g0, 0, none⟩) k cap) k (ordVal (upTo lv k L (Ord.Dn lv k H m) i')) ∧ w.Since w.heap.size wl)
          case atStart => exact ⟨0, by omega, rfl, rfl, .inl rfl, hrowm.congr (fun p _ => by simp [ordVal, upTo]), hsm⟩
          case round =>
            obtain ⟨i, hi, rfl, rfl, hedge, hrowi, hsi⟩ := hrel
            clear hrowm hsm
            have HE := Lib.hid hedge
            clear hedge
            by_cases hij : i < k
            · obtain ⟨rfl, hc0⟩ := hx.get hij
              have hbw := World.block_lt_of_cell? _ _ hc0
              clear hc0
              have hiz : (i : Int) < (k : Int) := by omega
              go_wp2
              go_loop [9] (fun t => ∃ t' : Nat, i ≤ t' ∧ t' ≤ k ∧ t = .int .i64 t' ∧ ∀ p, i ≤ p → p < t' → L ≤ lv p) (fun t => k - (intOf t).toNat)
              case atStart => exact ⟨i, by omega, by omega, rfl, fun p h1 h2 => by omega⟩
              case round =>
                obtain ⟨t, ht0, ht1, rfl, hin⟩ := hrel
                have HI := Lib.hid hin
                clear hin
                -- what stands at place t, and its level
                have hlook : t < k → ∃ q : Nat, q < k ∧ wr.cell? ⟨g0, t, none⟩ = some (.int .i64 (q : Int)) ∧ wr.cell? ⟨b, o + q, none⟩ = some (.int .i64 (lv q)) ∧ (L ≤ lv q ↔ L ≤ lv t) := fun htj => by
                  refine ⟨Ord.Dn lv k H m t, Ord.Dn_lt htj, ?_, ?_, Ord.Dn_keeps (by have := hL.out; omega) t⟩
                  · have := hrowi.cell htj
                    simpa [ordVal, upTo, show ¬ t < i by omega] using this
                  · rw [hsi.cell hbw]; exact (hx.get (Ord.Dn_lt htj)).2
                have hcont : (t < k ∧ L ≤ lv t) ∨ t = k ∨ (t < k ∧ lv t < L) := by omega
                rcases hcont with ⟨htj, hLt⟩ | hstop
                · obtain ⟨q, hqk, hc1, hc2, hiff⟩ := hlook htj
                  have hLq : L ≤ lv q := hiff.2 hLt
                  clear hlook hiff
                  go_wp2
                  go_round
                  case rel => exact ⟨t + 1, by omega, by omega, by go_num, fun p h1 h2 => by
                    rcases Nat.lt_succ_iff_lt_or_eq.1 h2 with h | h
                    · exact HI.out p h1 h
                    · subst h; exact hLt⟩
                  case measure => simp [intOf]; omega
                · have hrun : i < t → Ord.Run lv k L i t := fun ht0 => ⟨ht0, ht1, HI.out, by rcases HE.out with h | h | h; exact .inl h; omega; exact .inr h, by rcases hstop with h | h; exact .inl h; exact .inr h.2⟩
                  have hlow : i = t → lv i < L := fun e => by rcases hstop with h | h; omega; rw [e]; exact h.2
                  have hend : t = k ∨ lv t < L := by rcases hstop with h | h; exact .inl h; exact .inr h.2
                  have HR := Lib.hid hrun
                  have HW := Lib.hid hlow
                  have HT := Lib.hid hend
                  clear hrun hlow hend
                  obtain ⟨w4, hw4⟩ : ∃ w4 : World, w4 = wr := ⟨_, rfl⟩
                  subst hw4
                  rcases hstop with htj | ⟨htj, hLt⟩
                  case' inr => (obtain ⟨q, hqk, hc1, hc2, hiff⟩ := hlook htj
                                have hLq : ¬ L ≤ lv q := fun h => by have := hiff.1 h; omega
                                clear hlook hiff)
                  case' inl => (have Htj := Lib.hid htj; have htj2 : k ≤ t := by omega
                                clear htj hlook)
                  all_goals
                    go_wp2
                    try clear hc1 hc2
                    -- the row turned round
                    go_loopg [10, 11] (t - i) (fun g x y wl => ∃ (d p : Nat) (r : Int), Hid (i + d = p) ∧ Hid (r + d + 1 = t) ∧ i + 2 * d ≤ t ∧ Hid (g = t - i - d) ∧ x = .int .i64 p ∧ y = .int .i64 r ∧ Gr wl w.heap.size 3 (.slice (some ⟨g0, 0, none⟩) k cap) k (ordVal (swapped (upTo lv k L (Ord.Dn lv k H m) i) i t d)) ∧ w.Since w.heap.size wl)
                    case atStart => exact ⟨0, i, (t : Int) - 1, rfl, by unfold Hid; omega, by omega, rfl, rfl, rfl, hrowi.congr (fun p hp => by simp only [ordVal, swapped]; rw [if_neg (by omega)]), hsi⟩
                    case round =>
                      obtain ⟨d, p, r, hp, hr, hd, hgk, rfl, rfl, hrow, hs⟩ := hrel
                      have ep : i + d = p := hp
                      have er : r + d + 1 = t := hr
                      clear hrowi hsi
                      by_cases hpr : (p : Int) < r
                      · obtain ⟨r, rfl⟩ := Int.eq_ofNat_of_zero_le (show 0 ≤ r by omega)
                        have hrj : r < k := by omega
                        have c1 := hrow.cell (i := p) (by omega)
                        have c2 := hrow.cell (i := r) hrj
                        have f1 := hrow.frozen p
                        have f2 := hrow.frozen r
                        have R := ((hrow.set p (ordVal (swapped (upTo lv k L (Ord.Dn lv k H m) i) i t d) r)).set r (ordVal (swapped (upTo lv k L (Ord.Dn lv k H m) i) i t d) p)).drew
                        have S := ((hs.setCell (a := ⟨g0, p, none⟩) hg0 (ordVal (swapped (upTo lv k L (Ord.Dn lv k H m) i) i t d) r)).setCell (a := ⟨g0, r, none⟩) hg0 (ordVal (swapped (upTo lv k L (Ord.Dn lv k H m) i) i t d) p)).drew
                        have c3 := ((hrow.set p (ordVal (swapped (upTo lv k L (Ord.Dn lv k H m) i) i t d) r))).cell (i := r) hrj
                        rw [if_neg (by omega)] at c3
                        simp only [ordVal] at c1 c2 c3 R S
                        have hpz0 : (p : Int) < (k : Int) := by omega
                        have hrz0 : (r : Int) < (k : Int) := by omega
                        clear ep er
                        go_wp2
                        go_region
                        go_wp2
                        go_roundg (t - i - (d + 1))
                        case rel => exact ⟨d + 1, p + 1, (r : Int) - 1, by have := hp.out; unfold Hid; omega, by have := hr.out; unfold Hid; omega, by have := hp.out; have := hr.out; omega, rfl, by go_num, rfl, R.congr (fun x hx => swapped_step (f := upTo lv k L (Ord.Dn lv k H m) i) hp.out (by have := hr.out; omega) (by omega) x), S⟩
                        case measure => have := hp.out; have := hr.out; have := hgk.out; omega
                      · have hd2 : t ≤ i + d + d + 1 := by omega
                        have R := hrow.congr (g := ordVal (upTo lv k L (Ord.Dn lv k H m) (t + 1))) (fun x hx => congrArg (fun q : Nat => Value.int .i64 (q : Int)) (by
                          by_cases hit : i < t
                          · exact upTo_run (HR.out hit) hd2 (by omega) x hx
                          · obtain rfl : i = t := by omega
                            have : swapped (upTo lv k L (Ord.Dn lv k H m) i) i i d x = upTo lv k L (Ord.Dn lv k H m) i x := by unfold swapped; rw [if_neg (by omega)]
                            rw [this]; exact upTo_low (HW.out rfl) x))
                        clear ep er hrow
                        go_wp2
                        go_roundg (k + 1 - (t + 1))
                        case rel => exact ⟨t + 1, by omega, rfl, by go_num, by rcases HT.out with h | h; exact .inr (.inl (by omega)); exact .inr (.inr (by rw [Nat.add_sub_cancel]; exact h)), R, hs⟩
                        case measure => omega
            · have hij2 : ¬ (i : Int) < (k : Int) := by omega
              have R := hrowi.congr (g := ordVal (Ord.Dn lv k H (m + 1))) (fun x hx => by
                have : L = H - m := by have := hL.out; omega
                subst this
                simp only [ordVal, upTo]
                rw [if_pos (by omega)]; rfl)
              clear hrowi
              go_wp2
              go_roundg (L - 1).toNat
              case rel => exact ⟨m + 1, L - 1, rfl, by have := hL.out; unfold Hid; omega, by omega, rfl, R, hsi⟩
              case measure => have := hgm.out; omega
        · have R := hrowm.congr (g := ordVal (Ord.U lv k 126)) (fun x hx => by
            obtain ⟨h, rfl⟩ := Int.eq_ofNat_of_zero_le q0
            have : m = h := by have := hL.out; omega
            subst this
            simp only [ordVal]
            rw [Ord.U_above (H := m) hH.hle (by omega) hx, Ord.U_Dn m m (Nat.le_refl _), Nat.sub_self]; rfl)
          clear hrowm
          go_wp2
          go_ret
          exact R.ret hsm (Nat.le_refl _)

end Go.Proofs.Ytlppmagjgodkjaa
