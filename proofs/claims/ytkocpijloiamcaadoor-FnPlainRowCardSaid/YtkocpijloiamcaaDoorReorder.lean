/- bidi.computeReordering: the places of a line in the order of L2. -/
import Derived.Test.YtkocpijloiamcaaDoorGA
import Derived.Deep.LoopGhost
import Derived.Deep.QuietTactic
import Derived.BigQuiet
import Derived.Lib.Hide
import Derived.Test.YtkocpijloiamcaaDoorOrd
import Derived.RegionTactic
import Derived.BigRegion
import Derived.Laws.BitsLemmas
namespace Go.Proofs.YtkocpijloiamcaaDoor
open Go.RowKit

theorem wraps_i8 (n : Int) (h₀ : 0 ≤ n) (h₁ : n < 2 ^ 7) : IntKind.i8.wrap n = n := by
  simp [IntKind.wrap, IntKind.bits, IntKind.signed]; omega
theorem i8_and1 {x : Int} (h₀ : 0 ≤ x) (h₁ : x < 128) : bits .and .i8 x 1 = x % 2 := bits_mask .i8 7 (by decide) wraps_i8 1 (by decide) x h₀ h₁

/-- What the scan for the greatest and the least odd level knows of the first k levels. -/
structure HighLow (lv : Nat → Int) (k : Nat) (H o : Int) : Prop where
  h0 : 0 ≤ H
  h1 : H ≤ 126
  hle : ∀ i, i < k → lv i ≤ H
  hat : H = 0 ∨ ∃ i, i < k ∧ lv i = H
  o0 : 0 < o
  o1 : o ≤ 127
  odd : o % 2 = 1
  ole : ∀ i, i < k → lv i % 2 = 1 → o ≤ lv i

theorem HighLow.start (lv : Nat → Int) : HighLow lv 0 0 127 :=
  ⟨by omega, by omega, fun i h => absurd h (Nat.not_lt_zero _), .inl rfl, by omega, by omega, by omega, fun i h => absurd h (Nat.not_lt_zero _)⟩

theorem HighLow.step {lv : Nat → Int} {k : Nat} {H o H' o' : Int} (h : HighLow lv k H o) (hl0 : 0 ≤ lv k) (hl1 : lv k ≤ 126) (hH : H' = if H < lv k then lv k else H) (ho : o' = if lv k % 2 = 1 ∧ lv k < o then lv k else o) : HighLow lv (k + 1) H' o' := by
  have a1 := h.h0; have a2 := h.h1; have a3 := h.o0; have a4 := h.o1; have a5 := h.odd
  refine ⟨?_, ?_, fun i hi => ?_, ?_, ?_, ?_, ?_, fun i hi hodd => ?_⟩
  · subst hH; split <;> omega
  · subst hH; split <;> omega
  · by_cases e : i = k
    · subst e; subst hH; split <;> omega
    · have := h.hle i (by omega); subst hH; split <;> omega
  · subst hH
    split
    · exact .inr ⟨k, by omega, rfl⟩
    · rcases h.hat with e | ⟨i, hi, e⟩
      · exact .inl e
      · exact .inr ⟨i, by omega, e⟩
  · subst ho; split <;> omega
  · subst ho; split <;> omega
  · subst ho; split <;> omega
  · by_cases e : i = k
    · subst e; subst ho; split <;> omega
    · have := h.ole i (by omega) hodd; subst ho; split <;> omega

def ordVal (f : Nat → Nat) : Nat → Value := fun p => .int .i64 ((f p : Nat) : Int)

/-- The row half turned round: d places from both ends of [s, t). -/
def swapped (f : Nat → Nat) (s t d : Nat) (p : Nat) : Nat := if (s ≤ p ∧ p < s + d) ∨ (t ≤ p + d ∧ p < t) then f (s + t - 1 - p) else f p

/-- The rows below i turned round. -/
def upTo (lv : Nat → Int) (n : Nat) (L : Int) (f : Nat → Nat) (i : Nat) (p : Nat) : Nat := if p < i then f (Ord.rho lv n L p) else f p

theorem upTo_low {lv : Nat → Int} {n : Nat} {L : Int} {f : Nat → Nat} {i : Nat} (h : lv i < L) (p : Nat) : upTo lv n L f i p = upTo lv n L f (i + 1) p := by
  unfold upTo
  by_cases e : p = i
  · subst e; simp [Ord.rho_low h]
  · by_cases h1 : p < i
    · rw [if_pos h1, if_pos (by omega)]
    · rw [if_neg h1, if_neg (by omega)]

theorem upTo_run {lv : Nat → Int} {n : Nat} {L : Int} {f : Nat → Nat} {s t d : Nat} (h : Ord.Run lv n L s t) (hd : t ≤ s + d + d + 1) (hd2 : s + d + d ≤ t) (p : Nat) (hp : p < n) : swapped (upTo lv n L f s) s t d p = upTo lv n L f (t + 1) p := by
  obtain ⟨h1, h2, h3, h4, h5⟩ := id h
  unfold swapped upTo
  by_cases e : s ≤ p ∧ p < t
  · rw [if_pos (show p < t + 1 by omega), Ord.rho_run h e.1 e.2]
    by_cases e2 : (s ≤ p ∧ p < s + d) ∨ (t ≤ p + d ∧ p < t)
    · rw [if_pos e2, if_neg (by omega)]
    · rw [if_neg e2, if_neg (by omega)]
      congr 1; omega
  · rw [if_neg (by omega)]
    by_cases e2 : p < s
    · rw [if_pos e2, if_pos (by omega)]
    · rw [if_neg e2]
      by_cases e3 : p = t
      · subst e3
        rw [if_pos (by omega), Ord.rho_low]
        rcases h5 with h5 | h5
        · omega
        · exact h5
      · rw [if_neg (by omega)]

theorem swapped_step {f : Nat → Nat} {i t d p r : Nat} (hp : i + d = p) (hr : r + d + 1 = t) (h : p < r) (x : Nat) :
    (if x = r then Value.int .i64 ((swapped f i t d p : Nat) : Int) else if x = p then .int .i64 ((swapped f i t d r : Nat) : Int) else .int .i64 ((swapped f i t d x : Nat) : Int)) = ordVal (swapped f i t (d + 1)) x := by
  simp only [ordVal, swapped]
  by_cases e1 : x = r
  · subst e1
    rw [if_pos rfl, if_neg (show ¬((i ≤ p ∧ p < i + d) ∨ (t ≤ p + d ∧ p < t)) by omega), if_pos (by omega)]
    congr 3; omega
  · rw [if_neg e1]
    by_cases e2 : x = p
    · subst e2
      rw [if_pos rfl, if_neg (show ¬((i ≤ r ∧ r < i + d) ∨ (t ≤ r + d ∧ r < t)) by omega), if_pos (by omega)]
      congr 3; omega
    · rw [if_neg e2]
      by_cases e3 : (i ≤ x ∧ x < i + d) ∨ (t ≤ x + d ∧ x < t)
      · rw [if_pos e3, if_pos (by omega)]
      · rw [if_neg e3, if_neg (by omega)]

set_option maxHeartbeats 4000000 in
set_option maxRecDepth 100000 in
theorem computeReordering_any {ao : Option Addr} {b o n c : Nat} {lv : Nat → Int} (w : World) (hn : n ≤ 4294967296) (hx : Sees w ao b o n c (fun i => .int .i8 (lv i))) (hlv : ∀ i, i < n → 0 ≤ lv i ∧ lv i ≤ 126) :
    Calls Tryd.prog 68 #[.slice ao n c] w (RetSees w n (ordVal (Ord.U lv n 126))) := by
  have hmk := run_make_row' (P := Tryd.prog) 22 3 (.int .i64 0) 8 Tryd.underlying22 Tryd.infoInt rfl .i64 .i64 n (by omega) (by omega)
  go_enter Tryd.func68, Tryd.ntmps68
  go_wp2
  clear hmk
  -- result[i] = i
  go_loopg [4, 20] n (fun g _ i wr => ∃ k : Nat, k ≤ n ∧ g = n - k ∧ i = .int .i64 k ∧ wr.rowIs w.heap.size 3 n (fun j => if j < k then .int .i64 (j : Int) else .int .i64 0) ∧ w.Since w.heap.size wr)
  case atStart => exact ⟨0, by omega, rfl, rfl, (World.rowIs_made w _ n 3).congr (fun j _ => by simp), (World.Since.refl _ _).alloc (Nat.le_refl _) _⟩
  case round =>
    obtain ⟨k, hk, rfl, rfl, hrow, hs⟩ := hrel
    by_cases hlt : k < n
    · have g1 : wr.cell? ⟨w.heap.size, k, none⟩ = some (.int .i64 0) := by simpa using hrow.cell hlt
      have g2 := hrow.frozen k
      have R := (hrow.set k (.int .i64 (k : Int))).congr (g := fun j => if j < k + 1 then .int .i64 (j : Int) else .int .i64 0) (fun j _ => by
        by_cases e : j = k
        · subst e; simp
        · by_cases h1 : j < k
          · rw [if_neg e, if_pos h1, if_pos (by omega)]
          · rw [if_neg e, if_neg h1, if_neg (by omega)])
      have S := hs.setCell (a := ⟨w.heap.size, k, none⟩) (Nat.le_refl _) (.int .i64 (k : Int))
      clear hrow hs
      go_wp2
      go_roundg (n - (k+1))
      case rel => exact ⟨k + 1, by omega, rfl, by go_num, R, S⟩
      case measure => omega
    · obtain rfl : k = n := by omega
      have hrow' : wr.rowIs w.heap.size 3 k (ordVal fun p => p) := hrow.congr fun j hj => by simp [hj, ordVal]
      have hxr := hx.since (w' := wr) hs
      clear hrow
      go_wp2
      -- the greatest and the least odd level
      go_loop [5, 6, 8, 30] (fun h l _ i => ∃ (j : Nat) (H q : Int), j ≤ k ∧ i = .int .i64 j ∧ h = .int .i8 H ∧ l = .int .i8 q ∧ HighLow lv j H q) (fun _ _ _ i => k - (intOf i).toNat)
      case atStart => exact ⟨0, 0, 127, by omega, rfl, rfl, rfl, HighLow.start lv⟩
      case round =>
        obtain ⟨j, H, q, hj, rfl, rfl, rfl, hHL⟩ := hrel
        by_cases hjk : j < k
        · obtain ⟨rfl, hc⟩ := hxr.get hjk
          obtain ⟨hl0, hl1⟩ := hlv j hjk
          have hjz : (j : Int) < (k : Int) := by omega
          have hb1 := i8_and1 (x := lv j) hl0 (by omega)
          have q0 := hHL.h0; have q1 := hHL.h1; have q2 := hHL.o0; have q3 := hHL.o1
          have HS := hHL.step (H' := _) (o' := _) hl0 hl1 rfl rfl
          clear hHL hxr hlv
          by_cases hH : H < lv j
          · by_cases hod : lv j % 2 = 1
            · have hb2 : (lv j % 2 != 0) = true := by simp; omega
              have Hod := Lib.hid hod
              clear hod
              by_cases hlo : lv j < q
              · rw [if_pos hH, if_pos ⟨Hod.out, hlo⟩] at HS
                go_wp2
                go_round
                case rel => exact ⟨j + 1, _, _, by omega, by go_num, rfl, rfl, HS⟩
                case measure => simp [intOf]; omega
              · rw [if_pos hH, if_neg (by omega)] at HS
                go_wp2
                go_round
                case rel => exact ⟨j + 1, _, _, by omega, by go_num, rfl, rfl, HS⟩
                case measure => simp [intOf]; omega
            · have hb2 : (lv j % 2 != 0) = false := by simp; omega
              rw [if_pos hH, if_neg (by omega)] at HS
              clear hod
              go_wp2
              go_round
              case rel => exact ⟨j + 1, _, _, by omega, by go_num, rfl, rfl, HS⟩
              case measure => simp [intOf]; omega
          · by_cases hod : lv j % 2 = 1
            · have hb2 : (lv j % 2 != 0) = true := by simp; omega
              have Hod := Lib.hid hod
              clear hod
              by_cases hlo : lv j < q
              · rw [if_neg hH, if_pos ⟨Hod.out, hlo⟩] at HS
                go_wp2
                go_round
                case rel => exact ⟨j + 1, _, _, by omega, by go_num, rfl, rfl, HS⟩
                case measure => simp [intOf]; omega
              · rw [if_neg hH, if_neg (by omega)] at HS
                go_wp2
                go_round
                case rel => exact ⟨j + 1, _, _, by omega, by go_num, rfl, rfl, HS⟩
                case measure => simp [intOf]; omega
            · have hb2 : (lv j % 2 != 0) = false := by simp; omega
              rw [if_neg hH, if_neg (by omega)] at HS
              clear hod
              go_wp2
              go_round
              case rel => exact ⟨j + 1, _, _, by omega, by go_num, rfl, rfl, HS⟩
              case measure => simp [intOf]; omega
        · obtain rfl : j = k := by omega
          have q0 := hHL.h0; have q1 := hHL.h1; have q2 := hHL.o0; have q3 := hHL.o1
          clear hxr
          go_wp2
          -- level by level
          go_loopg [9] (H + 1 - q).toNat (fun g l wl => ∃ (m : Nat) (L : Int), l = .int .i8 L ∧ Hid (L + m = H) ∧ m ≤ (H + 1 - q).toNat ∧ Hid (g = (H + 1 - q).toNat - m) ∧ wl.rowIs w.heap.size 3 j (ordVal (Ord.Dn lv j H m)) ∧ w.Since w.heap.size wl)
          case atStart => exact ⟨0, H, rfl, Int.add_zero _, Nat.zero_le _, rfl, hrow', hs⟩
          case round =>
            obtain ⟨m, L, rfl, hL, hm, hg, hrowm, hsm⟩ := hrel
            clear hrow' hs
            obtain ⟨w3, hw3⟩ : ∃ w3 : World, w3 = wr := ⟨_, rfl⟩
            subst hw3
            have e1 : L + m = H := hL
            have b1 : L ≤ 126 := by omega
            have b0 : 0 ≤ L := by omega
            clear e1
            by_cases hqL : q ≤ L
            · go_wp2
              -- row by row
              go_loopg [10] (j + 1) (fun g i wl => ∃ i' : Nat, i' ≤ j + 1 ∧ g = j + 1 - i' ∧ i = .int .i64 i' ∧ (i' = 0 ∨ j ≤ i' ∨ lv (i' - 1) < L) ∧ wl.rowIs w.heap.size 3 j (ordVal (upTo lv j L (Ord.Dn lv j H m) i')) ∧ w.Since w.heap.size wl)
              case atStart => exact ⟨0, by omega, rfl, rfl, .inl rfl, hrowm.congr (fun p _ => by simp [ordVal, upTo]), hsm⟩
              case round =>
                obtain ⟨i, hi, rfl, rfl, hedge, hrowi, hsi⟩ := hrel
                clear hrowm hsm
                have HE := Lib.hid hedge
                clear hedge
                by_cases hij : i < j
                · obtain ⟨rfl, hc0⟩ := hx.get hij
                  have hbw := World.block_lt_of_cell? _ _ hc0
                  have hc : wr.cell? ⟨b, o + i, none⟩ = some (.int .i8 (lv i)) := by rw [hsi.cell hbw]; exact hc0
                  clear hc0
                  have hiz : (i : Int) < (j : Int) := by omega
                  by_cases hLi : L ≤ lv i
                  · go_wp2
                    clear hc
                    go_loop [12] (fun t => ∃ t' : Nat, i < t' ∧ t' ≤ j ∧ t = .int .i64 t' ∧ ∀ p, i ≤ p → p < t' → L ≤ lv p) (fun t => j - (intOf t).toNat)
                    case atStart => exact ⟨i + 1, by omega, by omega, by go_num, fun p h1 h2 => by rw [show p = i by omega]; exact hLi⟩
                    case round =>
                      obtain ⟨t, ht0, ht1, rfl, hin⟩ := hrel
                      have HI := Lib.hid hin
                      clear hin
                      have hcont : (t < j ∧ L ≤ lv t) ∨ t = j ∨ (t < j ∧ lv t < L) := by omega
                      rcases hcont with ⟨htj, hLt⟩ | hstop
                      · have hct : wr.cell? ⟨b, o + t, none⟩ = some (.int .i8 (lv t)) := by rw [hsi.cell hbw]; exact (hx.get htj).2
                        go_wp2
                        go_round
                        case rel => exact ⟨t + 1, by omega, by omega, by go_num, fun p h1 h2 => by
                          rcases Nat.lt_succ_iff_lt_or_eq.1 h2 with h | h
                          · exact HI.out p h1 h
                          · subst h; exact hLt⟩
                        case measure => simp [intOf]; omega
                      · have hrun : Ord.Run lv j L i t := ⟨ht0, ht1, HI.out, by rcases HE.out with h | h | h; exact .inl h; omega; exact .inr h, by rcases hstop with h | h; exact .inl h; exact .inr h.2⟩
                        have hne : i + 1 ≤ t := ht0
                        have HR := Lib.hid hrun
                        clear hrun
                        obtain ⟨w4, hw4⟩ : ∃ w4 : World, w4 = wr := ⟨_, rfl⟩
                        subst hw4
                        rcases hstop with htj | ⟨htj, hLt⟩
                        case' inr => have hct : w4.cell? ⟨b, o + t, none⟩ = some (.int .i8 (lv t)) := by rw [hsi.cell hbw]; exact (hx.get htj).2
                        case' inl => (have Htj := Lib.hid htj; have htj2 : j ≤ t := by omega
                                      clear htj)
                        all_goals
                          go_wp2
                          try clear hct
                          -- the row turned round
                          go_loopg [13, 14] (t - i) (fun g x y wl => ∃ d p r : Nat, Hid (i + d = p) ∧ Hid (r + d + 1 = t) ∧ i + 2 * d ≤ t ∧ Hid (g = t - i - d) ∧ x = .int .i64 p ∧ y = .int .i64 r ∧ wl.rowIs w.heap.size 3 j (ordVal (swapped (upTo lv j L (Ord.Dn lv j H m) i) i t d)) ∧ w.Since w.heap.size wl)
                          case atStart => exact ⟨0, i, t - 1, rfl, by unfold Hid; omega, by omega, rfl, rfl, by go_num, hrowi.congr (fun p hp => by simp only [ordVal, swapped]; rw [if_neg (by omega)]), hsi⟩
                          case round =>
                            obtain ⟨d, p, r, hp, hr, hd, hgk, rfl, rfl, hrow, hs⟩ := hrel
                            have ep : i + d = p := hp
                            have er : r + d + 1 = t := hr
                            have hpj : p ≤ j := by omega
                            have hrj : r < j := by omega
                            have hpr' : p < r ↔ i + 2 * d + 1 < t := by omega
                            clear hrowi hsi
                            by_cases hpr : p < r
                            · have c1 := hrow.cell (i := p) (by omega)
                              have c2 := hrow.cell (i := r) hrj
                              have f1 := hrow.frozen p
                              have f2 := hrow.frozen r
                              have R := ((hrow.set p (ordVal (swapped (upTo lv j L (Ord.Dn lv j H m) i) i t d) r)).set r (ordVal (swapped (upTo lv j L (Ord.Dn lv j H m) i) i t d) p)).drew
                              have S := ((hs.setCell (a := ⟨w.heap.size, p, none⟩) (Nat.le_refl _) (ordVal (swapped (upTo lv j L (Ord.Dn lv j H m) i) i t d) r)).setCell (a := ⟨w.heap.size, r, none⟩) (Nat.le_refl _) (ordVal (swapped (upTo lv j L (Ord.Dn lv j H m) i) i t d) p)).drew
                              have c3 := ((hrow.set p (ordVal (swapped (upTo lv j L (Ord.Dn lv j H m) i) i t d) r))).cell (i := r) hrj
                              have f3 := ((hrow.set p (ordVal (swapped (upTo lv j L (Ord.Dn lv j H m) i) i t d) r))).frozen r
                              rw [if_neg (by omega)] at c3
                              simp only [ordVal] at c1 c2 c3 f3 R S
                              have hpz : (p : Int) < (r : Int) := by omega
                              have hpz0 : (p : Int) < (j : Int) := by omega
                              have hrz0 : (r : Int) < (j : Int) := by omega
                              clear ep er hpr'
                              go_wp2
                              go_region
                              go_wp2
                              go_roundg (t - i - (d + 1))
                              case rel => exact ⟨d + 1, p + 1, r - 1, by have := hp.out; unfold Hid; omega, by have := hr.out; unfold Hid; omega, by have := hp.out; have := hr.out; omega, rfl, by go_num, by go_num, R.congr (fun x hx => swapped_step (f := upTo lv j L (Ord.Dn lv j H m) i) hp.out hr.out hpr x), S⟩
                              case measure => have := hp.out; have := hr.out; have := hgk.out; omega
                            · have hpr2 : ¬ (p : Int) < (r : Int) := by omega
                              have hd2 : t ≤ i + d + d + 1 := by omega
                              have R := hrow.congr (g := ordVal (upTo lv j L (Ord.Dn lv j H m) (t + 1))) (fun x hx => congrArg (fun q : Nat => Value.int .i64 (q : Int)) (upTo_run HR.out hd2 (by omega) x hx))
                              clear ep er hpr' hrow
                              go_wp2
                              go_roundg (j + 1 - (t + 1))
                              case rel => exact ⟨t + 1, by omega, rfl, by go_num, by rcases HR.out.2.2.2.2 with h | h; exact .inr (.inl (by omega)); exact .inr (.inr h), R, hs⟩
                              case measure => omega
                  · have R := hrowi.congr (g := ordVal (upTo lv j L (Ord.Dn lv j H m) (i + 1))) (fun x _ => congrArg (fun q : Nat => Value.int .i64 (q : Int)) (upTo_low (by omega) x))
                    clear hrowi
                    go_wp2
                    go_roundg (j + 1 - (i + 1))
                    case rel => exact ⟨i + 1, by omega, rfl, by go_num, .inr (.inr (by rw [Nat.add_sub_cancel]; omega)), R, hsi⟩
                    case measure => omega
                · have hij2 : ¬ (i : Int) < (j : Int) := by omega
                  have R := hrowi.congr (g := ordVal (Ord.Dn lv j H (m + 1))) (fun x hx => by
                    have : L = H - m := by have := hL.out; omega
                    subst this
                    simp only [ordVal, upTo]
                    rw [if_pos (by omega)]; rfl)
                  clear hrowi
                  go_wp2
                  go_roundg ((H + 1 - q).toNat - (m + 1))
                  case rel => exact ⟨m + 1, L - 1, by go_num, by have := hL.out; unfold Hid; omega, by have := hL.out; omega, rfl, R, hsi⟩
                  case measure => have := hL.out; have := hg.out; omega
            · have R := hrowm.congr (g := ordVal (Ord.U lv j 126)) (fun x hx => by
                have : m = (H + 1 - q).toNat := by have := hL.out; omega
                subst this
                simp only [ordVal]
                rw [Ord.Dn_all hHL.h0 hHL.hle hHL.hat hHL.h1 hHL.ole hHL.odd hHL.o0 hx])
              clear hrowm
              go_wp2
              go_ret
              exact ⟨_, _, _, _, rfl, Sees.ofRow R, Nat.le_refl _, hsm⟩
end Go.Proofs.YtkocpijloiamcaaDoor
