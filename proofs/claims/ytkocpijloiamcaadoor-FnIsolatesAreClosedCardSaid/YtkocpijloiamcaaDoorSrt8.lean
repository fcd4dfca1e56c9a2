/- sort.pdqsort, sort.Sort over bracketPairs: a permutation, sorted by the openers. -/
import Derived.Test.YtkocpijloiamcaaDoorSrt2
import Derived.Test.YtkocpijloiamcaaDoorGS
import Derived.Test.YtkocpijloiamcaaDoorSrt6
import Derived.Test.YtkocpijloiamcaaDoorSrt7
import Derived.Sort.LotC
namespace Go.Proofs.YtkocpijloiamcaaDoor
set_option linter.unusedVariables false
set_option linter.unusedSimpArgs false
open Go.RowKit Go.Sort Go.Lib

section
variable {B q cap n : Nat}

/-- The pairs are d' now, sorted from a to b; nothing else has turned. -/
def SD (w : World) (B q cap n a b : Nat) (d : Array (Nat × Nat)) (e : Ending) (w' : World) : Prop :=
  e = .returned (.tuple #[]) ∧ ∃ d', PermIn a b d d' ∧ SortedIn ltp a b d' ∧ Hp w' B q cap n d' ∧ Kp (fun k => k = q) w w'

set_option maxHeartbeats 12800000 in
set_option maxRecDepth 1000000 in
theorem pdqsort_p : ∀ (N a b limit : Nat) (d : Array (Nat × Nat)) (w : World), b - a < N → Hp w B q cap n d → n < 4294967296 → a ≤ b → b ≤ n → limit < 4611686018427387904 → Go.Sort.Below ltp a b d →
    Calls Tryd.prog 100 #[.iface 115 (rvp q n cap), .int .i64 a, .int .i64 b, .int .i64 limit] w (SD w B q cap n a b d) := by
  have mL := mLess (rvp q n cap); have eL := eLess
  intro N
  induction N with
  | zero => intro _ _ _ _ _ h; exact absurd h (Nat.not_lt_zero _)
  | succ N ih =>
    intro a b limit d w hN h hn hab hb hlimit hBel0
    have HS := hid h
    have HB0 := hid hBel0
    have IH := hid ih
    clear h hBel0 ih
    go_enter Tryd.func100, Tryd.ntmps100
    go_wp2
    go_loopg [1, 2, 3, 8, 9] (b - a) (fun k s1 s2 s3 s8 s9 wr => ∃ (a' b' lim : Nat) (wb wp : Bool) (dk : Array (Nat × Nat)), s1 = .int .i64 a' ∧ s2 = .int .i64 b' ∧ s3 = .int .i64 lim ∧ s8 = .bool wb ∧ s9 = .bool wp ∧
      a' ≤ b' ∧ b' ≤ n ∧ b' - a' ≤ k ∧ k ≤ b - a ∧ lim ≤ limit ∧ Hid (Hp wr B q cap n dk) ∧ Hid (Kp (fun k => k = q) w wr) ∧ Hid (Go.Sort.Below ltp a' b' dk) ∧ Hid (∀ R, PermIn a' b' dk R → SortedIn ltp a' b' R → PermIn a b d R ∧ SortedIn ltp a b R))
    case atStart => exact ⟨a, b, limit, true, true, d, rfl, rfl, rfl, rfl, rfl, hab, hb, Nat.le_refl _, Nat.le_refl _, Nat.le_refl _, HS, Kp.refl _ _, HB0, fun R h1 h2 => ⟨h1, h2⟩⟩
    case round =>
      clear HS HB0
      obtain ⟨a', b', lim, wb, wp, dk, rfl, rfl, rfl, rfl, rfl, hab', hb', hk, hkN, hlim, HP, HK, HB, HF⟩ := hrel
      by_cases h12 : b' - a' ≤ 12
      · have h12z : (b' : Int) - (a' : Int) ≤ 12 := by omega
        go_wp2_with (go_at_call 107; refine (insertionSort_p _ HP.out (by omega) a' b' hab' hb').mono ?_; rintro e w1 ⟨rfl, HP1, HK1⟩)
        (try simp only [Exit.inBlock, Exit.then]); refine bodyPost_ret (results_none rfl _ _ _) rfl ?_
        obtain ⟨q1, q2⟩ := insertionSort_holds swo_ltp dk a' b' hab' (by rw [HP.out.sz]; exact hb')
        obtain ⟨q3, q4⟩ := HF.out _ q1 q2
        exact ⟨rfl, _, q3, q4, HP1, HK.out.trans HK1⟩
      · have h12z : ¬ ((b' : Int) - (a' : Int) ≤ 12) := by omega
        by_cases hl0 : lim = 0
        · subst hl0
          go_wp2_with (go_at_call 108; refine (heapSort_p _ HP.out (by omega) a' b' hab' hb').mono ?_; rintro e w1 ⟨rfl, HP1, HK1⟩)
          (try simp only [Exit.inBlock, Exit.then]); refine bodyPost_ret (results_none rfl _ _ _) rfl ?_
          obtain ⟨q1, q2⟩ := heapSort_holds swo_ltp dk a' b' hab' (by rw [HP.out.sz]; exact hb')
          obtain ⟨q3, q4⟩ := HF.out _ q1 q2
          exact ⟨rfl, _, q3, q4, HP1, HK.out.trans HK1⟩
        · have hl0z : ¬ ((lim : Int) = 0) := by omega
          -- 'if !wasBalanced { breakPatterns; limit-- }'
          go_upto_if 35 with fail
          go_cut [3] (fun s3 wc => ∃ (l : Nat) (d1 : Array (Nat × Nat)), s3 = .int .i64 l ∧ l ≤ lim ∧ Hid (PermIn a' b' dk d1) ∧ Hid (Hp wc B q cap n d1) ∧ Hid (Kp (fun k => k = q) w wc))
          case first =>
            cases wb
            · go_wp2_with (go_at_call 109; refine (breakPatterns_p _ HP.out hn a' b' hab' hb').mono ?_; rintro e w1 ⟨rfl, d1, P1, HP1, HK1⟩)
              go_meet
              case rel => exact ⟨lim - 1, d1, (by congr 1; omega), by omega, P1, HP1, HK.out.trans HK1⟩
            · go_wp2_with fail
              go_meet
              case rel => exact ⟨lim, dk, rfl, Nat.le_refl _, permIn_refl _ _ _, HP, HK⟩
          case rest =>
            obtain ⟨l, d1, rfl, hl, P1, HP1, HK1⟩ := hcut
            clear HP HK
            go_upto_if 50 with (go_at_call 110; refine (choosePivot_p _ HP1.out hn a' b' (by omega) hb').mono ?_; rintro e w2 ⟨p, ht, rfl, hp, hht, hsi⟩)
            have HP2 : Hid (Hp w2 B q cap n d1) := HP1.out.kept (hsi.block _ HP1.out.lt.2)
            have HK2 : Hid (Kp (fun k => k = q) w w2) := HK1.out.call hsi
            have HH := hid hht
            clear HP1 HK1 hsi hht
            -- 'if hint == decreasingHint { reverseRange; pivot = ..; hint = increasingHint }'
            go_cut [11, 12] (fun s11 s12 wc => ∃ (p : Nat) (ht : Int) (d2 : Array (Nat × Nat)), s11 = .int .i64 p ∧ s12 = .int .i64 ht ∧ (a' ≤ p ∧ p < b') ∧ Hid (PermIn a' b' dk d2) ∧ Hid (Hp wc B q cap n d2) ∧ Hid (Kp (fun k => k = q) w wc))
            case first =>
              by_cases hh : ht = 2
              · subst hh
                go_wp2_with (go_at_call 111; refine (reverseRange_p _ HP2.out (by omega) a' b' hab' hb').mono ?_; rintro e w3 ⟨rfl, HP3, HK3⟩)
                go_meet
                case rel => exact ⟨(b' - 1) - (p - a'), 1, reverseRange d1 a' b', (by congr 1; omega), rfl, by omega, permIn_trans _ _ _ _ _ P1.out (reverseRange_holds d1 a' b' hab' (by rw [HP2.out.sz]; exact hb')), HP3, HK2.out.trans HK3⟩
              · go_wp2_with fail
                go_meet
                case rel => exact ⟨p, ht, d1, rfl, rfl, hp, P1, HP2, HK2⟩
            case rest =>
              clear HP2 HK2 hp HH P1
              obtain ⟨p, ht, d2, rfl, rfl, hp, P2, HP3, HK3⟩ := hcut
              -- 'wasBalanced && wasPartitioned && hint == increasingHint'
              go_upto_region 15 with fail
              go_cut [68] (fun s68 wx => ∃ v : Bool, s68 = .bool v ∧ wx = wc)
              case first =>
                cases wb <;> cases wp <;> by_cases hh : ht = 1 <;>
                  (go_wp2_with fail
                   go_meet
                   exact ⟨_, rfl, rfl⟩)
              case rest =>
                obtain ⟨v, rfl, rfl⟩ := hcut
                -- 'if .. { if partialInsertionSort(..) { return } }'
                go_upto_if 68 with fail
                go_cut [] (fun wx => ∃ d3 : Array (Nat × Nat), Hid (PermIn a' b' dk d3) ∧ Hid (Hp wx B q cap n d3) ∧ Hid (Kp (fun k => k = q) w wx))
                case first =>
                  cases v
                  · go_wp2_with fail
                    go_meet
                    case rel => exact ⟨d2, P2, HP3, HK3⟩
                  · have hpp := partialInsertionSort_holds swo_ltp d2 a' b' (by omega) (by rw [HP3.out.sz]; exact hb') (HB.out.perm (by rw [← P2.out.1, HP3.out.sz]; exact hb') P2.out)
                    have hcc := partialIns_p _ HP3.out (by omega) a' b' (by omega) hb'
                    cases hpi : (partialInsertionSort ltp d2 a' b').2 with
                    | false =>
                      rw [hpi] at hcc
                      have HPP := hid hpp.1
                      clear hpp
                      go_wp2_with (go_at_call 112; refine hcc.mono ?_; rintro e w4 ⟨rfl, HP4, HK4⟩)
                      go_meet
                      case rel => exact ⟨_, permIn_trans _ _ _ _ _ P2.out HPP.out, HP4, HK3.out.trans HK4⟩
                    | true =>
                      rw [hpi] at hcc
                      have HPP := hid (And.intro hpp.1 (hpp.2 hpi))
                      clear hpp
                      go_wp2_with (go_at_call 112; refine hcc.mono ?_; rintro e w4 ⟨rfl, HP4, HK4⟩)
                      (try simp only [Exit.inBlock, Exit.then]); refine bodyPost_ret (results_none rfl _ _ _) rfl ?_
                      obtain ⟨q3, q4⟩ := HF.out _ (permIn_trans _ _ _ _ _ P2.out HPP.out.1) HPP.out.2
                      exact ⟨rfl, _, q3, q4, HP4, HK3.out.trans HK4⟩
                case rest =>
                  clear HP3 HK3 P2
                  obtain ⟨d3, P3, HP5, HK5⟩ := hcut
                  have HB3 : Hid (Go.Sort.Below ltp a' b' d3) := HB.out.perm (by rw [← P3.out.1, HP5.out.sz]; exact hb') P3.out
                  -- 'a > 0 && !data.Less(a-1, pivot)'
                  go_upto_region 17 with fail
                  go_cut [82] (fun s82 wx => ∃ v : Bool, s82 = .bool v ∧ Hid (v = true → 0 < a' ∧ ltp d3[a' - 1]! d3[p]! = false) ∧ Hid (Hp wx B q cap n d3) ∧ Hid (Kp (fun k => k = q) w wx))
                  case first =>
                    rcases Nat.eq_zero_or_pos a' with ha0 | ha0
                    · have ha0z : decide ((a' : Int) > 0) = false := decide_eq_false (by omega)
                      have ha0p : ¬ ((0 : Int) < (a' : Int)) := by omega
                      clear ha0
                      go_wp2_with fail
                      go_meet
                      case rel => exact ⟨false, rfl, (show Hid _ from fun h => absurd h (by decide)), HP5, HK5⟩
                    · have ha0z : (0 : Int) < (a' : Int) := by omega
                      cases hlv : ltp d3[a' - 1]! d3[p]! with
                      | false =>
                        go_wp2_with (go_at_fn 140; refine (lessAt _ HP5.out (by omega) (a' - 1) p hlv (by omega) (by omega) (by omega) (by omega)).mono ?_; rintro e w' ⟨rfl, nq, rfl⟩)
                        go_meet
                        case rel => exact ⟨true, rfl, fun _ => ⟨ha0, hlv⟩, HP5.out.drewN _, HK5.out.drewN _⟩
                      | true =>
                        go_wp2_with (go_at_fn 140; refine (lessAt _ HP5.out (by omega) (a' - 1) p hlv (by omega) (by omega) (by omega) (by omega)).mono ?_; rintro e w' ⟨rfl, nq, rfl⟩)
                        go_meet
                        case rel => exact ⟨false, rfl, (show Hid _ from fun h => absurd h (by decide)), HP5.out.drewN _, HK5.out.drewN _⟩
                  case rest =>
                    clear HP5 HK5
                    obtain ⟨v, rfl, HV, HP6, HK6⟩ := hcut
                    have hsz3 := HP6.out.sz
                    cases v
                    · -- 'mid, alreadyPartitioned := partition(..)'; the smaller side by a call of itself, the other by the next round
                      obtain ⟨mid, ap, d4, hx⟩ : ∃ mid ap d4, partition ltp d3 a' b' p = (mid, ap, d4) := ⟨(partition ltp d3 a' b' p).1, (partition ltp d3 a' b' p).2.1, (partition ltp d3 a' b' p).2.2, rfl⟩
                      obtain ⟨r1, r2, r3, r4, r5, r6, r7⟩ := round_part swo_ltp (partition_holds ltp) hp.1 hp.2 (show b' ≤ d3.size by omega) HB3.out hx
                      have hcc := partition_p _ HP6.out (by omega) a' b' p hp.1 hp.2 hb'
                      rw [hx] at hcc
                      have R4 := hid r4
                      have R5 := hid r5
                      have R6 := hid r6
                      have R7 := hid r7
                      clear r4 r5 r6 r7 hx r3 hsz3
                      go_upto_if 108 with (go_at_call 114; refine hcc.mono ?_; rintro e w7 ⟨rfl, HP7, HK7⟩)
                      have HP7' := hid HP7
                      have HK7' := hid (HK6.out.trans HK7)
                      clear HP7 HK7 HP6 HK6 hcc
                      by_cases h4 : mid - a' < b' - mid
                      · have h4z : (mid : Int) - (a' : Int) < (b' : Int) - (mid : Int) := by omega
                        go_wp2_with (go_at_call 100; refine (IH.out a' mid l d4 _ (by omega) HP7'.out hn (by omega) (by omega) (by omega) R4.out).mono ?_; rintro e w8 ⟨rfl, d8, P8, S8, HP8, HK8⟩)
                        go_roundg (b' - (mid + 1))
                        case measure => omega
                        case rel =>
                          obtain ⟨q1, q2⟩ := R6.out d8 P8 S8
                          exact ⟨mid + 1, b', l, _, ap, d8, by simp, rfl, rfl, rfl, rfl, by omega, by omega, Nat.le_refl _, by omega, by omega, HP8, HK7'.out.trans HK8, q1, fun R h1 h2 => HF.out R (permIn_trans _ _ _ _ _ P3.out (q2 R h1 h2).1) (q2 R h1 h2).2⟩
                      · have h4z : ¬ ((mid : Int) - (a' : Int) < (b' : Int) - (mid : Int)) := by omega
                        have hcast : ((mid + 1 : Nat) : Int) = (mid : Int) + 1 := by omega
                        have hih := IH.out (mid + 1) b' l d4 w7 (by omega) HP7'.out hn (by omega) (by omega) (by omega) R5.out
                        rw [hcast] at hih
                        go_wp2_with (go_at_call 100; refine hih.mono ?_; rintro e w8 ⟨rfl, d8, P8, S8, HP8, HK8⟩)
                        go_roundg (mid - a')
                        case measure => omega
                        case rel =>
                          obtain ⟨q1, q2⟩ := R7.out d8 P8 S8
                          exact ⟨a', mid, l, _, ap, d8, rfl, rfl, rfl, rfl, rfl, by omega, by omega, Nat.le_refl _, by omega, by omega, HP8, HK7'.out.trans HK8, q1, fun R h1 h2 => HF.out R (permIn_trans _ _ _ _ _ P3.out (q2 R h1 h2).1) (q2 R h1 h2).2⟩
                    · -- 'mid := partitionEqual(..); a = mid; continue'
                      obtain ⟨ha0, hnl⟩ := HV.out rfl
                      obtain ⟨mid, d4, hx⟩ : ∃ mid d4, partitionEqual ltp d3 a' b' p = (mid, d4) := ⟨(partitionEqual ltp d3 a' b' p).1, (partitionEqual ltp d3 a' b' p).2, rfl⟩
                      obtain ⟨r1, r2, r3, r4, r5⟩ := round_eq swo_ltp (partitionEqual_holds ltp) ha0 hp.1 hp.2 (show b' ≤ d3.size by omega) HB3.out hnl hx
                      have hcc := partitionEqual_p _ HP6.out (by omega) a' b' p hp.1 hp.2 hb'
                      rw [hx] at hcc
                      have R4 := hid r4
                      have R5 := hid r5
                      clear r4 r5 hx r3 hsz3 hnl
                      go_wp2_with (go_at_call 113; refine hcc.mono ?_; rintro e w7 ⟨rfl, HP7, HK7⟩)
                      go_roundg (b' - mid)
                      case measure => omega
                      case rel => exact ⟨mid, b', l, wb, wp, d4, rfl, rfl, rfl, rfl, rfl, r2, hb', Nat.le_refl _, by omega, by omega, HP7, HK6.out.trans HK7, R4, fun R h1 h2 => HF.out R (permIn_trans _ _ _ _ _ P3.out (R5.out R h1 h2).1) (R5.out R h1 h2).2⟩

set_option maxHeartbeats 1000000 in
theorem sort_p (w : World) {d : Array (Nat × Nat)} (h : Hp w B q cap n d) (hn : n < 4294967296) :
    Calls Tryd.prog 94 #[.iface 115 (rvp q n cap)] w (SD w B q cap n 0 n d) := by
  have mN := mLen (rvp q n cap); have eN := eLen
  have wr : IntKind.u64.wrap (n : Int) = n := by simp [IntKind.wrap, IntKind.bits, IntKind.signed]; omega
  have HS := hid h
  clear h
  by_cases h1 : n ≤ 1
  · have h1z : (n : Int) ≤ 1 := by omega
    go_enter Tryd.func94, Tryd.ntmps94
    go_wp2_with (go_at_fn 139; refine (len_p _).mono ?_; rintro e w' ⟨rfl, rfl⟩)
    (try simp only [Exit.inBlock, Exit.then]); refine bodyPost_ret (results_none rfl _ _ _) rfl ?_
    exact ⟨rfl, d, permIn_refl _ _ _, fun i j _ _ _ => by omega, HS.out, Kp.refl _ _⟩
  · have h1z : ¬ (n : Int) ≤ 1 := by omega
    have hl : bitsLen n < 4611686018427387904 := Nat.lt_of_le_of_lt ((bitsLen_le_iff n 62).2 (by omega)) (by omega)
    go_enter Tryd.func94, Tryd.ntmps94
    go_wp2_with (first
      | (go_at_fn 139; refine (len_p _).mono ?_; rintro e w' ⟨rfl, rfl⟩)
      | (go_at_call 99; refine (len_bits n hn _).mono ?_; rintro e w' ⟨rfl, rfl⟩)
      | (go_at_call 100; refine (pdqsort_p (n + 1) 0 n (bitsLen n) d _ (by omega) HS.out hn (Nat.zero_le _) (Nat.le_refl _) hl (.inl rfl)).mono ?_; rintro e w' ⟨rfl, d', P, S, HP, HK⟩))
    go_end0
    exact ⟨rfl, d', P, S, HP, HK⟩
end

set_option maxHeartbeats 1000000 in
/-- No pairs. -/
theorem sort_nil (w : World) (c : Nat) : Calls Tryd.prog 94 #[.iface 115 (.slice none 0 c)] w fun e w' => e = .returned (.tuple #[]) ∧ w' = w := by
  have mN := mLen (.slice none 0 c); have eN := eLen
  have hL : ∀ w, Calls Tryd.prog 139 #[.slice none 0 c] w fun e w' => e = .returned (.int .i64 0) ∧ w' = w := fun w => by
    go_enter Tryd.func139, Tryd.ntmps139
    go_wp2
    go_ret
    exact ⟨rfl, rfl⟩
  go_enter Tryd.func94, Tryd.ntmps94
  go_wp2_with (go_at_fn 139; refine (hL _).mono ?_; rintro e w' ⟨rfl, rfl⟩)
  (try simp only [Exit.inBlock, Exit.then]); refine bodyPost_ret (results_none rfl _ _ _) rfl ?_
  exact ⟨rfl, rfl⟩
end Go.Proofs.YtkocpijloiamcaaDoor
