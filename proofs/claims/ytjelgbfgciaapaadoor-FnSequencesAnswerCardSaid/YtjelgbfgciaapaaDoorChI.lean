/- spec.levelBeside, spec.Direction, spec.Chains; the end of a sequence, the program's and the reference's. -/
import Derived.Test.YtjelgbfgciaapaaDoorIrs
import Derived.Deep.LoopGhost
import Derived.Test.YtjelgbfgciaapaaDoorSeqI
import Derived.Test.YtjelgbfgciaapaaDoorJn
import Derived.Lib.MinMax
import Derived.Test.YtjelgbfgciaapaaDoorLawX
namespace Go.Proofs.YtjelgbfgciaapaaDoor
open Go.RowKit
set_option linter.unusedVariables false

theorem lastL_skip {lv : Nat → Int} {j : Nat} : ∀ k, j ≤ k → (∀ t, j ≤ t → t < k → lv t = -1) → lastL lv k = lastL lv j
  | 0, h, _ => by rw [show j = 0 by omega]
  | k + 1, h, hall => by
    by_cases e : j = k + 1
    · rw [e]
    · have h2 : lastL lv (k + 1) = lastL lv k := (rs_rem (hall k (by omega) (by omega))).2
      rw [h2]
      exact lastL_skip k (by omega) (fun t h1 h2 => hall t h1 (by omega))

set_option maxHeartbeats 1000000 in
theorem before_any {ao : Option Addr} {b o n c : Nat} {lv : Nat → Int} {k : Nat} {base : Int} (w : World) (hn : n ≤ 4294967296) (hk : k < n) (hx : Sees w ao b o n c (fun i => .int .i64 (lv i))) :
    Calls Tryd.prog 39 #[.slice ao n c, .int .i64 k, .int .i64 (-1), .int .i64 base] w fun e w' => e = .returned (.int .i64 (befL lv base k)) ∧ w = w' := by
  have HSK := Lib.hid (fun (j : Nat) (h : j ≤ k) (hall : ∀ t, j ≤ t → t < k → lv t = -1) => lastL_skip (lv := lv) k h hall)
  go_enter Tryd.func39, Tryd.ntmps39
  go_wp2_with fail
  go_loopg [9] k (fun g i wr => ∃ j : Nat, j ≤ k ∧ g = k - (k - j) ∧ i = .int .i64 ((j : Int) - 1) ∧ Hid (∀ t, j ≤ t → t < k → lv t = -1) ∧ w = wr)
  case atStart => exact ⟨k, Nat.le_refl _, by omega, by go_num, (fun t h1 h2 => by omega), rfl⟩
  case round =>
    obtain ⟨j, hj, rfl, rfl, HA, rfl⟩ := hrel
    by_cases h0 : j = 0
    · subst h0
      have HV := Lib.hid (show befL lv base k = base from by
        unfold befL
        rw [HSK.out 0 (by omega) HA.out]; rfl)
      go_wp2_with fail
      go_ret
      exact ⟨by rw [HV.out]; rfl, rfl⟩
    · obtain ⟨m, rfl⟩ : ∃ m, j = m + 1 := ⟨j - 1, by omega⟩
      obtain ⟨rfl, hc⟩ := hx.get (show m < n by omega)
      have hm : ((m + 1 : Nat) : Int) - 1 = (m : Int) := by omega
      have hmz : (m : Int) < (n : Int) := by omega
      rw [hm]
      have HLV := Lib.hid (show lv m ≠ -1 → befL lv base k = lv m from fun h => by
        unfold befL
        rw [HSK.out (m + 1) hj HA.out, lastL_of h, if_neg h])
      obtain ⟨v, hv⟩ : ∃ v, v = lv m := ⟨_, rfl⟩
      rw [← hv] at hc HLV
      have HV := Lib.hid hv
      clear hv
      by_cases hr : v = -1
      · have hb : (v != -1) = false := by rw [hr]; rfl
        have HR := Lib.hid hr
        clear hr
        go_wp2_with fail
        go_roundg (k - (k - m))
        case rel => exact ⟨m, by omega, rfl, by go_num, (fun t h1 h2 => by
          by_cases e : t = m
          · rw [e, ← HV.out, HR.out]
          · exact HA.out t (by omega) h2), rfl⟩
        case measure => omega
      · have hb : (v != -1) = true := by simpa using hr
        have HB := Lib.hid (HLV.out hr)
        clear hr
        go_wp2_with fail
        go_ret
        exact ⟨by rw [HB.out]; rfl, rfl⟩

set_option maxHeartbeats 1000000 in
theorem behind_any {ao : Option Addr} {b o n c : Nat} {lv : Nat → Int} {k : Nat} {base : Int} (w : World) (hn : n ≤ 4294967296) (hk : k < n) (hx : Sees w ao b o n c (fun i => .int .i64 (lv i))) :
    Calls Tryd.prog 39 #[.slice ao n c, .int .i64 k, .int .i64 1, .int .i64 base] w fun e w' => e = .returned (.int .i64 (aftL lv base (n - (k + 1)) (k + 1))) ∧ w = w' := by
  go_enter Tryd.func39, Tryd.ntmps39
  go_wp2_with fail
  go_loopg [9] (n - (k + 1)) (fun g i wr => ∃ j : Nat, j ≤ n ∧ g = n - j ∧ i = .int .i64 j ∧ Hid (aftL lv base (n - (k + 1)) (k + 1) = aftL lv base (n - j) j) ∧ w = wr)
  case atStart => exact ⟨k + 1, by omega, rfl, by go_num, rfl, rfl⟩
  case round =>
    obtain ⟨j, hj, rfl, rfl, HA, rfl⟩ := hrel
    by_cases hlt : j < n
    · obtain ⟨rfl, hc⟩ := hx.get hlt
      have hjz : (j : Int) < (n : Int) := by omega
      have HS := Lib.hid (show aftL lv base (n - j) j = if lv j = -1 then aftL lv base (n - (j + 1)) (j + 1) else lv j from by
        rw [show n - j = (n - (j + 1)) + 1 by omega]; rfl)
      obtain ⟨v, hv⟩ : ∃ v, v = lv j := ⟨_, rfl⟩
      rw [← hv] at hc HS
      clear hv
      by_cases hr : v = -1
      · have hb : (v != -1) = false := by rw [hr]; rfl
        have HR := Lib.hid (HA.out.trans (HS.out.trans (if_pos hr)))
        clear hr
        go_wp2_with fail
        go_roundg (n - (j + 1))
        case rel => exact ⟨j + 1, by omega, rfl, by go_num, HR.out, rfl⟩
        case measure => omega
      · have hb : (v != -1) = true := by simpa using hr
        have HR := Lib.hid (HA.out.trans (HS.out.trans (if_neg hr)))
        clear hr
        go_wp2_with fail
        go_ret
        exact ⟨by rw [HR.out]; rfl, rfl⟩
    · obtain rfl : j = n := by omega
      have HR := Lib.hid (HA.out.trans (show aftL lv base (j - j) j = base from by rw [Nat.sub_self]; rfl))
      go_wp2_with fail
      go_ret
      exact ⟨by rw [HR.out]; rfl, rfl⟩

theorem direction_any {l : Int} (w : World) (h0 : 0 ≤ l) (h1 : l ≤ 125) : Calls Tryd.prog 40 #[.int .i64 l] w fun e w' => e = .returned (.int .i64 (dirN l)) ∧ w = w' := by
  have hr : l = 2 * (l / 2) + dirN l := by unfold dirN; omega
  by_cases hev : dirN l = 1
  · have ht : Int.tmod l 2 = 1 := by rw [Int.tmod_eq_emod_of_nonneg h0]; exact hev
    rw [hev]
    clear hr
    go_enter Tryd.func40, Tryd.ntmps40
    go_wp2_with fail
    go_ret
    exact ⟨rfl, rfl⟩
  · have hd0 : dirN l = 0 := by unfold dirN at *; omega
    have ht : Int.tmod l 2 = 0 := by rw [Int.tmod_eq_emod_of_nonneg h0]; exact hd0
    rw [hd0]
    clear hr hev
    go_enter Tryd.func40, Tryd.ntmps40
    go_wp2_with fail
    go_ret
    exact ⟨rfl, rfl⟩

/-- The end of a sequence, as the reference finds it. -/
def eoS (x fs : Nat → Int) (base : Int) (n : Nat) (l : List Nat) : Int :=
  dirN (max (lvl x fs base (hd0 l)) (if iniN x (lst0 l) = true then base else aftL (lvR x fs base) base (n - (lst0 l + 1)) (lst0 l + 1)))
def soS (x fs : Nat → Int) (base : Int) (n : Nat) (l : List Nat) : Int := dirN (max (lvl x fs base (hd0 l)) (befL (lvR x fs base) base (hd0 l)))
def gS (x fs : Nat → Int) (base : Int) (n : Nat) (l : List Nat) : List Value := [.int .i64 (lvl x fs base (hd0 l)), .int .i64 (soS x fs base n l), .int .i64 (eoS x fs base n l)]

theorem Tryd.underlyingCS : Tryd.prog.underlying 35 = some (.slice 40) := by kernel_rfl
theorem Tryd.infoCS : (Tryd.prog.info? 40).map (fun i => (i.zero, i.size, i.bytes)) = some (some (.agg #[.slice none 0 0, .int .i64 0, .int .i64 0, .int .i64 0]), 4, 48) := by kernel_rfl

theorem befL_range {x fs : Nat → Int} {base : Int} (hb : base = 0 ∨ base = 1) (k : Nat) : 0 ≤ befL (lvR x fs base) base k ∧ befL (lvR x fs base) base k ≤ 125 := by
  have key : ∀ k, -1 ≤ lastL (lvR x fs base) k ∧ lastL (lvR x fs base) k ≤ 125 := by
    intro k
    induction k with
    | zero => show -1 ≤ (-1 : Int) ∧ (-1 : Int) ≤ 125; omega
    | succ k ih =>
      rw [lastL]
      split
      · exact ih
      · exact lvR_range hb k
  have := key k
  unfold befL
  split <;> omega

theorem aftL_range {x fs : Nat → Int} {base : Int} (hb : base = 0 ∨ base = 1) : ∀ f k, 0 ≤ aftL (lvR x fs base) base f k ∧ aftL (lvR x fs base) base f k ≤ 125
  | 0, k => by rw [aftL]; omega
  | f + 1, k => by
    rw [aftL]
    have := lvR_range (x := x) (fs := fs) hb k
    split
    · exact aftL_range hb f (k + 1)
    · omega

set_option maxHeartbeats 8000000 in
set_option maxRecDepth 100000 in
theorem specChains_any {ao a2 : Option Addr} {b o cc b2 o2 c2 n : Nat} {x fs : Nat → Int} {base : Int} (w : World) (hn : n ≤ 4294967296) (hb : base = 0 ∨ base = 1) (hB : ∀ i, i < n → x i = 7 → n ≤ i + 1)
    (hx : Sees w ao b o n cc (fun i => .int .i64 (x i))) (hlv : Sees w a2 b2 o2 n c2 (fun i => .int .i64 (lvR x fs base i))) :
    Calls Tryd.prog 22 #[.slice ao n cc, .slice a2 n c2, .int .i64 base] w fun e w' => ∃ v, e = .returned v ∧ Sq4 w' w.heap.size 40 v (seqs x fs base n) (gS x fs base n) ∧ w.Since w.heap.size w' := by
  have HBB := Lib.hid hb
  have HIS := Lib.hid (fun l (h : l ∈ seqs x fs base n) => seqs_is hb hB h)
  have HLEN := seqs_len (x := x) (fs := fs) (base := base) (n := n)
  have HJN := Lib.hid (fun w' s => joined_any (x := x) (fs := fs) w' hn hb hB (hx.since s) (hlv.since s))
  have HRB := Lib.hid (fun k => befL_range (x := x) (fs := fs) hb k)
  have HRA := Lib.hid (fun f k => aftL_range (x := x) (fs := fs) hb f k)
  have HRL := Lib.hid (show ∀ i, 0 ≤ lvl x fs base i ∧ lvl x fs base i ≤ 125 from fun i => by
    have := lvl_range (x := x) (fs := fs) (base := base) (by omega) (by omega) i
    omega)
  clear hb hB
  go_enter Tryd.func22, Tryd.ntmps22
  go_wp2_with fail
  refine (matching_any _ hn hx).mono ?_
  rintro e w1 ⟨am, bm, om, cm, rfl, hM, hbm, hs1⟩
  have H0 := Gw.empty w1 w1.heap.size 40 4 (fun _ => []) (Nat.le_refl _)
  have hsE : w.Since w.heap.size (w1.alloc (.cells #[] 40)) := hs1.alloc hs1.size _
  have hzE : (w1.alloc (.cells #[] 40)).heap.size = w1.heap.size + 1 := by rw [World.size_alloc]
  have hM1 := hM.since ((World.Since.refl _ _ : w1.Since w1.heap.size w1).alloc (Nat.le_refl _) (.cells #[] 40))
  have hMb : 0 < n → bm < w1.heap.size := fun h => hM.lt h
  have hzz := hs1.size
  go_wp2_with fail
  refine (HJN.out _ hsE).mono ?_
  rintro e w2 ⟨v, rfl, hLL, hs2⟩
  have hs02 := since2 hsE hs2
  have hx2 := hx.since hs02
  have hl2 := hlv.since hs02
  have hM2 := hM1.since hs2
  have H2 := H0.since hs2
  have hxb : 0 < n → b < w.heap.size := fun h => hx.lt h
  have hlb : 0 < n → b2 < w.heap.size := fun h => hlv.lt h
  have hz2 := hs2.size
  rw [hzE] at hz2
  have hLL' : LL w2 (w1.heap.size + 1) v (seqs x fs base n) := by rw [← hzE]; exact hLL
  obtain ⟨L, hL⟩ : ∃ L, L = seqs x fs base n := ⟨_, rfl⟩
  rw [← hL] at hLL' HIS HLEN
  obtain ⟨fR, q1, q2, _, _⟩ := hLL'
  obtain ⟨av, cv, rfl⟩ := q1.len
  have HL := Lib.hid hL
  have HQ1 := Lib.hid q1
  have HQ2 := Lib.hid q2
  have HXB := Lib.hid hxb
  have HLB := Lib.hid hlb
  have HMB := Lib.hid hMb
  clear HJN hLL hs1 hsE hs2 hM hM1 H0 hL q1 q2 hzE hx hlv hxb hlb hMb
  go_wp2_with fail
  go_loopg [8, 10, 11, 12, 13, 14, 22] L.length (fun g out _ _ _ _ _ i wr => ∃ k : Nat, k ≤ L.length ∧ g = L.length - k ∧ i = .int .i64 k ∧ Sq4 wr w.heap.size 40 out (L.take k) (gS x fs base n) ∧ (∀ q, out.ownBlock = some q → q = w1.heap.size ∨ w2.heap.size ≤ q) ∧ Kp (fun q => q = w1.heap.size) w2 wr)
  case atStart => exact ⟨0, Nat.zero_le _, rfl, rfl, ⟨_, ⟨H2.1, by
    rcases H2.2 with hn | ⟨g', cap, cur, h1, hb2, rest⟩
    · exact .inl hn
    · exact .inr ⟨g', cap, cur, h1, Nat.le_trans hzz hb2, rest⟩⟩, fun j hj => absurd hj (Nat.not_lt_zero _)⟩, fun q hq => by simp only [Value.ownBlock, Option.some.injEq] at hq; exact .inl hq.symm, Kp.refl _ _⟩
  case round =>
    clear H2
    obtain ⟨k, hk, rfl, rfl, hQ, hob, hkp⟩ := hrel
    by_cases hkn : k < L.length
    · have hkz : (k : Int) < (L.length : Int) := by omega
      have hg1 := HQ1.out.kept' (fun q hq => hkp.block q (HQ1.out.ge q hq).2 (by have := (HQ1.out.ge q hq).1; omega))
      have hg2 := (HQ2.out k hkn).kept' (fun q hq => hkp.block q ((HQ2.out k hkn).ge q hq).2 (by have := ((HQ2.out k hkn).ge q hq).1; omega))
      obtain ⟨bv, hbv, hsv⟩ := hg1.see
      obtain ⟨rfl, hc⟩ := hsv.get hkn
      obtain ⟨a3, c3, hv3⟩ := hg2.len
      rw [hv3] at hg2 hc
      obtain ⟨b3, hb3, hs3⟩ := hg2.see
      obtain ⟨l, hl⟩ : ∃ l, l = L.getD k [] := ⟨_, rfl⟩
      rw [← hl] at hg2 hc hs3
      rw [Nat.zero_add] at hc
      have hlm : l ∈ L := by rw [hl]; exact getD_memL hkn
      have hI := HIS.out l hlm
      have hlp : 0 < l.length := List.length_pos_iff.2 hI.ne
      have hln := hI.len
      obtain ⟨rfl, hc0⟩ := hs3.get hlp
      obtain ⟨_, hcl⟩ := hs3.get (show l.length - 1 < l.length by omega)
      have hb3lt := hs3.lt hlp
      have hb3w : b3 < w2.heap.size := by
        have h := HQ2.out k hkn
        rw [hv3] at h
        exact (h.ge b3 rfl).2
      change _ = some (Value.int .i64 ((hd0 l : Nat) : Int)) at hc0
      change _ = some (Value.int .i64 ((lst0 l : Nat) : Int)) at hcl
      rw [Nat.zero_add] at hc0 hcl
      have hyn := hI.lt _ (hd0_mem hI.ne)
      have hzn := hI.lt _ (lst0_mem hI.ne)
      have hyr := lvR_of (fs := fs) (base := base) (hI.nr _ (hd0_mem hI.ne))
      have HLS := Lib.hid hI.last
      have HTS := Lib.hid (show L.take (k + 1) = L.take k ++ [l] by rw [hl]; exact take_snoc hkn)
      obtain ⟨y, hy⟩ : ∃ y, y = hd0 l := ⟨_, rfl⟩
      obtain ⟨z, hz⟩ : ∃ z, z = lst0 l := ⟨_, rfl⟩
      rw [← hy] at hc0 hyn hyr
      rw [← hz] at hcl hzn HLS
      have hx3 := hkp.sees hx2 (fun h => by have := HXB.out h; omega)
      have hl3 := hkp.sees hl2 (fun h => by have := HLB.out h; omega)
      have hM3 := hkp.sees hM2 (fun h => by have := HMB.out h; omega)
      obtain ⟨rfl, hcx⟩ := hx3.get hzn
      obtain ⟨rfl, hcy⟩ := hl3.get hyn
      obtain ⟨rfl, hcm⟩ := hM3.get hzn
      rw [hyr] at hcy
      have hrl := HRL.out y
      have hrb := HRB.out y
      have hra := HRA.out (n - (z + 1)) (z + 1)
      obtain ⟨lv0, hlv0⟩ : ∃ lv0, lv0 = lvl x fs base y := ⟨_, rfl⟩
      obtain ⟨bf, hbf⟩ : ∃ bf, bf = befL (lvR x fs base) base y := ⟨_, rfl⟩
      obtain ⟨af, haf⟩ : ∃ af, af = aftL (lvR x fs base) base (n - (z + 1)) (z + 1) := ⟨_, rfl⟩
      rw [← hlv0] at hcy hrl
      rw [← hbf] at hrb
      rw [← haf] at hra
      obtain ⟨eh, heh⟩ : ∃ eh, eh = if iniN x z = true then base else af := ⟨_, rfl⟩
      have hreh : 0 ≤ eh ∧ eh ≤ 125 := by rw [heh]; have := HBB.out; split <;> omega
      have HGG := Lib.hid (show gS x fs base n l = [.int .i64 lv0, .int .i64 (dirN (max lv0 bf)), .int .i64 (dirN (max lv0 eh))] by
        unfold gS soS eoS
        rw [← hy, ← hz, ← hlv0, ← hbf, ← haf, ← heh])
      have HBF := Lib.hid hbf
      have HAF := Lib.hid haf
      have HEH := Lib.hid heh
      obtain ⟨G, hG, hQG⟩ := hQ
      have hlt : (L.take k).length = k := by rw [List.length_take]; omega
      rw [hlt] at hG
      obtain ⟨ao5, c5, rfl⟩ := hG.len
      have hwr := hkp.size
      have HOB := Lib.hid hob
      have HTL := Lib.hid hlt
      have HHQ := Lib.hid hQG
      have HHG := Lib.hid hG
      have HHS := Lib.hid hs3
      obtain ⟨len, hlen⟩ : ∃ len, len = l.length := ⟨_, rfl⟩
      rw [← hlen] at hc hcl hln hlp
      have HLE := Lib.hid hlen
      obtain ⟨mz, hmz⟩ : ∃ mz, mz = mt (iniN x) (pdiN x) n z := ⟨_, rfl⟩
      rw [← hmz] at hcm
      have HMZ := Lib.hid hmz
      have h0l : (0 : Int) < (len : Int) := by omega
      have h1l : (1 : Int) ≤ (len : Int) := by omega
      have hynz : (y : Int) < (n : Int) := by omega
      have hznz : (z : Int) < (n : Int) := by omega
      clear hl hlm hI hyr hy hz hlv0 hbf haf heh hob hlt hQG hG hlen hmz hg1 hg2 hsv hs3 hv3 hM3 hkn
      have hk64 : k ≤ 4294967296 := by omega
      have hwz : w.heap.size ≤ wr.heap.size := by omega
      obtain ⟨hrl1, hrl2⟩ := hrl
      obtain ⟨hrb1, hrb2⟩ := hrb
      obtain ⟨hre1, hre2⟩ := hreh
      have hm1 : 0 ≤ max lv0 bf := by omega
      have hm2 : max lv0 bf ≤ 125 := by omega
      have hm3 : 0 ≤ max lv0 eh := by omega
      have hm4 : max lv0 eh ≤ 125 := by omega
      go_wp2_with fail
      refine (before_any _ hn hyn hl3).mono ?_
      rintro e w3 ⟨rfl, rfl⟩
      rw [← HBF.out]
      go_wp2_with fail
      refine (isInitiator_any _ _).mono ?_
      rintro e w4 ⟨rfl, rfl⟩
      cases hin : iniN x z with
      | true =>
        have hi : iniB (x z) = true := hin
        have hmn : ¬ mz < (n : Int) := by
          have h1 := HLS.out hin
          have h2 := mt_ini (pdi := pdiN x) (n := n) hin
          rw [← HMZ.out] at h2
          omega
        have HEE := Lib.hid (show base = eh by rw [HEH.out, hin, if_pos rfl])
        rw [hi]
        clear hin hi
        go_wp2_with fail
        refine (direction_any _ hm1 hm2).mono ?_
        rintro e w5 ⟨rfl, rfl⟩
        go_wp2_with fail
        refine (direction_any _ (by rw [HEE.out]; exact hm3) (by rw [HEE.out]; exact hm4)).mono ?_
        rintro e w6 ⟨rfl, rfl⟩
        obtain ⟨so, hso⟩ : ∃ so, so = dirN (max lv0 bf) := ⟨_, rfl⟩
        obtain ⟨eo, heo⟩ : ∃ eo, eo = dirN (max lv0 base) := ⟨_, rfl⟩
        have HG4 := Lib.hid (show gS x fs base n l = [.int .i64 lv0, .int .i64 so, .int .i64 eo] by rw [HGG.out, ← HEE.out, hso, heo])
        rw [← hso, ← heo]
        clear hso heo hcl hc0 hcx hcy hcm hx3 hl3
        go_wp2_with (at_builtin; go_must (refine wpList_pushW wr rfl _ _ 35 rfl w.heap.size 40 (.agg #[.slice none 0 0, .int .i64 0, .int .i64 0, .int .i64 0]) 4 48 Tryd.underlyingCS Tryd.infoCS rfl (by omega) _ k G [.slice (some ⟨b3, 0, none⟩) len c3, .int .i64 lv0, .int .i64 so, .int .i64 eo] (by rfl) HHG.out (by rfl) rfl (fun u hu => by simp at hu; rcases hu with rfl | rfl | rfl | rfl <;> rfl) hk64 (by omega) hwz ?_))
        intro v' w7 hg7 hgr7 hat7
        have hQ7 := HHQ.out.push HHS.out (fun q hq _ => by
          rcases HOB.out q hq with h | h <;> omega) (by rw [HTL.out, HG4.out, ← HLE.out]; exact hg7) hgr7 hat7
        rw [← HTS.out] at hQ7
        have hkp7 : Kp (fun q => q = w1.heap.size) w2 w7 := (hkp.alloc _).grown hgr7 (fun q hq => HOB.out q hq)
        have hob7 : ∀ q, v'.ownBlock = some q → q = w1.heap.size ∨ w2.heap.size ≤ q := fun q hq => by
          rcases hat7 with e | e
          · exact HOB.out q (by rw [← e]; exact hq)
          · rw [e] at hq
            simp only [Option.some.injEq] at hq
            right; omega
        clear hg7 hgr7 hat7
        go_wp2_with fail
        go_roundg (L.length - (k + 1))
        case rel => exact ⟨k + 1, by omega, rfl, by go_num, hQ7, hob7, hkp7⟩
        case measure => omega
      | false =>
        have hi : iniB (x z) = false := hin
        have HEE := Lib.hid (show af = eh by rw [HEH.out, hin, if_neg (by decide)])
        rw [hi]
        clear hin hi
        go_wp2_with fail
        refine (behind_any _ hn hzn hl3).mono ?_
        rintro e w4 ⟨rfl, rfl⟩
        rw [← HAF.out]
        go_wp2_with fail
        refine (direction_any _ hm1 hm2).mono ?_
        rintro e w5 ⟨rfl, rfl⟩
        go_wp2_with fail
        refine (direction_any _ (by rw [HEE.out]; exact hm3) (by rw [HEE.out]; exact hm4)).mono ?_
        rintro e w6 ⟨rfl, rfl⟩
        obtain ⟨so, hso⟩ : ∃ so, so = dirN (max lv0 bf) := ⟨_, rfl⟩
        obtain ⟨eo, heo⟩ : ∃ eo, eo = dirN (max lv0 af) := ⟨_, rfl⟩
        have HG4 := Lib.hid (show gS x fs base n l = [.int .i64 lv0, .int .i64 so, .int .i64 eo] by rw [HGG.out, ← HEE.out, hso, heo])
        rw [← hso, ← heo]
        clear hso heo hcl hc0 hcx hcy hcm hx3 hl3
        go_wp2_with (at_builtin; go_must (refine wpList_pushW wr rfl _ _ 35 rfl w.heap.size 40 (.agg #[.slice none 0 0, .int .i64 0, .int .i64 0, .int .i64 0]) 4 48 Tryd.underlyingCS Tryd.infoCS rfl (by omega) _ k G [.slice (some ⟨b3, 0, none⟩) len c3, .int .i64 lv0, .int .i64 so, .int .i64 eo] (by rfl) HHG.out (by rfl) rfl (fun u hu => by simp at hu; rcases hu with rfl | rfl | rfl | rfl <;> rfl) hk64 (by omega) hwz ?_))
        intro v' w7 hg7 hgr7 hat7
        have hQ7 := HHQ.out.push HHS.out (fun q hq _ => by
          rcases HOB.out q hq with h | h <;> omega) (by rw [HTL.out, HG4.out, ← HLE.out]; exact hg7) hgr7 hat7
        rw [← HTS.out] at hQ7
        have hkp7 : Kp (fun q => q = w1.heap.size) w2 w7 := (hkp.alloc _).grown hgr7 (fun q hq => HOB.out q hq)
        have hob7 : ∀ q, v'.ownBlock = some q → q = w1.heap.size ∨ w2.heap.size ≤ q := fun q hq => by
          rcases hat7 with e | e
          · exact HOB.out q (by rw [← e]; exact hq)
          · rw [e] at hq
            simp only [Option.some.injEq] at hq
            right; omega
        clear hg7 hgr7 hat7
        go_wp2_with fail
        go_roundg (L.length - (k + 1))
        case rel => exact ⟨k + 1, by omega, rfl, by go_num, hQ7, hob7, hkp7⟩
        case measure => omega
    · obtain rfl : k = L.length := by omega
      rw [List.take_length] at hQ
      go_wp2_with fail
      go_ret
      exact ⟨_, rfl, by rw [← HL.out]; exact hQ, since_kp hs02 hkp hs02.size (fun q hq => by omega)⟩

theorem eo_same {x fs : Nat → Int} {base : Int} {n : Nat} {l : List Nat} (hb : base = 0 ∨ base = 1) (hok : ∀ i, i < n → clsOk (x i)) (h : SeqIs x base n l) (hop : iniN x (lst0 l) = true → tS x fs base (lst0 l) = x (lst0 l)) :
    eoV x fs (fun i => cls (tI x fs base i)) base n l = eoS x fs base n l := by
  have hm := lst0_mem h.ne
  have hn := h.lt _ hm
  have hr := h.nr _ hm
  unfold eoV eoS eosL
  rw [Int.max_comm]
  congr 2
  have hx := hok _ hn
  cases hi : iniN x (lst0 l) with
  | true =>
    have h22 : x (lst0 l) ≠ 22 := fun e => by
      unfold iniN at hi
      rw [e] at hi; exact absurd hi (by decide)
    have ht : tI x fs base (lst0 l) = x (lst0 l) := by
      rw [tI_eq_tS (by omega) hr, if_neg h22]; exact hop hi
    rw [if_pos rfl, if_pos (by show memB [21, 22, 23] (cls (tI x fs base (lst0 l))) = true; rw [ht, cls_ini hx]; exact hi)]
  | false =>
    have hf : memB [21, 22, 23] (cls (tI x fs base (lst0 l))) = false := by
      rw [cls_ini (tI_ok hx (by omega))]
      by_cases h22 : x (lst0 l) = 22
      · have : tI x fs base (lst0 l) = 22 := by unfold tI; rw [if_pos (by omega)]; exact h22
        rw [this]; rfl
      · rw [tI_eq_tS (by omega) hr, if_neg h22]
        have hto := (mst_ok (x := x) (fs := fs) (base := base) (by omega) (lst0 l)).tov_or
        unfold tS at_
        rw [if_neg h22]
        by_cases hc : 0 ≤ (mst x fs base (lst0 l)).tov ∧ remN (x (lst0 l)) = false ∧ x (lst0 l) ≠ 7
        · rw [if_pos hc]
          have h0 := hc.1
          rcases hto with e | e | e
          · omega
          · rw [e]; decide
          · rw [e]; decide
        · rw [if_neg hc]; exact hi
    rw [if_neg (by rw [hf]; decide), if_neg (by decide)]

end Go.Proofs.YtjelgbfgciaapaaDoor
