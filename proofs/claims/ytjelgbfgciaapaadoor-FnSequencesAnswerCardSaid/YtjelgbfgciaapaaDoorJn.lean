/- spec.joined: the isolating run sequences as lists of places.  -/
import Derived.Test.YtjelgbfgciaapaaDoorFam
import Derived.Test.YtjelgbfgciaapaaDoorRunsS
import Derived.Test.YtjelgbfgciaapaaDoorSqP
import Derived.Test.YtjelgbfgciaapaaDoorIsoSpec
import Derived.Test.YtjelgbfgciaapaaDoorQuiet
import Derived.Deep.DeepCutAuto
import Derived.BigQuiet
namespace Go.Proofs.YtjelgbfgciaapaaDoor
open Go.RowKit
set_option linter.unusedVariables false

theorem lvR_range {x fs : Nat → Int} {base : Int} (hb : base = 0 ∨ base = 1) (i : Nat) : -1 ≤ lvR x fs base i ∧ lvR x fs base i ≤ 125 := by
  unfold lvR
  split
  · omega
  · have := lvl_range (x := x) (fs := fs) (base := base) (by omega) (by omega) i; omega

theorem chn_nn {x fs : Nat → Int} {base : Int} {n : Nat} (hb : base = 0 ∨ base = 1) (hB : ∀ i, i < n → x i = 7 → n ≤ i + 1) {q h : Nat} (hq : q < (runs (lvR x fs base) n).length) (hh : h < q) : chn (runs (lvR x fs base) n) (nxR x fs base n) q h ≠ [] := by
  unfold chn
  obtain ⟨f, rfl⟩ : ∃ f, q = f + 1 := ⟨q - 1, by omega⟩
  rw [chT]
  intro e
  exact (runs_at (lv := lvR x fs base) (n := n) (j := h) (by omega)).ne (List.append_eq_nil_iff.1 e).1

theorem chn_le {x fs : Nat → Int} {base : Int} {n : Nat} (hb : base = 0 ∨ base = 1) (hB : ∀ i, i < n → x i = 7 → n ≤ i + 1) {q h : Nat} (hq : q < (runs (lvR x fs base) n).length) (hh : h ∈ heads (pdR x fs base n) q) : (chn (runs (lvR x fs base) n) (nxR x fs base n) q h).length ≤ n := by
  have h1 := chains_total (R := runs (lvR x fs base) n) (runs_succ (x := x) (fs := fs) hb hB) (runs_pred (x := x) (fs := fs) hb hB) q (by omega)
  have h2 := runs_total_le (lvR x fs base) n
  have h3 := len_le_flat (L := chains (runs (lvR x fs base) n) (nxR x fs base n) (pdR x fs base n) q) (a := chn (runs (lvR x fs base) n) (nxR x fs base n) q h) (List.mem_map.2 ⟨h, hh, rfl⟩)
  have h4 : total ((runs (lvR x fs base) n).take q) ≤ total (runs (lvR x fs base) n) := by
    unfold total
    have e : runs (lvR x fs base) n = (runs (lvR x fs base) n).take q ++ (runs (lvR x fs base) n).drop q := (List.take_append_drop q _).symm
    rw [e, List.flatten_append, List.length_append, ← e]
    omega
  unfold total at *
  omega

theorem LL.low {w : World} {base base' : Nat} {v : Value} {R : List (List Nat)} (h : LL w base v R) (hb : base' ≤ base) : LL w base' v R := by
  obtain ⟨f, h1, h2, h3, h4⟩ := h
  exact ⟨f, h1.base hb, fun j hj => (h2 j hj).base hb, h3, h4⟩

set_option maxHeartbeats 8000000 in
set_option maxRecDepth 100000 in
theorem joined_any {ao a2 : Option Addr} {b o cc b2 o2 c2 n : Nat} {x fs : Nat → Int} {base : Int} (w : World) (hn : n ≤ 4294967296) (hb : base = 0 ∨ base = 1) (hB : ∀ i, i < n → x i = 7 → n ≤ i + 1)
    (hx : Sees w ao b o n cc (fun i => .int .i64 (x i))) (hlv : Sees w a2 b2 o2 n c2 (fun i => .int .i64 (lvR x fs base i))) :
    Calls Tryd.prog 38 #[.slice ao n cc, .slice a2 n c2] w (RetLL w (chains (runs (lvR x fs base) n) (nxR x fs base n) (pdR x fs base n) (runs (lvR x fs base) n).length)) := by
  have HRG := Lib.hid (fun (i : Nat) (_ : i < n) => lvR_range (x := x) (fs := fs) hb i)
  have HDN := Lib.hid (fun (q : Nat) (hq : q < (runs (lvR x fs base) n).length) (j : Nat) (hj : j < (heads (pdR x fs base n) q).length) => rowK_done (x := x) (fs := fs) hb hB hj)
  have HAN := Lib.hid (fun (q : Nat) (hq : q < (runs (lvR x fs base) n).length) => anyK_head (x := x) (fs := fs) hb hB hq)
  have HON := Lib.hid (fun (q h z : Nat) (hq : q < (runs (lvR x fs base) n).length) (hh : h < q) (hz : z = lst0 (chn (runs (lvR x fs base) n) (nxR x fs base n) q h)) => onB_iff (x := x) (fs := fs) hb hB hq hh hz)
  have HSC := Lib.hid (runs_succ (x := x) (fs := fs) hb hB)
  have hrl := runs_len (lvR x fs base) n
  have HNE := Lib.hid (fun (j : Nat) (hj : j < (runs (lvR x fs base) n).length) => (runs_at hj).ne)
  have HNN := Lib.hid (fun (q h : Nat) (hq : q < (runs (lvR x fs base) n).length) (hh : h < q) => chn_nn (x := x) (fs := fs) hb hB hq hh)
  have HLE := Lib.hid (fun (q h : Nat) (hq : q < (runs (lvR x fs base) n).length) (hh : h ∈ heads (pdR x fs base n) q) => chn_le (x := x) (fs := fs) hb hB hq hh)
  obtain ⟨RR, hRR⟩ : ∃ RR, RR = runs (lvR x fs base) n := ⟨_, rfl⟩
  rw [← hRR] at hrl HDN HAN HON HNE HSC HNN HLE
  have HRR := Lib.hid hRR
  clear hb hB
  go_enter Tryd.func38, Tryd.ntmps38
  go_wp2_with fail
  refine (matching_any _ hn hx).mono ?_
  rintro e w1 ⟨am, bm, om, cm, rfl, hM, hbm, hs1⟩
  have hxw := Lib.hid hx
  have hMb := Lib.hid (show 0 < n → bm < w1.heap.size from fun h => hM.lt h)
  have gE := Gr.empty w1 w1.heap.size 22 (fun _ => .slice none 0 0) (Nat.le_refl _)
  have hsE : w.Since w.heap.size (w1.alloc (.cells #[] 22)) := hs1.alloc hs1.size _
  have hME := hM.since ((World.Since.refl _ _ : w1.Since w1.heap.size w1).alloc (Nat.le_refl _) (.cells #[] 22))
  have hz1 := hs1.size
  go_wp2_with fail
  refine (specRuns_any _ hn (hlv.since hsE) HRG.out).mono ?_
  rintro e w2 ⟨vR, rfl, hL, hs2⟩
  rw [← hRR] at hL ⊢
  clear hRR
  obtain ⟨fR, q1, q2, q3, q4⟩ := hL
  have hs02 : w.Since w.heap.size w2 := since2 hsE hs2
  have hszE : (w1.alloc (.cells #[] 22)).heap.size = w1.heap.size + 1 := by rw [World.size_alloc]
  have hJ0 := JN.start (J := rowN x fs base n 0) (B := w1.heap.size) (by rw [hszE]; omega) (gE.since hs2) (fun k hk => by
    simp only [Value.ownBlock, Option.some.injEq] at hk
    rw [hszE]; omega) q1 q2 q3 q4
  obtain ⟨aR, cR, rfl⟩ := q1.len
  have hz12 := Lib.hid (show w1.heap.size ≤ w2.heap.size from by have := hs2.size; rw [hszE] at this; omega)
  have hM2 := hME.since hs2
  have hx2 := hx.since hs02
  clear q1 q2 q3 q4 gE hsE hs1 hs2 hM hME hx hlv hszE
  go_wp2_with fail
  go_loopg [6, 8, 9, 10, 11, 12, 19] RR.length (fun g out _ _ _ _ _ i wr => ∃ (q : Nat) (f : Nat → Value), q ≤ RR.length ∧ g = RR.length - q ∧ i = .int .i64 q ∧ JN wr w1.heap.size out (.slice aR RR.length cR) f fR (heads (pdR x fs base n) q).length (rowN x fs base n q) RR q ∧ Kp (fun k => w1.heap.size ≤ k) w2 wr)
  case atStart => exact ⟨0, _, Nat.zero_le _, rfl, rfl, hJ0, Kp.refl _ _⟩
  case round =>
    clear hJ0
    obtain ⟨q, f, hq, rfl, rfl, hJ, hk2⟩ := hrel
    by_cases hqn : q < RR.length
    · have hqz : (q : Int) < (RR.length : Int) := by omega
      obtain ⟨bR, hbR, hsR⟩ := hJ.runs.see
      obtain ⟨rfl, hc⟩ := hsR.get hqn
      rw [Nat.zero_add] at hc
      have hP := hJ.pend (Nat.le_refl q) hqn
      obtain ⟨a3, c3, hv3⟩ := hP.len
      rw [hv3] at hc
      have HV3 := Lib.hid hv3
      obtain ⟨r, hr⟩ : ∃ r, r = RR.getD q [] := ⟨_, rfl⟩
      rw [← hr] at hc
      have HR := Lib.hid hr
      obtain ⟨ao6, c6, hu6⟩ := hJ.out.len
      subst hu6
      have hml : (heads (pdR x fs base n) q).length ≤ q := by
        unfold heads
        have := List.length_filter_le (headB (pdR x fs base n)) (List.range q)
        rw [List.length_range] at this
        exact this
      obtain ⟨m, hm⟩ : ∃ m, m = (heads (pdR x fs base n) q).length := ⟨_, rfl⟩
      rw [← hm] at hJ hml ⊢
      have HM := Lib.hid hm
      clear hv3 hr hP hm hsR
      go_wp2_with fail
      rename World => wo
      go_loopg [9, 10, 11, 12, 25] m (fun g d _ _ _ i wi => ∃ (k : Nat) (f : Nat → Value), k ≤ m ∧ g = m - k ∧ i = .int .i64 k ∧ d = .bool (anyK x fs base n q k) ∧ JN wi w1.heap.size (.slice ao6 m c6) (.slice (some ⟨bR, 0, none⟩) RR.length cR) f fR m (rowK x fs base n q k) RR q ∧ Kp (fun k => w1.heap.size ≤ k) w2 wi)
      case atStart => exact ⟨0, f, Nat.zero_le _, rfl, rfl, rfl, hJ.congr (fun j _ => by unfold rowK; rw [if_neg (Nat.not_lt_zero _)]), hk2⟩
      case round =>
        clear hJ hk2 hc
        obtain ⟨k, f, hk, rfl, rfl, rfl, hJ, hk2⟩ := hrel
        by_cases hkm : k < m
        · have hkz : (k : Int) < (m : Int) := by omega
          obtain ⟨g6, cap6, hv6, hg6⟩ := hJ.out.form (by omega)
          simp only [Value.slice.injEq] at hv6
          obtain ⟨rfl, _, rfl⟩ := hv6
          have hcf := hJ.out.cell hkm
          have hff := hJ.out.frozen k
          have hrow := hJ.row hkm
          have hrk : rowK x fs base n q k k = rowN x fs base n q k := by unfold rowK; rw [if_neg (Nat.lt_irrefl _)]
          rw [hrk] at hrow
          have hhm := heads_mem.1 (heads_at (pd := pdR x fs base n) (q := q) (j := k) (by rw [← HM.out]; exact hkm))
          obtain ⟨hhn, hon⟩ := HON.out q _ (lst0 (rowN x fs base n q k)) hqn hhm.1 (by unfold rowN; rw [← HRR.out])
          have hne : rowN x fs base n q k ≠ [] := by unfold rowN; rw [← HRR.out]; exact HNN.out q _ hqn hhm.1
          have hlen : (rowN x fs base n q k).length ≤ n := by unfold rowN; rw [← HRR.out]; exact HLE.out q _ hqn (heads_at (by rw [← HM.out]; exact hkm))
          have hrn : r.length ≤ n := by rw [HR.out, HRR.out]; exact runs_row_len (by rw [← HRR.out]; exact hqn)
          obtain ⟨l, hl⟩ : ∃ l, l = rowN x fs base n q k := ⟨_, rfl⟩
          rw [← hl] at hrow hhn hon hne hlen
          have HL := Lib.hid hl
          obtain ⟨a7, c7, hv7⟩ := hrow.len
          have hrow2 := hrow
          rw [hv7] at hrow2 hcf
          have HV7 := Lib.hid hv7
          obtain ⟨b7, hb7, hs7⟩ := hrow2.see
          have hlp : 0 < l.length := List.length_pos_iff.2 hne
          obtain ⟨rfl, hlc⟩ := hs7.get (show l.length - 1 < l.length by omega)
          obtain ⟨z, hz⟩ : ∃ z, z = lst0 l := ⟨_, rfl⟩
          rw [show cellsOf l (l.length - 1) = .int .i64 ((lst0 l : Nat) : Int) from rfl, ← hz, Nat.zero_add] at hlc
          rw [← hz] at hhn hon
          have HZ := Lib.hid hz
          obtain ⟨L, hL⟩ : ∃ L, L = l.length := ⟨_, rfl⟩
          have HLL := Lib.hid hL
          rw [← hL] at hlc hlp hlen hcf
          have h1z : (1 : Int) ≤ (L : Int) := by omega
          have h0z : (0 : Int) < (L : Int) := by omega
          have hbx : b < w1.heap.size := Nat.lt_of_lt_of_le (hxw.out.lt (by omega)) hz1
          have hcx := ((hk2.sees hx2 (fun _ => by omega)).get hhn)
          have hcm := ((hk2.sees hM2 (fun h => by have := hMb.out h; omega)).get hhn)
          have hPk := hJ.pend (Nat.le_refl q) hqn
          rw [HV3.out, ← HR.out] at hPk
          have hrp : 0 < r.length := by rw [HR.out]; exact List.length_pos_iff.2 (HNE.out q hqn)
          obtain ⟨b3, hb3, hs3⟩ := hPk.see
          obtain ⟨rfl, hr0⟩ := hs3.get hrp
          obtain ⟨y, hy⟩ : ∃ y, y = hd r := ⟨_, rfl⟩
          rw [show cellsOf r 0 = .int .i64 ((hd r : Nat) : Int) from rfl, ← hy, Nat.add_zero] at hr0
          rw [← HR.out, ← hy] at hon
          have HS3 := Lib.hid hs3
          obtain ⟨g3, hg3⟩ : ∃ g3, g3 = onB x fs base n q ((heads (pdR x fs base n) q).getD k 0) := ⟨_, rfl⟩
          rw [← hg3] at hon
          have HG3 := Lib.hid hg3
          obtain ⟨mz, hmz⟩ : ∃ mz, mz = mt (iniN x) (pdiN x) n z := ⟨_, rfl⟩
          have hcx2 := hcx.2
          have hcm2 := hcm.2
          have hcx1 := hcx.1
          have hcm1 := hcm.1
          subst hcx1
          subst hcm1
          change _ = some (Value.int .i64 (mt (iniN x) (pdiN x) n z)) at hcm2
          rw [← hmz] at hon hcm2
          have hzz : (z : Int) < (n : Int) := by omega
          have hrz : (0 : Int) < (r.length : Int) := by omega
          have HJ := Lib.hid hJ
          have HK2 := Lib.hid hk2
          clear hl hv7 hz hL hne hrow hrow2 hs7 hhm hy hg3 hmz hcx hcm hPk hs3
          go_upto_region 11 with fail
          go_cut [50] (fun v wx => v = .bool g3 ∧ wr.Since wr.heap.size wx)
          case first =>
            as_aux_lemma =>
              cases hin : iniN x z with
              | false =>
                have hg4 := Lib.hid (show g3 = false by rw [hon, hin]; rfl)
                have hi : iniB (x z) = false := hin
                clear hon
                go_big_quiet ((go_at_call 15; exact quiet_same (congrArg Value.bool hi) (isInitiator_any _ _)))
                go_wp2_with fail
                go_meet
                exact ⟨by rw [hg4.out], since_drewN (World.Since.refl _ _) nq⟩
              | true =>
                have hi : iniB (x z) = true := hin
                rw [hin, Bool.true_and] at hon
                by_cases he : mz = (y : Int)
                · have hg4 := Lib.hid (show g3 = true by rw [hon]; simpa using he)
                  have hb1 : (mz == (y : Int)) = true := by simpa using he
                  clear hon he
                  go_big_quiet ((go_at_call 15; exact quiet_same (congrArg Value.bool hi) (isInitiator_any _ _)))
                  go_wp2_with fail
                  go_meet
                  exact ⟨by rw [hg4.out], since_drewN (World.Since.refl _ _) nq⟩
                · have hg4 := Lib.hid (show g3 = false by rw [hon]; simpa using he)
                  have hb1 : (mz == (y : Int)) = false := by simpa using he
                  clear hon he
                  go_big_quiet ((go_at_call 15; exact quiet_same (congrArg Value.bool hi) (isInitiator_any _ _)))
                  go_wp2_with fail
                  go_meet
                  exact ⟨by rw [hg4.out], since_drewN (World.Since.refl _ _) nq⟩
          obtain ⟨rfl, hsc⟩ := hcut
          have HAS := Lib.hid (anyK_succ (x := x) (fs := fs) (base := base) (n := n) q k)
          have hJc := HJ.out.since hsc
          have hkc : Kp (fun k => w1.heap.size ≤ k) w2 wc := HK2.out.call hsc
          have hszc : w1.heap.size ≤ wc.heap.size := by
            have h1 := hkc.size
            have h2 := hz12.out
            omega
          cases g3 with
          | false =>
            have HEQ := Lib.hid (show anyK x fs base n q (k + 1) = anyK x fs base n q k by rw [HAS.out, ← HG3.out, Bool.or_false])
            have hJ2 := hJc.congr (J' := rowK x fs base n q (k + 1)) (fun j hj => by
              unfold rowK
              by_cases e : j = k
              · subst e
                rw [if_pos (Nat.lt_succ_self _), if_neg (Nat.lt_irrefl _), ← HG3.out, if_neg (by decide), List.append_nil]
              · by_cases e2 : j < k
                · rw [if_pos e2, if_pos (by omega)]
                · rw [if_neg e2, if_neg (by omega)])
            clear hJc hcf hff hlc hr0 hcx2 hcm2 hon hg6
            go_wp2_with fail
            go_roundg (m - (k + 1))
            case rel => exact ⟨k + 1, f, by omega, rfl, by go_num, by rw [HEQ.out], hJ2, hkc⟩
            case measure => omega
          | true =>
            have HEQ := Lib.hid (show anyK x fs base n q (k + 1) = true by rw [HAS.out, ← HG3.out, Bool.or_true])
            have hrowc := hJc.row hkm
            rw [hrk, ← HL.out, HV7.out, ← HLL.out] at hrowc
            have hs3c := HS3.out.since hsc
            have hgc := hJc.out
            have hll3 : L + r.length ≤ 17179869184 := by omega
            clear hcf hff hlc hr0 hcx2 hcm2 hon hg6
            go_wp2_with (at_builtin; go_must (refine wpList_cat wc rfl _ _ 22 rfl w1.heap.size 3 (.int .i64 0) 8 Tryd.underlying22 Tryd.infoInt rfl _ _ _ (by rfl) hrowc (by rfl) hs3c (fun _ _ => rfl) hll3 (by omega) hszc ?_))
            intro v' w5 hg5 hgr5 hat5
            obtain ⟨aq, cq, hvq⟩ := hg5.len
            have hJ5 := hJc.cat (r := r) hkm (by rw [hrk, ← HL.out, ← HLL.out]; exact hg5) (by rw [HV7.out, ← HLL.out]; exact hgr5) (by rw [HV7.out, ← HLL.out]; exact hat5)
            have hgo5 := hgc.apart (show wc.grownBy w5 (f k).ownBlock by rw [HV7.out, ← HLL.out]; exact hgr5) ((hJc.ap .out (.row k) trivial hkm (fun e => by cases e)).symm)
            have hcf5 := hgo5.cell hkm
            have hff5 := hgo5.frozen k
            have hk5 : Kp (fun k => w1.heap.size ≤ k) w2 w5 := hkc.grown (show wc.grownBy w5 (f k).ownBlock by rw [HV7.out, ← HLL.out]; exact hgr5) (fun k hk => .inl ((hJc.row hkm).ge k hk).1)
            subst hvq
            have hk6 := hk5.setCell (a := ⟨g6, k, none⟩) (.inl (hgc.ge g6 rfl).1) (.slice aq (L + r.length) cq)
            have hJ6 := hJ5.congr (J' := rowK x fs base n q (k + 1)) (fun j hj => by
              by_cases e : j = k
              · subst e
                rw [if_pos rfl, hrk]
                unfold rowK
                rw [if_pos (Nat.lt_succ_self _), ← HG3.out, if_pos rfl, ← HRR.out, HR.out]
              · rw [if_neg e]
                unfold rowK
                by_cases e2 : j < k
                · rw [if_pos e2, if_pos (by omega)]
                · rw [if_neg e2, if_neg (by omega)])
            clear hJc hrowc hs3c hgc hg5 hgr5 hat5 hJ5 hgo5 hk5 hkc hsc
            go_wp2_with fail
            go_roundg (m - (k + 1))
            case rel => exact ⟨k + 1, _, by omega, rfl, by go_num, by rw [HEQ.out], hJ6, hk6⟩
            case measure => omega
        · have hkm2 : k = m := by omega
          have HD2 := Lib.hid (show ∀ j, j < m → rowK x fs base n q k j = chn RR (nxR x fs base n) (q + 1) ((heads (pdR x fs base n) q).getD j 0) from fun j hj => by
            have := HDN.out q hqn j (by rw [← HM.out]; exact hj)
            rw [← HM.out] at this
            rw [hkm2]; exact this)
          have han := HAN.out q hqn
          rw [← HM.out, ← hkm2] at han
          have HHS := Lib.hid (heads_succ (pd := pdR x fs base n) q)
          rw [han]
          clear han hkm
          subst hkm2
          cases hh : headB (pdR x fs base n) q with
          | true =>
            have HE := Lib.hid (HHS.out.trans (if_pos hh))
            have HEL := Lib.hid (show (heads (pdR x fs base n) (q + 1)).length = k + 1 from by rw [HE.out, List.length_append, ← HM.out]; rfl)
            have hszr : w1.heap.size ≤ wr.heap.size := by
              have h1 := hk2.size
              have h2 := hz12.out
              omega
            have hk64 : k ≤ 4294967296 := by omega
            go_wp2_with (at_builtin; go_must (refine wpList_push wr rfl _ _ 31 rfl w1.heap.size 22 (.slice none 0 0) 24 Tryd.underlying31 Tryd.infoInts rfl _ _ _ _ (by rfl) hJ.out (by rfl) rfl hk64 (by omega) hszr ?_))
            intro v' w5 hg5 hgr5 hat5
            have hJ5 := hJ.push hqn (by rw [HV3.out, ← HR.out]; exact hg5) hgr5 hat5
            have hk5 : Kp (fun k => w1.heap.size ≤ k) w2 w5 := (hk2.alloc _).grown hgr5 (fun k hk => .inl (hJ.out.ge k hk).1)
            have hJ6 := hJ5.congr (J' := rowN x fs base n (q + 1)) (fun j hj => by
              unfold rowN
              rw [HE.out, ← HRR.out]
              by_cases e : j = k
              · rw [if_pos e, e, List.getD_eq_getElem?_getD (l := _ ++ _), List.getElem?_append_right (by rw [← HM.out]; exact Nat.le_refl _), ← HM.out, Nat.sub_self]
                exact chn_new HSC.out q
              · rw [if_neg e, List.getD_eq_getElem?_getD (l := _ ++ _), List.getElem?_append_left (by rw [← HM.out]; omega), ← List.getD_eq_getElem?_getD]
                exact (HD2.out j (by omega)).symm)
            clear hJ hJ5 hg5 hgr5 hat5 hk2
            go_wp2_with fail
            go_roundg (RR.length - (q + 1))
            case rel => exact ⟨q + 1, _, by omega, rfl, by go_num, by rw [HEL.out]; exact hJ6, hk5⟩
            case measure => omega
          | false =>
            have HE := Lib.hid (HHS.out.trans (if_neg (by rw [hh]; decide)))
            have hJ2 := (hJ.congr (J' := rowN x fs base n (q + 1)) (fun j hj => by unfold rowN; rw [HE.out, ← HRR.out]; exact (HD2.out j hj).symm)).skip
            clear hJ
            go_wp2_with fail
            go_roundg (RR.length - (q + 1))
            case rel => exact ⟨q + 1, f, by omega, rfl, by go_num, by rw [HE.out, ← HM.out]; exact hJ2, hk2⟩
            case measure => omega
    · obtain rfl : q = RR.length := by omega
      have hfin : w.Since w.heap.size wr := ⟨hk2.os.trans hs02.os, hk2.tape.trans hs02.tape, hk2.output.trans hs02.output, Nat.le_trans hs02.size hk2.size, fun k hk => (hk2.block k (Nat.lt_of_lt_of_le hk hs02.size) (by omega)).trans (hs02.block k hk)⟩
      obtain ⟨ao7, c7, hu7⟩ := hJ.out.len
      subst hu7
      have hll := hJ.ll (L := chains RR (nxR x fs base n) (pdR x fs base n) RR.length) (by unfold chains; rw [List.length_map]) (fun j hj => by
        unfold chains rowN
        rw [List.getD_eq_getElem?_getD, List.getElem?_map, List.getElem?_eq_getElem hj, List.getD_eq_getElem?_getD, List.getElem?_eq_getElem hj, ← HRR.out]; rfl)
      clear hJ
      go_wp2_with fail
      go_ret
      exact ⟨.slice ao7 _ c7, rfl, by rw [← HRR.out]; exact hll.low hz1, hfin⟩
end Go.Proofs.YtjelgbfgciaapaaDoor
