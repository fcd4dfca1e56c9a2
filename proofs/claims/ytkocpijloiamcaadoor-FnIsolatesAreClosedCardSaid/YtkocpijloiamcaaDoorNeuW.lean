/- (*isolatingRunSequence).resolveNeutralTypes (N1, N2): the walk. -/
import Derived.Test.YtkocpijloiamcaaDoorGH
import Derived.Deep.Light
namespace Go.Proofs.YtkocpijloiamcaaDoor
open Go.RowKit

theorem Gr.sees' {w : World} {B q cap n : Nat} {E : TypeId} {f : Nat → Value} (h : Gr w B E (.slice (some ⟨q, 0, none⟩) n cap) n f) (h0 : 0 < n) : Sees w (some ⟨q, 0, none⟩) q 0 n cap f := by
  obtain ⟨b, hb, hs⟩ := h.see
  obtain rfl : q = b := by have := (hs.get h0).1; simp only [Option.some.injEq, Addr.mk.injEq, and_true] at this; exact this
  exact hs

theorem Kp.since' {S : Nat → Prop} {w w1 w2 : World} (h : Kp S w w1) (k : w1.Since w1.heap.size w2) : Kp S w w2 := h.call k

theorem nb_or (u : Int) : NB u = (u == 9 || u == 10 || u == 7 || u == 8 || u == 22 || u == 21 || u == 23 || u == 24) := by
  unfold NB
  rw [Bool.eq_iff_iff, memB_iff]
  unfold neuL
  simp only [List.mem_cons, List.not_mem_nil, or_false, Bool.or_eq_true, beq_iff_eq]
  omega

set_option maxHeartbeats 4000000 in
set_option maxRecDepth 100000 in
theorem resolveNeutral_any {S q cap n B : Nat} {f0 f1 f3 : Value} {c : Nat → Int} {lv sos eos : Int} (w : World) (hn : n ≤ 8589934592) (h0 : 0 < n) (hlv0 : 0 ≤ lv) (hlv1 : lv ≤ 125) (hsos : sos = 0 ∨ sos = 1)
    (hp : w.rowIs S 109 7 (sf f0 f1 (.slice (some ⟨q, 0, none⟩) n cap) f3 (.int .i8 lv) (.int .u64 sos) (.int .u64 eos))) (hg : Gr w B 67 (.slice (some ⟨q, 0, none⟩) n cap) n (fun i => .int .u64 (c i))) (hqS : q ≠ S) :
    Calls Tryd.prog 64 #[.pointer (some ⟨S, 0, none⟩)] w fun e w' =>
      ((allB [0, 1, 2, 5, 7, 8, 9, 10, 22, 21, 23, 24] c n = true ∧ e = .returned (.tuple #[]) ∧ Gr w' B 67 (.slice (some ⟨q, 0, none⟩) n cap) n (fun i => .int .u64 (neu sos eos (lv % 2) n c i))) ∨ (allB [0, 1, 2, 5, 7, 8, 9, 10, 22, 21, 23, 24] c n = false ∧ Died e)) ∧ Kp (fun k => k = q) w w' := by
  have hSlt := hp.lt
  have hqlt := (hg.ge q rfl).2
  have hL0 : (.cells #[.int .u64 0, .int .u64 1, .int .u64 2, .int .u64 5, .int .u64 7, .int .u64 8, .int .u64 9, .int .u64 10, .int .u64 22, .int .u64 21, .int .u64 23, .int .u64 24] 67 : Obj) = .cells #[.int .u64 0, .int .u64 1, .int .u64 2, .int .u64 5, .int .u64 7, .int .u64 8, .int .u64 9, .int .u64 10, .int .u64 22, .int .u64 21, .int .u64 23, .int .u64 24] 67 := rfl
  clear hL0
  have hh := heap_alloc_new w (.cells #[.int .u64 0, .int .u64 1, .int .u64 2, .int .u64 5, .int .u64 7, .int .u64 8, .int .u64 9, .int .u64 10, .int .u64 22, .int .u64 21, .int .u64 23, .int .u64 24] 67)
  obtain ⟨wA, hwA⟩ : ∃ wA, wA = w.alloc (.cells #[.int .u64 0, .int .u64 1, .int .u64 2, .int .u64 5, .int .u64 7, .int .u64 8, .int .u64 9, .int .u64 10, .int .u64 22, .int .u64 21, .int .u64 23, .int .u64 24] 67) := ⟨_, rfl⟩
  have hpA : wA.rowIs S 109 7 (sf f0 f1 (.slice (some ⟨q, 0, none⟩) n cap) f3 (.int .i8 lv) (.int .u64 sos) (.int .u64 eos)) := by rw [hwA]; exact hp.alloc _
  have hgA : Gr wA B 67 (.slice (some ⟨q, 0, none⟩) n cap) n (fun i => .int .u64 (c i)) := by rw [hwA]; exact hg.alloc _
  have hKA : Kp (fun k => k = q) w wA := by rw [hwA]; exact (Kp.refl _ _).alloc _
  have k2 : wA.cell? ⟨S, 2, none⟩ = some (.slice (some ⟨q, 0, none⟩) n cap) := hpA.cell (by omega)
  rw [← hwA] at hh
  have HW := Lib.hid hwA
  clear hp hg
  go_enter Tryd.func64, Tryd.ntmps64
  go_wp2_with fail
  rw [← HW.out]
  clear hwA HW
  refine (assertOnly_any [0, 1, 2, 5, 7, 8, 9, 10, 22, 21, 23, 24] _ hn (by decide) k2 (hgA.sees' h0) hh).mono ?_
  rintro e w1 ⟨h, rfl⟩
  rcases h with ⟨hall, rfl⟩ | ⟨hbad, u, pv, rfl⟩
  case inr =>
    go_wp2_with fail
    exact ⟨rfl, .inr ⟨hbad, ⟨_, _, rfl⟩⟩, hKA⟩
  have HALL := Lib.hid hall
  clear hall hh
  go_wp2_with fail
  go_loopg [17] n (fun g i wr => ∃ k : Nat, k ≤ n ∧ g = n - k ∧ i = .int .i64 k ∧ Kp (fun k => k = q) w wr ∧ Kp (fun k => k = q) wA wr ∧ ∃ cur, Gr wr B 67 (.slice (some ⟨q, 0, none⟩) n cap) n (fun i => .int .u64 (cur i)) ∧ Hid (NSt sos eos (lv % 2) n c k cur))
  case atStart => exact ⟨0, by omega, rfl, rfl, hKA, Kp.refl _ _, c, hgA, NSt.start⟩
  case round =>
    obtain ⟨k, hk, rfl, rfl, hKw, hKr, cur, hG, HS⟩ := hrel
    clear k2
    by_cases hkn : k < n
    · have hkz : (k : Int) < (n : Int) := by omega
      have hc := hG.cell hkn
      obtain ⟨u, hu⟩ : ∃ u, u = cur k := ⟨_, rfl⟩
      rw [← hu] at hc
      have HU := Lib.hid hu
      clear hu
      go_upto_block 2 with fail
      refine wp_block ?_
      refine wp_seq_k ?_
      intro K hK
      go_cut [23] (fun b wx => b = .bool (NB u) ∧ wx = wr)
      case first =>
        go_wp2_with fail
        all_goals go_meet
        all_goals (refine ⟨congrArg Value.bool ?_, rfl⟩; rw [nb_or]; go_light; simp [*])
      case rest =>
        obtain ⟨rfl, rfl⟩ := hcut
        by_cases hN : NB u = true
        · rw [hN]
          have hp1 := hKr.row hpA (fun e => hqS e.symm)
          have hp2 := hp1.alloc (.cells #[.int .u64 7, .int .u64 8, .int .u64 9, .int .u64 10, .int .u64 22, .int .u64 21, .int .u64 23, .int .u64 24] 67)
          have hG2 := hG.alloc (.cells #[.int .u64 7, .int .u64 8, .int .u64 9, .int .u64 10, .int .u64 22, .int .u64 21, .int .u64 23, .int .u64 24] 67)
          have hh2 := heap_alloc_new wc (.cells #[.int .u64 7, .int .u64 8, .int .u64 9, .int .u64 10, .int .u64 22, .int .u64 21, .int .u64 23, .int .u64 24] 67)
          have hsi2 : wc.Since wc.heap.size (wc.alloc (.cells #[.int .u64 7, .int .u64 8, .int .u64 9, .int .u64 10, .int .u64 22, .int .u64 21, .int .u64 23, .int .u64 24] 67)) := (World.Since.refl _ _).alloc (Nat.le_refl _) _
          have hk2 : (wc.alloc (.cells #[.int .u64 7, .int .u64 8, .int .u64 9, .int .u64 10, .int .u64 22, .int .u64 21, .int .u64 23, .int .u64 24] 67)).cell? ⟨S, 2, none⟩ = some (.slice (some ⟨q, 0, none⟩) n cap) := hp2.cell (by omega)
          have HF := findRunLimit_any neuL _ hn (by omega : k ≤ n) (by decide) hk2 (hG2.sees' h0) hh2
          go_upto_region 14 with fail
          go_wp2_with fail
          refine HF.mono ?_
          rintro e w2 ⟨rfl, rfl⟩
          have hG2' := hG.since hsi2
          obtain ⟨w2, hw2⟩ : ∃ w2, w2 = wc.alloc (.cells #[.int .u64 7, .int .u64 8, .int .u64 9, .int .u64 10, .int .u64 22, .int .u64 21, .int .u64 23, .int .u64 24] 67) := ⟨_, rfl⟩
          rw [← hw2] at hsi2 hp2 hG2 ⊢
          obtain ⟨E, hE⟩ : ∃ E, E = nxt (fun j => memB neuL (cur j)) (n - k) k := ⟨_, rfl⟩
          rw [← hE]
          have hEn : E ≤ n := by have := nxt_le (N := fun j => memB neuL (cur j)) (n - k) k; omega
          have hEk : k ≤ E := by have := nxt_ge (N := fun j => memB neuL (cur j)) (n - k) k; omega
          have HE := Lib.hid hE
          clear hE hw2 hk2 hh2 HF hG2' hc
          go_upto_region 15 with fail
          go_cut [6, 7] (fun _ _ wx => wx = w2)
          case first =>
            go_wp2_with fail
            go_meet
            rfl
          case rest =>
            subst hcut
            obtain ⟨w2, rfl⟩ : ∃ w2, w2 = wc := ⟨_, rfl⟩
            obtain ⟨ld, hld⟩ : ∃ ld, ld = if k = 0 then sos else sd (cur (k - 1)) := ⟨_, rfl⟩
            have HLD := Lib.hid hld
            clear hld
            go_step
            refine wp_seq_k ?_
            intro K hK
            go_cut [6] (fun l wx => l = .int .u64 ld ∧ w2.Since w2.heap.size wx)
            case first =>
              by_cases hk0 : k = 0
              · have hk0b : ((k : Int) == 0) = true := by simp [hk0]
                have k5 : w2.cell? ⟨S, 5, none⟩ = some (.int .u64 sos) := hp2.cell (by omega)
                go_wp2_with fail
                go_meet
                exact ⟨by rw [HLD.out, if_pos hk0], World.Since.refl _ _⟩
              · have hk0b : ((k : Int) == 0) = false := by simp [hk0]
                have hk1 : (1 : Int) ≤ (k : Int) := by omega
                have k5 : w2.cell? ⟨S, 2, none⟩ = some (.slice (some ⟨q, 0, none⟩) n cap) := hp2.cell (by omega)
                have hcl := hG2.cell (i := k - 1) (by omega)
                obtain ⟨v, hv⟩ : ∃ v, v = cur (k - 1) := ⟨_, rfl⟩
                rw [← hv] at hcl
                have HV := Lib.hid hv
                clear hv
                have hsi3 : w2.Since w2.heap.size (w2.alloc (.cells #[.int .u64 5, .int .u64 2] 67)) := (World.Since.refl _ _).alloc (Nat.le_refl _) _
                go_wp2_with fail
                refine (in_any [5, 2] _ _ (by decide) (heap_alloc_new w2 _)).mono ?_
                rintro e w3 ⟨rfl, rfl⟩
                by_cases hm : memB [5, 2] v = true
                · rw [hm]
                  have HL := Lib.hid (show ld = 1 by rw [HLD.out, if_neg hk0, ← HV.out, sd_num hm])
                  go_wp2_with fail
                  go_meet
                  exact ⟨by rw [HL.out], hsi3⟩
                · have hm' : memB [5, 2] v = false := by simpa using hm
                  rw [hm']
                  have HL := Lib.hid (show ld = v by rw [HLD.out, if_neg hk0, ← HV.out, sd_not hm'])
                  go_wp2_with fail
                  go_meet
                  exact ⟨by rw [HL.out], hsi3⟩
            case rest =>
              obtain ⟨rfl, hsi3⟩ := hcut
              have hp3 := hp2.of_block (hsi3.block _ hp2.lt)
              have hG3 := hG2.since hsi3
              have hKr3 := (hKr.since' hsi2).since' hsi3
              have hK3 := (hKw.since' hsi2).since' hsi3
              clear hp2 hG2 hsi3 hsi2 hp1 hKr hKw
              obtain ⟨w3, rfl⟩ : ∃ w3, w3 = wc := ⟨_, rfl⟩
              obtain ⟨tr, htr⟩ : ∃ tr, tr = if E = n then eos else sd (cur E) := ⟨_, rfl⟩
              have HTR := Lib.hid htr
              clear htr
              go_step
              refine wp_seq_k ?_
              intro K hK
              have k5 : w3.cell? ⟨S, 2, none⟩ = some (.slice (some ⟨q, 0, none⟩) n cap) := hp3.cell (by omega)
              go_cut [7] (fun l wx => l = .int .u64 tr ∧ w3.Since w3.heap.size wx)
              case first =>
                by_cases hen : E = n
                · have henb : ((E : Int) == (n : Int)) = true := by simp [hen]
                  have k6 : w3.cell? ⟨S, 6, none⟩ = some (.int .u64 eos) := hp3.cell (by omega)
                  go_wp2_with fail
                  go_meet
                  exact ⟨by rw [HTR.out, if_pos hen], World.Since.refl _ _⟩
                · have henb : ((E : Int) == (n : Int)) = false := by simp; omega
                  have hel : (E : Int) < (n : Int) := by omega
                  have hcl := hG3.cell (i := E) (by omega)
                  obtain ⟨v, hv⟩ : ∃ v, v = cur E := ⟨_, rfl⟩
                  rw [← hv] at hcl
                  have HV := Lib.hid hv
                  clear hv
                  have hsi4 : w3.Since w3.heap.size (w3.alloc (.cells #[.int .u64 5, .int .u64 2] 67)) := (World.Since.refl _ _).alloc (Nat.le_refl _) _
                  go_wp2_with fail
                  refine (in_any [5, 2] _ _ (by decide) (heap_alloc_new w3 _)).mono ?_
                  rintro e w4 ⟨rfl, rfl⟩
                  by_cases hm : memB [5, 2] v = true
                  · rw [hm]
                    have HL := Lib.hid (show tr = 1 by rw [HTR.out, if_neg hen, ← HV.out, sd_num hm])
                    go_wp2_with fail
                    go_meet
                    exact ⟨by rw [HL.out], hsi4⟩
                  · have hm' : memB [5, 2] v = false := by simpa using hm
                    rw [hm']
                    have HL := Lib.hid (show tr = v by rw [HTR.out, if_neg hen, ← HV.out, sd_not hm'])
                    go_wp2_with fail
                    go_meet
                    exact ⟨by rw [HL.out], hsi4⟩
              case rest =>
                obtain ⟨rfl, hsi4⟩ := hcut
                clear k5
                have hp4 := hp3.of_block (hsi4.block _ hp3.lt)
                have hG4 := hG3.since hsi4
                have hKr4 := hKr3.since' hsi4
                have hK4 := hK3.since' hsi4
                clear hp3 hG3 hsi4 hKr3 hK3
                obtain ⟨w4, rfl⟩ : ∃ w4, w4 = wc := ⟨_, rfl⟩
                go_upto_region 26 with fail
                go_cut [8] (fun _ wx => wx = w4)
                case first =>
                  go_wp2_with fail
                  go_meet
                  rfl
                case rest =>
                  subst hcut
                  obtain ⟨w4, rfl⟩ : ∃ w4, w4 = wc := ⟨_, rfl⟩
                  go_step
                  refine wp_seq_k ?_
                  intro K hK
                  obtain ⟨rs, hrs⟩ : ∃ rs, rs = if ld = tr then ld else lv % 2 := ⟨_, rfl⟩
                  have HRS := Lib.hid hrs
                  clear hrs
                  go_cut [8] (fun r wx => r = .int .u64 rs ∧ wx = w4)
                  case first =>
                    by_cases hq : ld = tr
                    · have hqb : (ld == tr) = true := by simp [hq]
                      have HR := Lib.hid (show rs = ld by rw [HRS.out, if_pos hq])
                      clear hq
                      go_wp2_with fail
                      go_meet
                      exact ⟨by rw [HR.out], rfl⟩
                    · have hqb : (ld == tr) = false := by simp [hq]
                      have HR := Lib.hid (show rs = lv % 2 by rw [HRS.out, if_neg hq])
                      have k4 : w4.cell? ⟨S, 4, none⟩ = some (.int .i8 lv) := hp4.cell (by omega)
                      go_wp2_with fail
                      refine (typeForLevel_any _ hlv0 (by omega)).mono ?_
                      rintro e w5 ⟨rfl, rfl⟩
                      go_wp2_with fail
                      go_meet
                      exact ⟨by rw [HR.out], rfl⟩
                  case rest =>
                    obtain ⟨rfl, rfl⟩ := hcut
                    obtain ⟨w4, rfl⟩ : ∃ w4, w4 = wc := ⟨_, rfl⟩
                    have k2 : w4.cell? ⟨S, 2, none⟩ = some (.slice (some ⟨q, 0, none⟩) n cap) := hp4.cell (by omega)
                    obtain ⟨ao', hcut1, hcut2⟩ := cut_lh (P := Tryd.prog) 43 67 Tryd.underlying43 Tryd.sizeClass (hG4.sees' h0) k E hEk hEn
                    have hEk1 : k + 1 ≤ E := by
                      have h1 := nxt_neu (N := fun j => memB neuL (cur j)) hkn (by show NB (cur k) = true; rw [← HU.out]; exact hN)
                      have h2 := nxt_ge (N := fun j => memB neuL (cur j)) (n - (k + 1)) (k + 1)
                      rw [← h1, ← HE.out] at h2
                      exact h2
                    obtain rfl : ao' = some ⟨q, k, none⟩ := by
                      have h1 := (hcut2.get (i := 0) (by omega)).1
                      rw [Nat.zero_add] at h1; exact h1
                    clear hcut2
                    have HST := setTypes_any (v := rs) (cc := cap - k) _ hn hEk hEn hG4
                    clear hG4
                    go_wp2_with fail
                    refine HST.mono ?_
                    rintro e w5 ⟨rfl, hG5, hK5⟩
                    have R := Lib.hid (HS.out.run (cur' := fun j => if k ≤ j ∧ j < E then rs else cur j) hsos (by omega) (by have := HALL.out; unfold allB at this; exact of_decide_eq_true this) hkn (by rw [← HU.out]; exact hN) HE.out HLD.out HTR.out (fun j _ => by rw [HRS.out]))
                    have hG6 := hG5.congr (g := fun j => .int .u64 (if k ≤ j ∧ j < E then rs else cur j)) (fun j _ => by split <;> rfl)
                    have hK6 := hK4.trans hK5
                    have hKr6 := hKr4.trans hK5
                    clear hG5 HST k2 hcut1
                    go_wp2_with fail
                    go_roundg (n - (k + 1))
                    case rel => exact ⟨k + 1, by omega, rfl, by go_num, hK6, hKr6, _, hG6, R.out⟩
                    case measure => omega
        · have hN' : NB u = false := by simpa using hN
          rw [hN']
          have R := Lib.hid (HS.out.skip hkn (by rw [← HU.out]; exact hN'))
          go_wp2_with fail
          go_roundg (n - (k + 1))
          case rel => exact ⟨k + 1, by omega, rfl, by go_num, hKw, hKr, cur, hG, R.out⟩
          case measure => omega
    · obtain rfl : k = n := by omega
      go_wp2_with fail
      go_end0
      exact ⟨.inl ⟨HALL.out, rfl, hG.congr (fun j hj => by rw [HS.out.fin hj])⟩, hKw⟩

end Go.Proofs.YtkocpijloiamcaaDoor
