/- (*paragraph).determineLevelRuns. -/
import Derived.Test.YtkocpijloiamcaaDoorGA
import Derived.Test.YtkocpijloiamcaaDoorGC
import Derived.Deep.LoopGhost
import Derived.Test.YtkocpijloiamcaaDoorChecked
import Derived.KernelRfl
namespace Go.Proofs.YtkocpijloiamcaaDoor
open Go.RowKit
set_option linter.unusedVariables false

theorem lastL_range {lv : Nat → Int} {n : Nat} (h : ∀ i, i < n → -1 ≤ lv i ∧ lv i ≤ 125) : ∀ k, k ≤ n → -1 ≤ lastL lv k ∧ lastL lv k ≤ 125
  | 0, _ => by show -1 ≤ (-1 : Int) ∧ (-1 : Int) ≤ 125; omega
  | k + 1, hk => by
    have := lastL_range h k (by omega)
    have := h k (by omega)
    show -1 ≤ (if lv k = -1 then lastL lv k else lv k) ∧ (if lv k = -1 then lastL lv k else lv k) ≤ 125
    split <;> omega

set_option maxHeartbeats 4000000 in
theorem dlr_any {p b0 c0 R n : Nat} {x cl lv : Nat → Int} (w : World) (hn : n ≤ 8589934592) (h0 : 0 < n) (k0 : w.cell? ⟨p, 0, none⟩ = some (.slice (some ⟨b0, 0, none⟩) n c0)) (k5 : w.cell? ⟨p, 5, none⟩ = some (.slice (some ⟨R, 0, none⟩) n n))
    (hi : Sees w (some ⟨b0, 0, none⟩) b0 0 n c0 (fun i => .int .u64 (cls (x i)))) (hl : w.rowIs R 62 n (fun i => .int .i8 (cl i))) (hok : ∀ i, i < n → clsOk (x i))
    (hlv : ∀ i, i < n → lv i = if remN (x i) = true then -1 else cl i) (hrg : ∀ i, i < n → -1 ≤ lv i ∧ lv i ≤ 125) (hne : ∀ i, i < n → remN (x i) = false → lv i ≠ -1) :
    Calls Tryd.prog 76 #[.pointer (some ⟨p, 0, none⟩)] w (RetLL w (runs lv n)) := by
  have HOK := Lib.hid hok
  have HLV := Lib.hid hlv
  have HRG := Lib.hid hrg
  have HNE := Lib.hid hne
  have hplt := World.block_lt_of_cell? _ _ k0
  have hRlt := hl.lt
  have hblt := hi.lt h0
  clear hok hlv hrg hne
  have g1 := Gr.empty w w.heap.size 3 (cellsOf []) (Nat.le_refl _)
  have g2 := Gr.empty (w.alloc (.cells #[] 3)) w.heap.size 22 (fun _ => .slice none 0 0) (by simp)
  rw [World.size_alloc] at g2
  have H0 : LLp ((w.alloc (.cells #[] 3)).alloc (.cells #[] 22)) w.heap.size (.slice (some ⟨w.heap.size + 1, 0, none⟩) 0 0) [] (.slice (some ⟨w.heap.size, 0, none⟩) 0 0) [] (fun _ => .slice none 0 0) :=
    ⟨g2, fun j hj => absurd hj (Nat.not_lt_zero _), fun j hj => absurd hj (Nat.not_lt_zero _), fun j _ hj => absurd hj (Nat.not_lt_zero _), g1.alloc _, fun k h1 h2 => by
      simp only [Value.ownBlock, Option.some.injEq] at h1 h2; omega, fun j hj => absurd hj (Nat.not_lt_zero _)⟩
  have hs0 : w.Since w.heap.size ((w.alloc (.cells #[] 3)).alloc (.cells #[] 22)) := ((World.Since.refl _ _).alloc (Nat.le_refl _) _).alloc (by simp) _
  clear g1 g2
  go_enter Tryd.func76, Tryd.ntmps76
  go_wp2_with fail
  go_loopg [3, 4, 5, 6, 14] n (fun g rv av cur _ i wr => ∃ (k : Nat) (f : Nat → Value) (c : Int), k ≤ n ∧ g = n - k ∧ i = .int .i64 k ∧ cur = .int .i8 c ∧ Hid (c = lastL lv k) ∧ LLp wr w.heap.size av (rs lv k).1 rv (rs lv k).2 f ∧ w.Since w.heap.size wr)
  case atStart => exact ⟨0, _, -1, by omega, rfl, rfl, rfl, rfl, H0, hs0⟩
  case round =>
    clear H0 hs0
    obtain ⟨k, f, c, hk, rfl, rfl, rfl, HC, hL, hs⟩ := hrel
    have hcr := lastL_range HRG.out k hk
    rw [← HC.out] at hcr
    have hA := (rs_len lv k).1
    obtain ⟨rao, rcc, hrv⟩ := hL.row.len
    subst hrv
    by_cases hkn : k < n
    · have hkz : (k : Int) < (n : Int) := by omega
      have c0' : wr.cell? ⟨p, 0, none⟩ = some (.slice (some ⟨b0, 0, none⟩) n c0) := (hs.cell (a := ⟨p, 0, none⟩) hplt).trans k0
      have c5' : wr.cell? ⟨p, 5, none⟩ = some (.slice (some ⟨R, 0, none⟩) n n) := (hs.cell (a := ⟨p, 5, none⟩) hplt).trans k5
      have ci : wr.cell? ⟨b0, k, none⟩ = some (.int .u64 (cls (x k))) := by
        have := (hi.get hkn).2
        rw [Nat.zero_add] at this
        exact (hs.cell (a := ⟨b0, k, none⟩) hblt).trans this
      have cR : wr.cell? ⟨R, k, none⟩ = some (.int .i8 (cl k)) := (hs.cell (a := ⟨R, k, none⟩) hRlt).trans (hl.cell hkn)
      have hsz : w.heap.size ≤ wr.heap.size := hs.size
      have hlvk := HLV.out k hkn
      have hrc := remC_cls (HOK.out k hkn)
      obtain ⟨d, hd⟩ : ∃ d, d = cls (x k) := ⟨_, rfl⟩
      rw [← hd] at ci hrc
      clear hd
      cases hr : remN (x k) with
      | true =>
        have HR := Lib.hid (hrc.trans hr)
        have hlr : lv k = -1 := by rw [hlvk, if_pos hr]
        have HN := Lib.hid (rs_rem hlr)
        clear hr hrc hlvk hlr
        go_wp2_with fail
        refine (isRemovedC_any _ _).mono ?_
        rintro e w3 ⟨rfl, rfl⟩
        rw [HR.out]
        go_wp2_with fail
        go_roundg (n - (k + 1))
        case rel => exact ⟨k + 1, f, c, by omega, rfl, by go_num, rfl, HC.out.trans HN.out.2.symm, by rw [HN.out.1]; exact hL, hs⟩
        case measure => omega
      | false =>
        have HR := Lib.hid (hrc.trans hr)
        have hlr : lv k = cl k := by rw [hlvk, if_neg (by rw [hr]; decide)]
        have hnm := HNE.out k hkn hr
        have hrk := HRG.out k hkn
        rw [← hlr] at cR
        obtain ⟨v, hv⟩ : ∃ v, v = lv k := ⟨_, rfl⟩
        rw [← hv] at cR hnm hrk
        have HV := Lib.hid hv
        clear hr hrc hlvk hlr hv
        by_cases hsame : v = c
        · have hb : (v != c) = false := by rw [hsame]; simp
          have HN := Lib.hid (rs_same (lv := lv) (k := k) (by rw [← HV.out]; exact hnm) (by rw [← HV.out, hsame, HC.out]))
          have HL := Lib.hid (lastL_of (lv := lv) (k := k) (by rw [← HV.out]; exact hnm))
          have HS := Lib.hid hsame
          clear hsame
          obtain ⟨r1, r2⟩ := hrk
          go_wp2_with fail
          refine (isRemovedC_any _ _).mono ?_
          rintro e w3 ⟨rfl, rfl⟩
          rw [HR.out]
          go_wp2_with (at_builtin; go_must (refine wpList_push wr rfl _ _ 22 rfl w.heap.size 3 (.int .i64 0) 8 Tryd.underlying22 Tryd.infoInt rfl _ _ _ _ (by rfl) hL.row (by rfl) rfl (by omega) (by omega) hsz ?_))
          intro u' w2 hg2 hgr2 hat
          have hL2 := hL.pushRow hg2 hgr2 hat
          have hs2 : w.Since w.heap.size w2 := (hs.alloc hsz _).grown hgr2 (by simp; omega) (fun k hk => (hL.row.ge k hk).1)
          clear hL hs hg2 hgr2 hat c0' c5' ci cR
          go_wp2_with fail
          go_roundg (n - (k + 1))
          case rel => exact ⟨k + 1, f, c, by omega, rfl, by go_num, rfl, (show c = lastL lv (k + 1) by rw [HL.out, ← HV.out, HS.out]), by rw [HN.out]; exact hL2, hs2⟩
          case measure => omega
        · have hb : (v != c) = true := by simpa using hsame
          have HN := Lib.hid (rs_new (lv := lv) (k := k) (by rw [← HV.out]; exact hnm) (by rw [← HV.out]; intro e; exact hsame (by rw [e, HC.out])))
          have HL := Lib.hid (lastL_of (lv := lv) (k := k) (by rw [← HV.out]; exact hnm))
          have HS := Lib.hid hsame
          clear hsame
          obtain ⟨r1, r2⟩ := hrk
          by_cases hc0 : 0 ≤ c
          · have HCN := Lib.hid (show lastL lv k ≠ -1 by rw [← HC.out]; omega)
            go_wp2_with fail
            refine (isRemovedC_any _ _).mono ?_
            rintro e w3 ⟨rfl, rfl⟩
            rw [HR.out]
            go_wp2_with (at_builtin; go_must (refine wpList_push wr rfl _ _ 104 rfl w.heap.size 22 (.slice none 0 0) 24 Tryd.underlying104 Tryd.infoInts rfl _ _ _ _ (by rfl) hL.outer (by rfl) rfl (by omega) (by omega) hsz ?_))
            intro v' w2 hg2 hgr2 hat
            have hL2 := hL.pushOuter hg2 hgr2 hat
            have hs2 : w.Since w.heap.size w2 := (hs.alloc hsz _).grown hgr2 (by simp; omega) (fun k hk => (hL.outer.ge k hk).1)
            have d0' : w2.cell? ⟨p, 0, none⟩ = some (.slice (some ⟨b0, 0, none⟩) n c0) := (hs2.cell (a := ⟨p, 0, none⟩) hplt).trans k0
            have d5' : w2.cell? ⟨p, 5, none⟩ = some (.slice (some ⟨R, 0, none⟩) n n) := (hs2.cell (a := ⟨p, 5, none⟩) hplt).trans k5
            have dR : w2.cell? ⟨R, k, none⟩ = some (.int .i8 v) := by rw [hs2.cell (a := ⟨R, k, none⟩) hRlt, ← hs.cell (a := ⟨R, k, none⟩) hRlt]; exact cR
            have hsz2 : w.heap.size ≤ w2.heap.size := hs2.size
            clear hL hs hg2 hgr2 hat c0' c5' ci cR
            go_wp2_with (at_builtin; go_must (refine wpList_push w2 rfl _ _ 22 rfl w.heap.size 3 (.int .i64 0) 8 Tryd.underlying22 Tryd.infoInt rfl _ _ _ _ (by rfl) hL2.row (by rfl) rfl (by simp) (by omega) hsz2 ?_))
            intro u' w4 hg4 hgr4 hat4
            have hL4 := hL2.pushRow hg4 hgr4 hat4
            have hs4 : w.Since w.heap.size w4 := (hs2.alloc hsz2 _).grown hgr4 (by simp; omega) (fun k hk => (hL2.row.ge k hk).1)
            clear hL2 hs2 hg4 hgr4 hat4 d0' d5' dR
            go_wp2_with fail
            go_roundg (n - (k + 1))
            case rel => exact ⟨k + 1, _, v, by omega, rfl, by go_num, rfl, (show v = lastL lv (k + 1) by rw [HL.out, ← HV.out]), by rw [HN.out, if_neg HCN.out]; exact hL4, hs4⟩
            case measure => omega
          · have HCN := Lib.hid (show lastL lv k = -1 by rw [← HC.out]; omega)
            have HEM := Lib.hid (rs_empty k HCN.out)
            go_wp2_with fail
            refine (isRemovedC_any _ _).mono ?_
            rintro e w3 ⟨rfl, rfl⟩
            rw [HR.out]
            go_wp2_with (at_builtin; go_must (refine wpList_push wr rfl _ _ 22 rfl w.heap.size 3 (.int .i64 0) 8 Tryd.underlying22 Tryd.infoInt rfl _ _ _ _ (by rfl) hL.row (by rfl) rfl (by omega) (by omega) hsz ?_))
            intro u' w2 hg2 hgr2 hat
            have hL2 := hL.pushRow hg2 hgr2 hat
            have hs2 : w.Since w.heap.size w2 := (hs.alloc hsz _).grown hgr2 (by simp; omega) (fun k hk => (hL.row.ge k hk).1)
            clear hL hs hg2 hgr2 hat c0' c5' ci cR
            go_wp2_with fail
            go_roundg (n - (k + 1))
            case rel => exact ⟨k + 1, f, v, by omega, rfl, by go_num, rfl, (show v = lastL lv (k + 1) by rw [HL.out, ← HV.out]), (by
              rw [HN.out, if_pos HCN.out]
              have e : (rs lv k).2 ++ [k] = [k] := by rw [HEM.out]; rfl
              exact e ▸ hL2), hs2⟩
            case measure => omega
    · obtain rfl : k = n := by omega
      have hsz : w.heap.size ≤ wr.heap.size := hs.size
      by_cases hc0 : c = -1
      · have HE := Lib.hid (rs_empty k (HC.out.symm.trans hc0))
        have HRU := Lib.hid (show runs lv k = (rs lv k).1 by unfold runs; rw [if_pos (HC.out.symm.trans hc0)])
        rw [HE.out] at hL
        have hlen0 : (rs lv k).2.length = 0 := by rw [HE.out]; rfl
        have hL' := hL.ll
        clear hc0
        go_wp2_with fail
        go_ret
        exact ⟨_, rfl, by rw [HRU.out, HE.out]; exact hL', hs⟩
      · have HRU := Lib.hid (show runs lv k = (rs lv k).1 ++ [(rs lv k).2] by unfold runs; rw [if_neg (by rw [← HC.out]; exact hc0)])
        have hpos : 0 < (rs lv k).2.length := List.length_pos_iff.2 (rs_last_ne k (by rw [← HC.out]; exact hc0))
        have hpz : (0 : Int) < ((rs lv k).2.length : Int) := by omega
        clear hc0
        go_wp2_with (at_builtin; go_must (refine wpList_push wr rfl _ _ 104 rfl w.heap.size 22 (.slice none 0 0) 24 Tryd.underlying104 Tryd.infoInts rfl _ _ _ _ (by rfl) hL.outer (by rfl) rfl (by omega) (by omega) hsz ?_))
        intro v' w2 hg2 hgr2 hat
        have hL2 := (hL.pushOuter hg2 hgr2 hat).ll
        have hs2 : w.Since w.heap.size w2 := (hs.alloc hsz _).grown hgr2 (by simp; omega) (fun k hk => (hL.outer.ge k hk).1)
        clear hL hs hg2 hgr2 hat
        go_wp2_with fail
        go_ret
        exact ⟨_, rfl, by rw [HRU.out]; exact hL2, hs2⟩

end Go.Proofs.YtkocpijloiamcaaDoor

/- A row of the type table more. -/
namespace Go.Proofs.YtkocpijloiamcaaDoor
theorem Tryd.infoSq : (Tryd.prog.info? 89).map (fun i => (i.zero, i.size, i.bytes)) = some (some (.pointer none), 1, 8) := by kernel_rfl
end Go.Proofs.YtkocpijloiamcaaDoor
