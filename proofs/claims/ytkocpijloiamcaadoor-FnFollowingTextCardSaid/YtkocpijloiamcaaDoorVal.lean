/- validateTypes, validatePbTypes, validatePbValues, validateParagraphEmbeddingLevel, newParagraph. -/
import Derived.Test.YtkocpijloiamcaaDoorRun
import Derived.Deep.LoopGhost
import Derived.Lib.SliceRun
namespace Go.Proofs.YtkocpijloiamcaaDoor
open Go.RowKit
set_option linter.unusedVariables false
set_option linter.unusedSimpArgs false

/-- 'x[:m]'. -/
theorem cut_h {P : Program} (t e : TypeId) (ht : P.underlying t = some (.slice e)) (hsz : (P.info? e).map (fun i => i.size) = some 1) {w : World} {ao : Option Addr} {b o n c : Nat} {f : Nat → Value} (hs : Sees w ao b o n c f) (m : Nat)
    (h1 : m ≤ n) : ∃ ao', (∀ wx, (Instr.slice t (.slice ao n c) none (some (.int .i64 m)) none).run P wx = .ok (.slice ao' m c) wx) ∧ Sees w ao' b o m c f := by
  obtain ⟨i, hi0, hi1⟩ := Option.map_eq_some_iff.1 hsz
  obtain ⟨ao', h2, h3⟩ := cut_lh t e ht hsz hs 0 m (by omega) h1
  refine ⟨ao', fun wx => ?_, ?_⟩
  · have h4 := h2 wx
    rw [Nat.sub_zero, Nat.sub_zero] at h4
    rw [← h4]
    have q1 : (m : Int) ≤ (c : Int) := by have := hs.le; omega
    simp [Instr.slice, run_underlying ht, Instr.sliceBounds, run_sliceBound, sizeOf, typeInfo, hi0, q1]
  · rw [Nat.add_zero, Nat.sub_zero, Nat.sub_zero] at h3
    exact h3.congr (fun i _ => by rw [Nat.zero_add])

set_option maxHeartbeats 1000000 in
theorem valTypes_any {ao : Option Addr} {b o n c : Nat} {x : Nat → Int} (w : World) (hn : n ≤ 8589934592) (h0 : 0 < n) (hok : ∀ i, i < n → clsOk (x i)) (hB7 : ∀ i, i < n → x i = 7 → n ≤ i + 1) (hx : Sees w ao b o n c (fun i => .int .u64 (cls (x i)))) :
    Calls Tryd.prog 49 #[.slice ao n c] w fun e w' => e = .returned .nilIface ∧ w = w' := by
  have HB := Lib.hid (show ∀ i, i + 1 < n → (cls (x i) == 7) = false from fun i hi => by
    have h1 := hok i (by omega)
    have h2 := hB7 i (by omega)
    unfold clsOk at h1
    have h3 : x i ≠ 7 := fun e => by have := h2 e; omega
    obtain ⟨k, hk⟩ := Int.eq_ofNat_of_zero_le h1.1
    have hk2 : k < 23 := by omega
    have key : ∀ j : Fin 23, (j.val : Int) ≠ 7 → (cls (j.val : Int) == 7) = false := by decide
    rw [hk] at h3 ⊢
    exact key ⟨k, hk2⟩ h3)
  obtain ⟨m, rfl⟩ : ∃ m, n = m + 1 := ⟨n - 1, by omega⟩
  have hb0 : (((m + 1 : Nat) : Int) == 0) = false := beq_eq_false_iff_ne.2 (by omega)
  obtain ⟨ao', hcut1, hcut2⟩ := cut_h (P := Tryd.prog) 43 67 Tryd.underlying43 Tryd.sizeClass hx m (by omega)
  have hm1 : ((m + 1 : Nat) : Int) - 1 = (m : Int) := by omega
  clear hok hB7 hx
  go_enter Tryd.func49, Tryd.ntmps49
  go_wp2_with fail
  go_loopg [4, 15] m (fun g _ i wr => ∃ k : Nat, k ≤ m ∧ g = m - k ∧ i = .int .i64 k ∧ wr = w)
  case atStart => exact ⟨0, Nat.zero_le _, rfl, rfl, rfl⟩
  case round =>
    obtain ⟨k, hk, rfl, rfl, rfl⟩ := hrel
    by_cases hkn : k < m
    · have hkz : (k : Int) < (m : Int) := by omega
      obtain ⟨rfl, hc⟩ := hcut2.get hkn
      have hle := hcut2.le
      have h7 := HB.out k (by omega)
      obtain ⟨C, hC⟩ : ∃ C, C = cls (x k) := ⟨_, rfl⟩
      rw [← hC] at hc h7
      clear hC
      go_wp2_with fail
      go_roundg (m - (k + 1))
      case rel => exact ⟨k + 1, by omega, rfl, by go_num, rfl⟩
      case measure => omega
    · obtain rfl : k = m := by omega
      go_wp2_with fail
      go_ret
      exact ⟨rfl, rfl⟩

set_option maxHeartbeats 1000000 in
theorem valPb_any {ao : Option Addr} {b o n c : Nat} {kd : Nat → Int} (w : World) (hn : n ≤ 8589934592) (h0 : 0 < n) (hkd : ∀ j, j < n → kd j = 0 ∨ kd j = 1 ∨ kd j = 2) (hx : Sees w ao b o n c (fun i => .int .u8 (kd i))) :
    Calls Tryd.prog 50 #[.slice ao n c] w fun e w' => e = .returned .nilIface ∧ w = w' := by
  have hb0 : ((n : Int) == 0) = false := beq_eq_false_iff_ne.2 (by omega)
  have HK := Lib.hid hkd
  clear hkd
  go_enter Tryd.func50, Tryd.ntmps50
  go_wp2_with fail
  go_loopg [4, 11] n (fun g _ i wr => ∃ k : Nat, k ≤ n ∧ g = n - k ∧ i = .int .i64 k ∧ wr = w)
  case atStart => exact ⟨0, Nat.zero_le _, rfl, rfl, rfl⟩
  case round =>
    obtain ⟨k, hk, rfl, rfl, rfl⟩ := hrel
    by_cases hkn : k < n
    · have hkz : (k : Int) < (n : Int) := by omega
      obtain ⟨rfl, hc⟩ := hx.get hkn
      have hle := hx.le
      have h7 := HK.out k hkn
      obtain ⟨C, hC⟩ : ∃ C, C = kd k := ⟨_, rfl⟩
      rw [← hC] at hc h7
      clear hC hx
      rcases h7 with rfl | rfl | rfl
      · go_wp2_with fail
        go_roundg (n - (k + 1))
        case rel => exact ⟨k + 1, by omega, rfl, by go_num, rfl⟩
        case measure => omega
      · go_wp2_with fail
        go_roundg (n - (k + 1))
        case rel => exact ⟨k + 1, by omega, rfl, by go_num, rfl⟩
        case measure => omega
      · go_wp2_with fail
        go_roundg (n - (k + 1))
        case rel => exact ⟨k + 1, by omega, rfl, by go_num, rfl⟩
        case measure => omega
    · obtain rfl : k = n := by omega
      go_wp2_with fail
      go_ret
      exact ⟨rfl, rfl⟩

set_option maxRecDepth 100000 in
set_option maxHeartbeats 1000000 in
theorem valPbV_any {a : Addr} {ao : Option Addr} {n c c' : Nat} (w : World) : Calls Tryd.prog 51 #[.slice (some a) n c, .slice ao n c'] w fun e w' => e = .returned .nilIface ∧ w = w' := by
  have hlb : ((n : Int) != (n : Int)) = false := by simp
  have hnil : (binOp .eql 47 (.slice (some a) n c) (.slice none 0 0)).run Tryd.prog w = .ok (.bool false) w := Go.Lib.run_eql_slice_nil w _ _ _ _ _ _ _ Tryd.underlying47
  go_enter Tryd.func51, Tryd.ntmps51
  go_wp2_with fail
  go_ret
  exact ⟨rfl, rfl⟩

theorem valEmb_any {g : Int} (w : World) (h : g = -1 ∨ g = 0 ∨ g = 1) : Calls Tryd.prog 52 #[.int .i8 g] w fun e w' => e = .returned .nilIface ∧ w = w' := by
  rcases h with rfl | rfl | rfl
  · go_enter Tryd.func52, Tryd.ntmps52
    go_wp2_with fail
    go_ret
    exact ⟨rfl, rfl⟩
  · go_enter Tryd.func52, Tryd.ntmps52
    go_wp2_with fail
    go_ret
    exact ⟨rfl, rfl⟩
  · go_enter Tryd.func52, Tryd.ntmps52
    go_wp2_with fail
    go_ret
    exact ⟨rfl, rfl⟩

/-- A paragraph that is resolved. -/
structure Np (w : World) (x kd vl : Nat → Int) (N : Nat) (g : Int) (p b0 bt bv T R N6 N7 c0 ct cv capT : Nat) (ft fl : Nat → Int) (w' : World) : Prop where
  done : Done x kd vl (baseP x N g) N ft fl
  row : w'.rowIs p 70 8 (pf (.slice (some ⟨b0, 0, none⟩) N c0) (.slice (some ⟨bt, 0, none⟩) N ct) (.slice (some ⟨bv, 0, none⟩) N cv) (.int .i8 (baseP x N g)) (.slice (some ⟨T, 0, none⟩) N capT) (.slice (some ⟨R, 0, none⟩) N N) (.slice (some ⟨N6, 0, none⟩) N N) (.slice (some ⟨N7, 0, none⟩) N N))
  init : Sees w' (some ⟨b0, 0, none⟩) b0 0 N c0 (fun i => .int .u64 (cls (x i)))
  types : Gr w' w.heap.size 67 (.slice (some ⟨T, 0, none⟩) N capT) N (fun i => .int .u64 (ft i))
  levels : w'.rowIs R 62 N (fun i => .int .i8 (fl i))
  ge : w.heap.size ≤ R ∧ w.heap.size ≤ p
  since : w.Since w.heap.size w'

theorem Np.congr0 {w w0 w' : World} {x kd vl : Nat → Int} {N : Nat} {g : Int} {p b0 bt bv T R N6 N7 c0 ct cv capT : Nat} {ft fl : Nat → Int} (h : Np w x kd vl N g p b0 bt bv T R N6 N7 c0 ct cv capT ft fl w') (s : w0.Since w0.heap.size w) : Np w0 x kd vl N g p b0 bt bv T R N6 N7 c0 ct cv capT ft fl w' :=
  ⟨h.done, h.row, h.init, h.types.base s.size, h.levels, ⟨by have := s.size; have := h.ge.1; omega, by have := s.size; have := h.ge.2; omega⟩, since2 s h.since⟩

set_option maxHeartbeats 8000000 in
set_option maxRecDepth 100000 in
theorem newParagraph_any {ao : Option Addr} {b o c bt ct bv cv N : Nat} {g : Int} {x kd vl : Nat → Int} (w : World) (hN : N ≤ 8589934592) (hNB : N ≤ 2147483647 ∨ ∀ j, j < N → kd j = 0) (h0 : 0 < N) (hg : g = -1 ∨ g = 0 ∨ g = 1) (hok : ∀ i, i < N → clsOk (x i)) (hB7 : ∀ i, i < N → x i = 7 → N ≤ i + 1)
    (hkd : ∀ j, j < N → kd j = 0 ∨ kd j = 1 ∨ kd j = 2) (hx : Sees w ao b o N c (fun i => .int .u64 (cls (x i)))) (hk : Sees w (some ⟨bt, 0, none⟩) bt 0 N ct (fun i => .int .u8 (kd i))) (hv : Sees w (some ⟨bv, 0, none⟩) bv 0 N cv (fun i => .int .i32 (vl i))) :
    Calls Tryd.prog 38 #[.slice ao N c, .slice (some ⟨bt, 0, none⟩) N ct, .slice (some ⟨bv, 0, none⟩) N cv, .int .i8 g] w fun e w' => ∃ p b0 T R N6 N7 c0 capT ft fl, e = .returned (.tuple #[.pointer (some ⟨p, 0, none⟩), .nilIface]) ∧ Np w x kd vl N g p b0 bt bv T R N6 N7 c0 ct cv capT ft fl w' := by
  have HOK := Lib.hid hok
  have HB7 := Lib.hid hB7
  have HKD := Lib.hid hkd
  have HG := Lib.hid hg
  have HNB := Lib.hid hNB
  clear hok hB7 hkd hg hNB
  go_enter Tryd.func38, Tryd.ntmps38
  go_wp2_with fail
  refine (valTypes_any _ (by omega) h0 HOK.out HB7.out hx).mono ?_
  rintro e w1 ⟨rfl, rfl⟩
  go_wp2_with fail
  refine (valPb_any _ (by omega) h0 HKD.out hk).mono ?_
  rintro e w1 ⟨rfl, rfl⟩
  go_wp2_with fail
  refine (valPbV_any _).mono ?_
  rintro e w1 ⟨rfl, rfl⟩
  go_wp2_with fail
  refine (valEmb_any _ HG.out).mono ?_
  rintro e w1 ⟨rfl, rfl⟩
  have gA := Gr.nil w w.heap.size 67 (fun _ => .int .u64 0)
  go_wp2_with (at_builtin; go_must (refine wpList_cat _ rfl _ _ 43 rfl w.heap.size 67 (.int .u64 0) 8 Tryd.underlying43 Tryd.infoClass rfl _ _ _ rfl gA rfl hx (fun _ _ => rfl) (by omega) (by omega) (by omega) ?_))
  intro v2 w2 hg2 hgr2 _
  have hs12 : w.Since w.heap.size w2 := (World.Since.refl _ _).grown hgr2 (Nat.le_refl _) (by simp [Value.ownBlock])
  have hg2' : Gr w2 w.heap.size 67 v2 N (fun i => .int .u64 (cls (x i))) := by first | exact hg2 | (rw [Nat.zero_add] at hg2; exact hg2.congr fun i _ => by simp)
  obtain ⟨b0, c0, rfl, hb0⟩ := hg2'.form h0
  have hx2 := hx.since hs12
  have HS12 := Lib.hid hs12
  have HG2 := Lib.hid hg2'
  have hz12 := hs12.size
  have gB := Gr.nil w2 w2.heap.size 67 (fun _ => .int .u64 0)
  have HK := Lib.hid hk
  have HV := Lib.hid hv
  clear gA hg2 hgr2 hs12 hg2' hx hk hv
  go_wp2_with (at_builtin; go_must (refine wpList_cat _ rfl _ _ 43 rfl w2.heap.size 67 (.int .u64 0) 8 Tryd.underlying43 Tryd.infoClass rfl _ _ _ rfl gB rfl hx2 (fun _ _ => rfl) (by omega) (by omega) (by omega) ?_))
  intro v3 w3 hg3 hgr3 _
  have hs23 : w2.Since w2.heap.size w3 := (World.Since.refl _ _).grown hgr3 (Nat.le_refl _) (by simp [Value.ownBlock])
  have hg3' : Gr w3 w2.heap.size 67 v3 N (fun i => .int .u64 (cls (x i))) := by first | exact hg3 | (rw [Nat.zero_add] at hg3; exact hg3.congr fun i _ => by simp)
  obtain ⟨T, capT, rfl, hT0⟩ := hg3'.form h0
  have hTlt := (hg3'.ge T rfl).2
  have hb0lt := (HG2.out.ge b0 rfl).2
  have hG2 := HG2.out.since hs23
  have hs13 := since2 HS12.out hs23
  have hz23 := hs23.size
  have hsA : w3.Since w3.heap.size (w3.alloc (.cells #[.slice (some ⟨b0, 0, none⟩) N c0, .slice (some ⟨bt, 0, none⟩) N ct, .slice (some ⟨bv, 0, none⟩) N cv, .int .i8 g, .slice (some ⟨T, 0, none⟩) N capT, .slice none 0 0, .slice none 0 0, .slice none 0 0] 70)) := (World.Since.refl _ _).alloc (Nat.le_refl _) _
  have hP : (w3.alloc (.cells #[.slice (some ⟨b0, 0, none⟩) N c0, .slice (some ⟨bt, 0, none⟩) N ct, .slice (some ⟨bv, 0, none⟩) N cv, .int .i8 g, .slice (some ⟨T, 0, none⟩) N capT, .slice none 0 0, .slice none 0 0, .slice none 0 0] 70)).rowIs w3.heap.size 70 8 (pf (.slice (some ⟨b0, 0, none⟩) N c0) (.slice (some ⟨bt, 0, none⟩) N ct) (.slice (some ⟨bv, 0, none⟩) N cv) (.int .i8 g) (.slice (some ⟨T, 0, none⟩) N capT) (.slice none 0 0) (.slice none 0 0) (.slice none 0 0)) :=
    World.rowIs_alloc w3 #[_, _, _, _, _, _, _, _] _ _ (fun i hi => match i, hi with
      | 0, _ => rfl
      | 1, _ => rfl
      | 2, _ => rfl
      | 3, _ => rfl
      | 4, _ => rfl
      | 5, _ => rfl
      | 6, _ => rfl
      | 7, _ => rfl)
  have hsw := since2 hs13 hsA
  have hk4 := HK.out.since hsw
  have hv4 := HV.out.since hsw
  have hi4 := (hG2.since hsA).sees' h0
  have hT4 := hg3'.since hsA
  have hbtlt := HK.out.lt h0
  have hbvlt := HV.out.lt h0
  have HRUN := Lib.hid (run_any (B := w2.heap.size) _ hN HNB.out h0 HG.out HOK.out HB7.out HKD.out hP hi4 hk4 hv4 hT4 (by omega) (by omega))
  have HSW := Lib.hid hsw
  clear gB hg3 hgr3 hs23 hg3' hG2 hs13 hsA hP hsw hk4 hv4 hi4 hT4 hx2
  go_wp2_with fail
  refine HRUN.out.mono ?_
  rintro e wf ⟨rfl, R, N6, N7, ft, fl, hD, hR, hrow, hinit, hty, hlv, hkp⟩
  go_wp2_with fail
  go_ret2
  have hsf : w.Since w.heap.size wf := since_kp HSW.out hkp HSW.out.size (fun k hk => by rcases hk with e | e <;> omega)
  exact ⟨_, b0, T, R, N6, N7, c0, capT, ft, fl, rfl, hD, hrow, hinit, hty.base (by omega), hlv, ⟨by have := HSW.out.size; omega, by omega⟩, hsf⟩
end Go.Proofs.YtkocpijloiamcaaDoor
