/- (*isolatingRunSequence).Len, resolveWeakTypes (W1 to W7): the walk. -/
import Derived.Test.YtkocpijloiamcaaDoorNeuW
import Derived.Test.YtkocpijloiamcaaDoorGI
namespace Go.Proofs.YtkocpijloiamcaaDoor
open Go.RowKit

theorem seqLen_any {S : Nat} {ao : Option Addr} {n c : Nat} (w : World) (h : w.cell? ⟨S, 1, none⟩ = some (.slice ao n c)) :
    Calls Tryd.prog 79 #[.pointer (some ⟨S, 0, none⟩)] w fun e w' => e = .returned (.int .i64 n) ∧ w = w' := by
  go_enter Tryd.func79, Tryd.ntmps79
  go_wp2_with fail
  go_ret
  exact ⟨rfl, rfl⟩

/-- The classes while they are changed in place. -/
structure WS (wA : World) (B q cap n : Nat) (F : Nat → Int) (wx : World) : Prop where
  kept : Kp (fun k => k = q) wA wx
  types : Gr wx B 67 (.slice (some ⟨q, 0, none⟩) n cap) n (fun i => .int .u64 (F i))

section
variable {wA wx wy : World} {B q cap n : Nat} {F G : Nat → Int}
theorem WS.congr (h : WS wA B q cap n F wx) (e : ∀ i, i < n → F i = G i) : WS wA B q cap n G wx := ⟨h.kept, h.types.congr (fun i hi => by rw [e i hi])⟩
theorem WS.since (h : WS wA B q cap n F wx) (s : wx.Since wx.heap.size wy) : WS wA B q cap n F wy := ⟨h.kept.call s, h.types.since s⟩
theorem WS.set (h : WS wA B q cap n F wx) (k : Nat) (v : Int) (e : ∀ i, i < n → (if i = k then v else F i) = G i) : WS wA B q cap n G (wx.setCell ⟨q, k, none⟩ (.int .u64 v)) :=
  ⟨h.kept.setCell (a := ⟨q, k, none⟩) (.inl rfl) _, (h.types.set k (.int .u64 v)).congr (fun i hi => by rw [← e i hi]; split <;> rfl)⟩
theorem WS.alloc (h : WS wA B q cap n F wx) (o : Obj) : WS wA B q cap n F (wx.alloc o) := ⟨h.kept.alloc o, h.types.alloc o⟩
theorem WS.cell (h : WS wA B q cap n F wx) {k : Nat} (hk : k < n) : wx.cell? ⟨q, k, none⟩ = some (.int .u64 (F k)) := h.types.cell hk
end

theorem sb_step_w2 {f : Nat → Int} {s : Int} (r : Nat) : sb f s (r + 1) = if memB [0, 1, 13] (w2 f s r) = true then w2 f s r else sb f s r := by
  rw [← sb_w2, sb, sb_w2]
  by_cases h : memB [0, 1, 13] (w2 f s r) = true
  · have q := memB_iff.1 h
    simp only [List.mem_cons, List.not_mem_nil, or_false] at q
    rw [if_pos h, if_pos q]
  · have q : ¬ (w2 f s r = 0 ∨ w2 f s r = 1 ∨ w2 f s r = 13) := fun q => h (memB_iff.2 (by simpa using q))
    rw [if_neg h, if_neg q]

theorem w6_mem {f : Nat → Int} {k : Nat} : w6 f k = if memB [3, 4, 6] (f k) = true then 10 else f k := by
  unfold w6
  by_cases h : memB [3, 4, 6] (f k) = true
  · have q := memB_iff.1 h
    simp only [List.mem_cons, List.not_mem_nil, or_false] at q
    rw [if_pos h, if_pos q]
  · have q : ¬ (f k = 3 ∨ f k = 4 ∨ f k = 6) := fun q => h (memB_iff.2 (by simpa using q))
    rw [if_neg h, if_neg q]

theorem no13 {n : Nat} {f : Nat → Int} (i : Nat) : w6 (w5 n (w4 n (w3 f))) i ≠ 13 := by
  have h3 : ∀ i, w3 f i ≠ 13 := fun i => by unfold w3; split <;> omega
  have h4 : ∀ i, w4 n (w3 f) i ≠ 13 := fun i => by
    cases i with
    | zero => exact h3 0
    | succ i =>
      rw [w4]
      split
      · unfold st4
        split
        · omega
        · split
          · omega
          · exact h3 _
      · exact h3 _
  have h5 : w5 n (w4 n (w3 f)) i ≠ 13 := by
    rcases w5_or (n := n) (f := w4 n (w3 f)) i with e | e
    · rw [e]; exact h4 i
    · omega
  unfold w6
  split
  · omega
  · exact h5

theorem sb_step_w7 {f : Nat → Int} {s : Int} (r : Nat) (h : f r ≠ 13) : sb f s (r + 1) = if w7 f s r = 0 ∨ w7 f s r = 1 then w7 f s r else sb f s r := by
  rw [← sb_w7, sb, sb_w7]
  have : w7 f s r ≠ 13 := by unfold w7; split <;> omega
  by_cases q : w7 f s r = 0 ∨ w7 f s r = 1
  · rw [if_pos q, if_pos (by omega)]
  · rw [if_neg q, if_neg (by omega)]

def weakL : List Int := [0, 1, 13, 2, 3, 4, 5, 6, 7, 8, 9, 10, 12, 21, 22, 23, 24]

set_option maxHeartbeats 40000000 in
set_option maxRecDepth 100000 in
theorem resolveWeak_any {S q cap n B : Nat} {f0 f3 f4 : Value} {ai : Option Addr} {ci : Nat} {c : Nat → Int} {sos eos : Int} (w : World) (hn : n ≤ 8589934592) (h0 : 0 < n) (hsos : sos = 0 ∨ sos = 1) (heos : eos = 0 ∨ eos = 1)
    (hp : w.rowIs S 109 7 (sf f0 (.slice ai n ci) (.slice (some ⟨q, 0, none⟩) n cap) f3 f4 (.int .u64 sos) (.int .u64 eos))) (hg : Gr w B 67 (.slice (some ⟨q, 0, none⟩) n cap) n (fun i => .int .u64 (c i))) (hqS : q ≠ S) :
    Calls Tryd.prog 62 #[.pointer (some ⟨S, 0, none⟩)] w fun e w' =>
      ((allB weakL c n = true ∧ e = .returned (.tuple #[]) ∧ Gr w' B 67 (.slice (some ⟨q, 0, none⟩) n cap) n (fun i => .int .u64 (weakI n sos c i))) ∨ (allB weakL c n = false ∧ Died e)) ∧ Kp (fun k => k = q) w w' := by
  have hSlt := hp.lt
  have hqlt := (hg.ge q rfl).2
  have hh := heap_alloc_new w (.cells (weakL.map (Value.int .u64)).toArray 67)
  obtain ⟨wA, hwA⟩ : ∃ wA, wA = w.alloc (.cells (weakL.map (Value.int .u64)).toArray 67) := ⟨_, rfl⟩
  have hpA : wA.rowIs S 109 7 (sf f0 (.slice ai n ci) (.slice (some ⟨q, 0, none⟩) n cap) f3 f4 (.int .u64 sos) (.int .u64 eos)) := by rw [hwA]; exact hp.alloc _
  have hgA : Gr wA B 67 (.slice (some ⟨q, 0, none⟩) n cap) n (fun i => .int .u64 (c i)) := by rw [hwA]; exact hg.alloc _
  have hKA : Kp (fun k => k = q) w wA := by rw [hwA]; exact (Kp.refl _ _).alloc _
  have k2 : wA.cell? ⟨S, 2, none⟩ = some (.slice (some ⟨q, 0, none⟩) n cap) := hpA.cell (by omega)
  rw [← hwA] at hh
  have HW := Lib.hid hwA
  clear hp hg
  go_enter Tryd.func62, Tryd.ntmps62
  go_wp2_with fail
  change Calls _ _ _ (w.alloc (.cells (weakL.map (Value.int .u64)).toArray 67)) _
  rw [← HW.out]
  clear hwA HW
  refine (assertOnly_any weakL _ hn (by decide) k2 (hgA.sees' h0) hh).mono ?_
  rintro e w1 ⟨h, rfl⟩
  rcases h with ⟨hall, rfl⟩ | ⟨hbad, u, pv, rfl⟩
  case inr =>
    have HBAD := Lib.hid hbad
    clear hbad
    go_wp2_with fail
    exact ⟨rfl, .inr ⟨HBAD.out, ⟨_, _, rfl⟩⟩, hKA⟩
  have HALL := Lib.hid hall
  clear hall hh
  have HRow : ∀ (wx : World) (F : Nat → Int), WS wA B q cap n F wx → wx.rowIs S 109 7 (sf f0 (.slice ai n ci) (.slice (some ⟨q, 0, none⟩) n cap) f3 f4 (.int .u64 sos) (.int .u64 eos)) := fun _ _ h => h.kept.row hpA (fun e => hqS e.symm)
  have HR := Lib.hid HRow
  have hW0 : WS wA B q cap n c wA := ⟨Kp.refl _ _, hgA⟩
  have k5 : wA.cell? ⟨S, 5, none⟩ = some (.int .u64 sos) := hpA.cell (by omega)
  clear HRow hpA hgA
  go_upto_block 0 with fail
  clear k2
  go_cut [] (fun wx => WS wA B q cap n (w1 c sos) wx)
  case first =>
    go_wp2_with fail
    go_loopg [2, 38] n (fun g p i wr => ∃ k : Nat, k ≤ n ∧ g = n - k ∧ i = .int .i64 k ∧ p = .int .u64 (pr c sos k) ∧ WS wA B q cap n (mix k (w1 c sos) c) wr)
    case atStart => exact ⟨0, by omega, rfl, rfl, rfl, hW0.congr (fun i _ => (mix_ge (by omega)).symm)⟩
    case round =>
      clear hW0 k5
      obtain ⟨k, hk, rfl, rfl, rfl, hW⟩ := hrel
      by_cases hkn : k < n
      · have hkz : (k : Int) < (n : Int) := by omega
        have hc := hW.cell hkn
        rw [mix_ge (Nat.le_refl _)] at hc
        have k2 : wr.cell? ⟨S, 2, none⟩ = some (.slice (some ⟨q, 0, none⟩) n cap) := (HR.out _ _ hW).cell (by omega)
        have hz := hW.types.frozen k
        by_cases h12 : c k = 12
        · have hb : (c k == 12) = true := by simp [h12]
          have hpr : pr c sos (k + 1) = pr c sos k := by rw [pr, if_pos h12]
          have hW' := hW.set k (pr c sos k) (G := mix (k + 1) (w1 c sos) c) (fun i _ => by
            rw [mix_step, show w1 c sos k = pr c sos k from hpr])
          have HPR := Lib.hid hpr
          clear hW hpr h12
          go_wp2_with fail
          go_roundg (n - (k + 1))
          case rel => exact ⟨k + 1, by omega, rfl, by go_num, by rw [HPR.out], hW'⟩
          case measure => omega
        · have hb : (c k == 12) = false := by simp [h12]
          have hpr : pr c sos (k + 1) = c k := by rw [pr, if_neg h12]
          have hW' := hW.congr (G := mix (k + 1) (w1 c sos) c) (fun i _ => (mix_same (show w1 c sos k = c k from hpr) i).symm)
          have HPR := Lib.hid hpr
          clear hW hpr h12
          go_wp2_with fail
          go_roundg (n - (k + 1))
          case rel => exact ⟨k + 1, by omega, rfl, by go_num, by rw [HPR.out], hW'⟩
          case measure => omega
      · obtain rfl : k = n := by omega
        go_wp2_with fail
        go_meet
        exact hW.congr (fun i hi => mix_lt hi)
  clear hW0 k5
  have hWn := hcut
  clear hcut
  obtain ⟨f1, hf1⟩ : ∃ f1, f1 = w1 c sos := ⟨_, rfl⟩
  rw [← hf1] at hWn
  have HF1 := Lib.hid hf1
  clear hf1
  have k2 : wc.cell? ⟨S, 2, none⟩ = some (.slice (some ⟨q, 0, none⟩) n cap) := (HR.out _ _ hWn).cell (by omega)
  go_upto_block 2 with fail
  clear k2
  go_cut [] (fun wx => WS wA B q cap n (w2 f1 sos) wx)
  case first =>
    go_wp2_with fail
    go_loopg [59] n (fun g i wr => ∃ k : Nat, k ≤ n ∧ g = n - k ∧ i = .int .i64 k ∧ WS wA B q cap n (mix k (w2 f1 sos) f1) wr)
    case atStart => exact ⟨0, by omega, rfl, rfl, hWn.congr (fun i _ => (mix_ge (by omega)).symm)⟩
    case round =>
      clear hWn
      obtain ⟨k, hk, rfl, rfl, hW⟩ := hrel
      by_cases hkn : k < n
      · have hkz : (k : Int) < (n : Int) := by omega
        have hc := hW.cell hkn
        rw [mix_ge (Nat.le_refl _)] at hc
        obtain ⟨v, hv⟩ : ∃ v, v = f1 k := ⟨_, rfl⟩
        rw [← hv] at hc
        have HV := Lib.hid hv
        clear hv
        go_upto_block 3 with fail
        go_cut [] (fun wx => WS wA B q cap n (mix (k + 1) (w2 f1 sos) f1) wx)
        case first =>
          by_cases h2 : v = 2
          · have hb : (v == 2) = true := by simp [h2]
            have HK2 := Lib.hid h2
            clear h2
            go_wp2_with fail
            clear hc
            go_loopg [7] k (fun g i wx => ∃ m : Nat, m ≤ k ∧ g = m ∧ i = .int .i64 ((m : Int) - 1) ∧ Hid (sb f1 sos k = sb f1 sos m) ∧ WS wA B q cap n (mix k (w2 f1 sos) f1) wx)
            case atStart => exact ⟨k, Nat.le_refl _, rfl, rfl, rfl, hW⟩
            case round =>
              clear hW
              obtain ⟨m, hm, hgm, rfl, HA, hW⟩ := hrel
              cases m with
              | zero =>
                have hW' := hW.congr (G := mix (k + 1) (w2 f1 sos) f1) (fun i _ => (mix_same (show w2 f1 sos k = f1 k by
                  unfold w2; rw [if_neg]; intro ⟨_, z⟩; rw [HA.out, sb] at z; omega) i).symm)
                clear hW
                go_wp2_with fail
                go_meet
                exact hW'
              | succ r =>
                rw [show ((r + 1 : Nat) : Int) - 1 = (r : Int) by omega]
                have hcr := hW.cell (k := r) (by omega)
                rw [mix_lt (by omega)] at hcr
                have k2 : wr.cell? ⟨S, 2, none⟩ = some (.slice (some ⟨q, 0, none⟩) n cap) := (HR.out _ _ hW).cell (by omega)
                have hst := sb_step_w2 (f := f1) (s := sos) r
                obtain ⟨u, hu⟩ : ∃ u, u = w2 f1 sos r := ⟨_, rfl⟩
                rw [← hu] at hcr hst
                have hst' := HA.out.trans hst
                clear hst hu
                have hh3 := heap_alloc_new wr (.cells #[.int .u64 0, .int .u64 1, .int .u64 13] 67)
                have hW3 := hW.alloc (.cells #[.int .u64 0, .int .u64 1, .int .u64 13] 67)
                have HST := Lib.hid hst'
                clear hst'
                go_wp2_with fail
                refine (in_any [0, 1, 13] _ _ (by decide) hh3).mono ?_
                rintro e w5 ⟨rfl, rfl⟩
                by_cases hm : memB [0, 1, 13] u = true
                · rw [hm]
                  have hsbk : sb f1 sos k = u := by rw [HST.out, if_pos hm]
                  clear hcr k2 hh3
                  have k3 : (wr.alloc (.cells #[.int .u64 0, .int .u64 1, .int .u64 13] 67)).cell? ⟨S, 2, none⟩ = some (.slice (some ⟨q, 0, none⟩) n cap) := (HR.out _ _ hW3).cell (by omega)
                  have hz := hW3.types.frozen k
                  have hck := hW3.cell hkn
                  rw [mix_ge (Nat.le_refl _), ← HV.out] at hck
                  by_cases h13 : u = 13
                  · have hb13 : (u == 13) = true := by simp [h13]
                    have hW4 := hW3.set k 5 (G := mix (k + 1) (w2 f1 sos) f1) (fun i _ => by
                      rw [mix_step, show w2 f1 sos k = 5 by unfold w2; rw [if_pos ⟨by rw [← HV.out]; exact HK2.out, by omega⟩]])
                    clear hW hW3 hsbk h13 hm
                    obtain ⟨wq, hwq⟩ : ∃ wq, wq = wr.alloc (.cells #[.int .u64 0, .int .u64 1, .int .u64 13] 67) := ⟨_, rfl⟩
                    rw [← hwq] at k3 hz hck hW4 ⊢
                    clear hwq
                    go_wp2_with fail
                    go_meet
                    exact hW4
                  · have hb13 : (u == 13) = false := by simp [h13]
                    have hW4 := hW3.congr (G := mix (k + 1) (w2 f1 sos) f1) (fun i _ => (mix_same (show w2 f1 sos k = f1 k by
                      unfold w2; rw [if_neg (by omega)]) i).symm)
                    clear hW hW3 hsbk h13 hm
                    go_wp2_with fail
                    go_meet
                    exact hW4
                · have hm' : memB [0, 1, 13] u = false := by simpa using hm
                  rw [hm']
                  have hsbk : sb f1 sos k = sb f1 sos r := by rw [HST.out, if_neg hm]
                  have HB := Lib.hid hsbk
                  clear hm hm' hsbk hW
                  go_wp2_with fail
                  go_roundg r
                  case rel => exact ⟨r, by omega, rfl, by go_num, HB.out, hW3⟩
                  case measure => omega
          · have hb : (v == 2) = false := by simp [h2]
            have hW' := hW.congr (G := mix (k + 1) (w2 f1 sos) f1) (fun i _ => (mix_same (show w2 f1 sos k = f1 k by
              unfold w2; rw [← HV.out, if_neg (by omega)]) i).symm)
            clear hW h2
            go_wp2_with fail
            go_meet
            exact hW'
        clear hc hW
        have hW := hcut
        clear hcut
        go_wp2_with fail
        go_roundg (n - (k + 1))
        case rel => exact ⟨k + 1, by omega, rfl, by go_num, hW⟩
        case measure => omega
      · obtain rfl : k = n := by omega
        go_wp2_with fail
        go_meet
        exact hW.congr (fun i hi => mix_lt hi)
  clear hWn
  have hWn := hcut
  clear hcut
  obtain ⟨f2, hf2⟩ : ∃ f2, f2 = w2 f1 sos := ⟨_, rfl⟩
  rw [← hf2] at hWn
  have HF2 := Lib.hid hf2
  clear hf2
  have k2 : wc.cell? ⟨S, 2, none⟩ = some (.slice (some ⟨q, 0, none⟩) n cap) := (HR.out _ _ hWn).cell (by omega)
  go_upto_block 6 with fail
  clear k2
  go_cut [] (fun wx => WS wA B q cap n (w3 f2) wx)
  case first =>
    go_wp2_with fail
    go_loopg [96] n (fun g i wr => ∃ k : Nat, k ≤ n ∧ g = n - k ∧ i = .int .i64 k ∧ WS wA B q cap n (mix k (w3 f2) f2) wr)
    case atStart => exact ⟨0, by omega, rfl, rfl, hWn.congr (fun i _ => (mix_ge (by omega)).symm)⟩
    case round =>
      clear hWn
      obtain ⟨k, hk, rfl, rfl, hW⟩ := hrel
      by_cases hkn : k < n
      · have hkz : (k : Int) < (n : Int) := by omega
        have hc := hW.cell hkn
        rw [mix_ge (Nat.le_refl _)] at hc
        have k2 : wr.cell? ⟨S, 2, none⟩ = some (.slice (some ⟨q, 0, none⟩) n cap) := (HR.out _ _ hW).cell (by omega)
        have hz := hW.types.frozen k
        by_cases h2 : f2 k = 13
        · have hb : (f2 k == 13) = true := by simp [h2]
          have hW' := hW.set k 1 (G := mix (k + 1) (w3 f2) f2) (fun i _ => by
            rw [mix_step, show w3 f2 k = 1 by unfold w3; rw [if_pos h2]])
          clear hW h2
          go_wp2_with fail
          go_roundg (n - (k + 1))
          case rel => exact ⟨k + 1, by omega, rfl, by go_num, hW'⟩
          case measure => omega
        · have hb : (f2 k == 13) = false := by simp [h2]
          have hW' := hW.congr (G := mix (k + 1) (w3 f2) f2) (fun i _ => (mix_same (show w3 f2 k = f2 k by
            unfold w3; rw [if_neg h2]) i).symm)
          clear hW h2
          go_wp2_with fail
          go_roundg (n - (k + 1))
          case rel => exact ⟨k + 1, by omega, rfl, by go_num, hW'⟩
          case measure => omega
      · obtain rfl : k = n := by omega
        go_wp2_with fail
        go_meet
        exact hW.congr (fun i hi => mix_lt hi)
  clear hWn
  have hWn := hcut
  clear hcut
  obtain ⟨f3', hf3⟩ : ∃ f3', f3' = w3 f2 := ⟨_, rfl⟩
  rw [← hf3] at hWn
  have HF3 := Lib.hid hf3
  clear hf3
  go_upto_block 8 with fail
  go_cut [] (fun wx => WS wA B q cap n (w4 n f3') wx)
  case first =>
    go_wp2_with fail
    go_loopg [11] (n - 1) (fun g i wr => ∃ k : Nat, 1 ≤ k ∧ k ≤ n ∧ g = n - k ∧ i = .int .i64 k ∧ WS wA B q cap n (mix k (w4 n f3') f3') wr)
    case atStart => exact ⟨1, by omega, by omega, rfl, rfl, hWn.congr (fun i _ => by rw [show mix 1 (w4 n f3') f3' i = mix 0 (w4 n f3') f3' i from mix_same (k := 0) (g := w4 n f3') (f := f3') rfl i, mix_ge (by omega)])⟩
    case round =>
      clear hWn
      obtain ⟨k, hk1, hk, rfl, rfl, hW⟩ := hrel
      have hk1z : (1 : Int) ≤ (k : Int) := by omega
      have k1 : wr.cell? ⟨S, 1, none⟩ = some (.slice ai n ci) := (HR.out _ _ hW).cell (by omega)
      by_cases hkn : k + 1 < n
      · have hkz : (k : Int) < (n : Int) - 1 := by omega
        go_wp2_with fail
        refine (seqLen_any _ k1).mono ?_
        rintro e w5 ⟨rfl, rfl⟩
        have k2 : wr.cell? ⟨S, 2, none⟩ = some (.slice (some ⟨q, 0, none⟩) n cap) := (HR.out _ _ hW).cell (by omega)
        have hc := hW.cell (k := k) (by omega)
        rw [mix_ge (Nat.le_refl _)] at hc
        have hca := hW.cell (k := k - 1) (by omega)
        rw [mix_lt (by omega)] at hca
        have hcb := hW.cell (k := k + 1) (by omega)
        rw [mix_ge (by omega)] at hcb
        have hz := hW.types.frozen k
        have hst : w4 n f3' k = st4 (w4 n f3' (k - 1)) (f3' k) (f3' (k + 1)) := by
          obtain ⟨r, rfl⟩ : ∃ r, k = r + 1 := ⟨k - 1, by omega⟩
          rw [w4, if_pos (by omega)]; rfl
        obtain ⟨v, hv⟩ : ∃ v, v = f3' k := ⟨_, rfl⟩
        obtain ⟨a, ha⟩ : ∃ a, a = w4 n f3' (k - 1) := ⟨_, rfl⟩
        obtain ⟨b, hb⟩ : ∃ b, b = f3' (k + 1) := ⟨_, rfl⟩
        rw [← hv, ← ha, ← hb] at hst
        rw [← hv] at hc
        rw [← ha] at hca
        rw [← hb] at hcb
        have HV := Lib.hid hv
        have HST := Lib.hid hst
        clear hv ha hb hst k1
        have hi1 : (k : Int) - 1 < (n : Int) := by omega
        have hi2 : (0 : Int) ≤ (k : Int) - 1 := by omega
        have hi3 : (k : Int) + 1 < (n : Int) := by omega
        have hi4 : (k : Int) < (n : Int) := by omega
        go_upto_block 9 with fail
        go_cut [] (fun wx => WS wA B q cap n (mix (k + 1) (w4 n f3') f3') wx)
        case first =>
          by_cases h3 : v = 3
          · have b3 : (v == 3) = true := by simp [h3]
            have b6 : (v == 6) = false := by simp [h3]
            by_cases a2 : a = 2
            · have ba : (a == 2) = true := by simp [a2]
              have ba5 : (a == 5) = false := by simp [a2]
              by_cases b2 : b = 2
              · have bb : (b == 2) = true := by simp [b2]
                have hW' := hW.set k 2 (G := mix (k + 1) (w4 n f3') f3') (fun i _ => by rw [mix_step, show w4 n f3' k = 2 by rw [HST.out]; unfold st4; rw [if_pos (by omega)]])
                clear hW
                go_wp2_with fail
                go_meet
                exact hW'
              · have bb : (b == 2) = false := by simp [b2]
                have hW' := hW.congr (G := mix (k + 1) (w4 n f3') f3') (fun i _ => (mix_same (show w4 n f3' k = f3' k by rw [HST.out, ← HV.out]; unfold st4; rw [if_neg (by omega), if_neg (by omega)]) i).symm)
                clear hW
                go_wp2_with fail
                go_meet
                exact hW'
            · have ba : (a == 2) = false := by simp [a2]
              have hW' := hW.congr (G := mix (k + 1) (w4 n f3') f3') (fun i _ => (mix_same (show w4 n f3' k = f3' k by rw [HST.out, ← HV.out]; unfold st4; rw [if_neg (by omega), if_neg (by omega)]) i).symm)
              clear hW
              go_wp2_with fail
              go_meet
              exact hW'
          · have b3 : (v == 3) = false := by simp [h3]
            by_cases h6 : v = 6
            · have b6 : (v == 6) = true := by simp [h6]
              by_cases a2 : a = 2
              · have ba : (a == 2) = true := by simp [a2]
                have ba5 : (a == 5) = false := by simp [a2]
                by_cases b2 : b = 2
                · have bb : (b == 2) = true := by simp [b2]
                  have hW' := hW.set k 2 (G := mix (k + 1) (w4 n f3') f3') (fun i _ => by rw [mix_step, show w4 n f3' k = 2 by rw [HST.out]; unfold st4; rw [if_pos (by omega)]])
                  clear hW
                  go_wp2_with fail
                  go_meet
                  exact hW'
                · have bb : (b == 2) = false := by simp [b2]
                  have hW' := hW.congr (G := mix (k + 1) (w4 n f3') f3') (fun i _ => (mix_same (show w4 n f3' k = f3' k by rw [HST.out, ← HV.out]; unfold st4; rw [if_neg (by omega), if_neg (by omega)]) i).symm)
                  clear hW
                  go_wp2_with fail
                  go_meet
                  exact hW'
              · have ba : (a == 2) = false := by simp [a2]
                by_cases a5 : a = 5
                · have ba5 : (a == 5) = true := by simp [a5]
                  by_cases b5 : b = 5
                  · have bb5 : (b == 5) = true := by simp [b5]
                    have hW' := hW.set k 5 (G := mix (k + 1) (w4 n f3') f3') (fun i _ => by rw [mix_step, show w4 n f3' k = 5 by rw [HST.out]; unfold st4; rw [if_neg (by omega), if_pos (by omega)]])
                    clear hW
                    go_wp2_with fail
                    go_meet
                    exact hW'
                  · have bb5 : (b == 5) = false := by simp [b5]
                    have hW' := hW.congr (G := mix (k + 1) (w4 n f3') f3') (fun i _ => (mix_same (show w4 n f3' k = f3' k by rw [HST.out, ← HV.out]; unfold st4; rw [if_neg (by omega), if_neg (by omega)]) i).symm)
                    clear hW
                    go_wp2_with fail
                    go_meet
                    exact hW'
                · have ba5 : (a == 5) = false := by simp [a5]
                  have hW' := hW.congr (G := mix (k + 1) (w4 n f3') f3') (fun i _ => (mix_same (show w4 n f3' k = f3' k by rw [HST.out, ← HV.out]; unfold st4; rw [if_neg (by omega), if_neg (by omega)]) i).symm)
                  clear hW
                  go_wp2_with fail
                  go_meet
                  exact hW'
            · have b6 : (v == 6) = false := by simp [h6]
              have hW' := hW.congr (G := mix (k + 1) (w4 n f3') f3') (fun i _ => (mix_same (show w4 n f3' k = f3' k by rw [HST.out, ← HV.out]; unfold st4; rw [if_neg (by omega), if_neg (by omega)]) i).symm)
              clear hW
              go_wp2_with fail
              go_meet
              exact hW'
        clear hW hc hca hcb hz k2
        have hW := hcut
        clear hcut
        go_wp2_with fail
        go_roundg (n - (k + 1))
        case rel => exact ⟨k + 1, by omega, by omega, rfl, by go_num, hW⟩
        case measure => omega
      · have hkz : ¬ (k : Int) < (n : Int) - 1 := by omega
        have hkz2 : (n : Int) - 1 ≤ (k : Int) := by omega
        go_wp2_with fail
        refine (seqLen_any _ k1).mono ?_
        rintro e w5 ⟨rfl, rfl⟩
        go_wp2_with fail
        go_meet
        exact hW.congr (fun i hi => by
          by_cases h : i < k
          · exact mix_lt h
          · rw [mix_ge (by omega), w4_last (by omega)])
  clear hWn
  have hWn := hcut
  clear hcut
  obtain ⟨f4', hf4⟩ : ∃ f4', f4' = w4 n f3' := ⟨_, rfl⟩
  rw [← hf4] at hWn
  have HF4 := Lib.hid hf4
  clear hf4
  have k2 : wc.cell? ⟨S, 2, none⟩ = some (.slice (some ⟨q, 0, none⟩) n cap) := (HR.out _ _ hWn).cell (by omega)
  go_upto_block 10 with fail
  clear k2
  go_cut [] (fun wx => WS wA B q cap n (w5 n f4') wx)
  case first =>
    go_wp2_with fail
    go_loopg [185] n (fun g i wr => ∃ k : Nat, k ≤ n ∧ g = n - k ∧ i = .int .i64 k ∧ ∃ cur, WS wA B q cap n cur wr ∧ Hid (W5St n f4' k cur))
    case atStart => exact ⟨0, by omega, rfl, rfl, f4', hWn, W5St.start⟩
    case round =>
      clear hWn
      obtain ⟨k, hk, rfl, rfl, cur, hW, HS⟩ := hrel
      by_cases hkn : k < n
      · have hkz : (k : Int) < (n : Int) := by omega
        have hc := hW.cell hkn
        obtain ⟨v, hv⟩ : ∃ v, v = cur k := ⟨_, rfl⟩
        rw [← hv] at hc
        have HV := Lib.hid hv
        clear hv
        go_upto_block 11 with fail
        go_cut [] (fun wx => ∃ cur, WS wA B q cap n cur wx ∧ Hid (W5St n f4' (k + 1) cur))
        case first =>
          by_cases h4 : v = 4
          case neg =>
            have hb : (v == 4) = false := by simp [h4]
            have R := Lib.hid (HS.out.skip hkn (by rw [← HV.out]; exact h4))
            clear h4
            go_wp2_with fail
            go_meet
            exact ⟨cur, hW, R.out⟩
          have hb : (v == 4) = true := by simp [h4]
          have H4 := Lib.hid (HV.out.symm.trans h4)
          clear h4
          have hh2 := heap_alloc_new wr (.cells #[.int .u64 4] 67)
          have hW2 := hW.alloc (.cells #[.int .u64 4] 67)
          have k2' : (wr.alloc (.cells #[.int .u64 4] 67)).cell? ⟨S, 2, none⟩ = some (.slice (some ⟨q, 0, none⟩) n cap) := (HR.out _ _ hW2).cell (by omega)
          have HFR := findRunLimit_any [4] _ hn (by omega : k ≤ n) (by decide) k2' (hW2.types.sees' h0) hh2
          go_upto_region 43 with fail
          go_wp2_with fail
          refine HFR.mono ?_
          rintro e w5 ⟨rfl, rfl⟩
          obtain ⟨w6, hw6⟩ : ∃ w6, w6 = wr.alloc (.cells #[.int .u64 4] 67) := ⟨_, rfl⟩
          rw [← hw6] at hW2 k2' ⊢
          obtain ⟨E, hE⟩ : ∃ E, E = nxt (fun j => memB [4] (cur j)) (n - k) k := ⟨_, rfl⟩
          rw [← hE]
          have hEn : E ≤ n := by have := nxt_le (N := fun j => memB [4] (cur j)) (n - k) k; omega
          have hEk1 : k + 1 ≤ E := by
            have h1 := nxt_neu (N := fun j => memB [4] (cur j)) hkn (by rw [mem4]; exact decide_eq_true H4.out)
            have h2 := nxt_ge (N := fun j => memB [4] (cur j)) (n - (k + 1)) (k + 1)
            rw [← h1, ← hE] at h2
            exact h2
          have HE := Lib.hid hE
          clear hE hw6 hh2 HFR hc hW
          have k5 : w6.cell? ⟨S, 5, none⟩ = some (.int .u64 sos) := (HR.out _ _ hW2).cell (by omega)
          have k6 : w6.cell? ⟨S, 6, none⟩ = some (.int .u64 eos) := (HR.out _ _ hW2).cell (by omega)
          obtain ⟨t1, ht1⟩ : ∃ t1, t1 = if k = 0 then sos else cur (k - 1) := ⟨_, rfl⟩
          obtain ⟨t2, ht2⟩ : ∃ t2, t2 = if E < n then cur E else eos := ⟨_, rfl⟩
          have HT1 := Lib.hid ht1
          have HT2 := Lib.hid ht2
          clear ht1 ht2
          go_upto_region 44 with fail
          go_cut [19] (fun t wx => t = .int .u64 sos ∧ wx = w6)
          case first =>
            go_wp2_with fail
            go_meet
            exact ⟨rfl, rfl⟩
          obtain ⟨rfl, rfl⟩ := hcut
          obtain ⟨w6, rfl⟩ : ∃ w6, w6 = wc := ⟨_, rfl⟩
          go_step
          refine wp_seq_k ?_
          intro K hK
          go_cut [19] (fun t wx => t = .int .u64 t1 ∧ wx = w6)
          case first =>
            by_cases hk0 : k = 0
            · have hk0b : ¬ (0 : Int) < (k : Int) := by omega
              have hk0c : (k : Int) ≤ 0 := by omega
              have HL := Lib.hid (show t1 = sos by rw [HT1.out, if_pos hk0])
              clear hk0
              go_wp2_with fail
              go_meet
              exact ⟨by rw [HL.out], rfl⟩
            · have hk0b : (0 : Int) < (k : Int) := by omega
              have hk1 : (1 : Int) ≤ (k : Int) := by omega
              have hcl := hW2.cell (k := k - 1) (by omega)
              have HL := Lib.hid (show t1 = cur (k - 1) by rw [HT1.out, if_neg hk0])
              clear hk0
              go_wp2_with fail
              go_meet
              exact ⟨by rw [HL.out], rfl⟩
          obtain ⟨rfl, rfl⟩ := hcut
          obtain ⟨w6, rfl⟩ : ∃ w6, w6 = wc := ⟨_, rfl⟩
          go_step
          refine wp_seq_k ?_
          intro K hK
          obtain ⟨t3, ht3⟩ : ∃ t3, t3 = if t1 = 2 then t1 else t2 := ⟨_, rfl⟩
          have HT3 := Lib.hid ht3
          clear ht3
          go_cut [19] (fun t wx => t = .int .u64 t3 ∧ wx = w6)
          case first =>
            by_cases h2 : t1 = 2
            · have hb2 : (t1 != 2) = false := by simp [h2]
              have HL := Lib.hid (show t3 = t1 by rw [HT3.out, if_pos h2])
              clear h2
              go_wp2_with fail
              go_meet
              exact ⟨by rw [HL.out], rfl⟩
            · have hb2 : (t1 != 2) = true := by simp [h2]
              by_cases hen : E < n
              · have hel : (E : Int) < (n : Int) := by omega
                have hcl := hW2.cell hen
                have HL := Lib.hid (show t3 = cur E by rw [HT3.out, if_neg h2, HT2.out, if_pos hen])
                clear h2
                go_wp2_with fail
                go_meet
                exact ⟨by rw [HL.out], rfl⟩
              · have hel : ¬ (E : Int) < (n : Int) := by omega
                have hel2 : (n : Int) ≤ (E : Int) := by omega
                have HL := Lib.hid (show t3 = eos by rw [HT3.out, if_neg h2, HT2.out, if_neg hen])
                clear h2
                go_wp2_with fail
                go_meet
                exact ⟨by rw [HL.out], rfl⟩
          obtain ⟨rfl, rfl⟩ := hcut
          obtain ⟨w6, rfl⟩ : ∃ w6, w6 = wc := ⟨_, rfl⟩
          clear k5 k6
          have h32 : t3 = 2 ↔ (t1 = 2 ∨ t2 = 2) := by
            rw [HT3.out]
            by_cases z : t1 = 2
            · rw [if_pos z]; omega
            · rw [if_neg z]; omega
          by_cases ht : t3 = 2
          · have hb2 : (t3 == 2) = true := by simp [ht]
            obtain ⟨ao', hcut1, hcut2⟩ := cut_lh (P := Tryd.prog) 43 67 Tryd.underlying43 Tryd.sizeClass (hW2.types.sees' h0) k E (by omega) hEn
            obtain rfl : ao' = some ⟨q, k, none⟩ := by
              have h1 := (hcut2.get (i := 0) (by omega)).1
              rw [Nat.zero_add] at h1; exact h1
            clear hcut2
            have HST := setTypes_any (v := 2) (cc := cap - k) _ hn (show k ≤ E by omega) hEn hW2.types
            have R := Lib.hid (HS.out.run (cur' := fun j => if k ≤ j ∧ j < E then 2 else cur j) hkn H4.out HE.out (sos := sos) (eos := eos) (by omega) (by omega) HT1.out HT2.out (fun j _ => by
              have hx := h32.1 ht
              by_cases z : k ≤ j ∧ j < E
              · rw [if_pos z, if_pos ⟨hx, z⟩]
              · rw [if_neg z, if_neg (fun y => z y.2)]))
            clear ht h32
            have hKw := hW2.kept
            clear hW2
            go_wp2_with fail
            refine HST.mono ?_
            rintro e w7 ⟨rfl, hG7, hK7⟩
            have hW7 : WS wA B q cap n (fun j => if k ≤ j ∧ j < E then 2 else cur j) w7 := ⟨hKw.trans hK7, hG7.congr (fun j _ => by split <;> rfl)⟩
            clear hG7 hK7 HST hKw
            go_wp2_with fail
            go_meet
            exact ⟨_, hW7, R.out⟩
          · have hb2 : (t3 == 2) = false := by simp [ht]
            have R := Lib.hid (HS.out.run (cur' := cur) hkn H4.out HE.out (sos := sos) (eos := eos) (by omega) (by omega) HT1.out HT2.out (fun j _ => by
              rw [if_neg (fun y => ht (h32.2 y.1))]))
            clear ht h32
            go_wp2_with fail
            go_meet
            exact ⟨_, hW2, R.out⟩
        clear hc hW
        obtain ⟨cur', hW', HS'⟩ := hcut
        go_wp2_with fail
        go_roundg (n - (k + 1))
        case rel => exact ⟨k + 1, by omega, rfl, by go_num, cur', hW', HS'⟩
        case measure => omega
      · obtain rfl : k = n := by omega
        go_wp2_with fail
        go_meet
        exact hW.congr (fun i hi => HS.out.fin hi)
  clear hWn
  have hWn := hcut
  clear hcut
  obtain ⟨f5', hf5⟩ : ∃ f5', f5' = w5 n f4' := ⟨_, rfl⟩
  rw [← hf5] at hWn
  have HF5 := Lib.hid hf5
  clear hf5
  have k2 : wc.cell? ⟨S, 2, none⟩ = some (.slice (some ⟨q, 0, none⟩) n cap) := (HR.out _ _ hWn).cell (by omega)
  go_upto_block 12 with fail
  clear k2
  go_cut [] (fun wx => WS wA B q cap n (w6 f5') wx)
  case first =>
    go_wp2_with fail
    go_loopg [248] n (fun g i wr => ∃ k : Nat, k ≤ n ∧ g = n - k ∧ i = .int .i64 k ∧ WS wA B q cap n (mix k (w6 f5') f5') wr)
    case atStart => exact ⟨0, by omega, rfl, rfl, hWn.congr (fun i _ => (mix_ge (by omega)).symm)⟩
    case round =>
      clear hWn
      obtain ⟨k, hk, rfl, rfl, hW⟩ := hrel
      by_cases hkn : k < n
      · have hkz : (k : Int) < (n : Int) := by omega
        have hc := hW.cell hkn
        rw [mix_ge (Nat.le_refl _)] at hc
        have hh3 := heap_alloc_new wr (.cells #[.int .u64 3, .int .u64 4, .int .u64 6] 67)
        have hW3 := hW.alloc (.cells #[.int .u64 3, .int .u64 4, .int .u64 6] 67)
        have hst := w6_mem (f := f5') (k := k)
        obtain ⟨v, hv⟩ : ∃ v, v = f5' k := ⟨_, rfl⟩
        rw [← hv] at hc hst
        have HV := Lib.hid hv
        have HST := Lib.hid hst
        clear hv hst hW
        go_wp2_with fail
        refine (in_any [3, 4, 6] _ _ (by decide) hh3).mono ?_
        rintro e w5 ⟨rfl, rfl⟩
        clear hc hh3
        by_cases hm : memB [3, 4, 6] v = true
        · rw [hm]
          have k3 : (wr.alloc (.cells #[.int .u64 3, .int .u64 4, .int .u64 6] 67)).cell? ⟨S, 2, none⟩ = some (.slice (some ⟨q, 0, none⟩) n cap) := (HR.out _ _ hW3).cell (by omega)
          have hz := hW3.types.frozen k
          have hck := hW3.cell hkn
          have hW4 := hW3.set k 10 (G := mix (k + 1) (w6 f5') f5') (fun i _ => by
            rw [mix_step, show w6 f5' k = 10 by rw [HST.out, if_pos hm]])
          obtain ⟨wq, hwq⟩ : ∃ wq, wq = wr.alloc (.cells #[.int .u64 3, .int .u64 4, .int .u64 6] 67) := ⟨_, rfl⟩
          rw [← hwq] at k3 hz hck hW4 ⊢
          clear hwq hW3 hm
          go_wp2_with fail
          go_roundg (n - (k + 1))
          case rel => exact ⟨k + 1, by omega, rfl, by go_num, hW4⟩
          case measure => omega
        · have hm' : memB [3, 4, 6] v = false := by simpa using hm
          rw [hm']
          have hW4 := hW3.congr (G := mix (k + 1) (w6 f5') f5') (fun i _ => (mix_same (show w6 f5' k = f5' k by
            rw [HST.out, if_neg hm, HV.out]) i).symm)
          clear hW3 hm hm'
          go_wp2_with fail
          go_roundg (n - (k + 1))
          case rel => exact ⟨k + 1, by omega, rfl, by go_num, hW4⟩
          case measure => omega
      · obtain rfl : k = n := by omega
        go_wp2_with fail
        go_meet
        exact hW.congr (fun i hi => mix_lt hi)
  clear hWn
  have hWn := hcut
  clear hcut
  have hno : ∀ i, w6 f5' i ≠ 13 := fun i => by rw [HF5.out, HF4.out, HF3.out]; exact no13 i
  obtain ⟨f6', hf6⟩ : ∃ f6', f6' = w6 f5' := ⟨_, rfl⟩
  rw [← hf6] at hWn hno
  have HF6 := Lib.hid hf6
  have HNO := Lib.hid hno
  clear hf6 hno
  have k2 : wc.cell? ⟨S, 2, none⟩ = some (.slice (some ⟨q, 0, none⟩) n cap) := (HR.out _ _ hWn).cell (by omega)
  go_upto_block 14 with fail
  clear k2
  go_wp2_with fail
  go_loopg [268] n (fun g i wr => ∃ k : Nat, k ≤ n ∧ g = n - k ∧ i = .int .i64 k ∧ WS wA B q cap n (mix k (w7 f6' sos) f6') wr)
  case atStart => exact ⟨0, by omega, rfl, rfl, hWn.congr (fun i _ => (mix_ge (by omega)).symm)⟩
  case round =>
    clear hWn
    obtain ⟨k, hk, rfl, rfl, hW⟩ := hrel
    by_cases hkn : k < n
    · have hkz : (k : Int) < (n : Int) := by omega
      have hc := hW.cell hkn
      rw [mix_ge (Nat.le_refl _)] at hc
      obtain ⟨v, hv⟩ : ∃ v, v = f6' k := ⟨_, rfl⟩
      rw [← hv] at hc
      have HV := Lib.hid hv
      clear hv
      have k5 : wr.cell? ⟨S, 5, none⟩ = some (.int .u64 sos) := (HR.out _ _ hW).cell (by omega)
      go_upto_block 15 with fail
      go_cut [] (fun wx => WS wA B q cap n (mix (k + 1) (w7 f6' sos) f6') wx)
      case first =>
        by_cases h2 : v = 2
        · have hb : (v == 2) = true := by simp [h2]
          have HK2 := Lib.hid (HV.out.symm.trans h2)
          clear h2
          obtain ⟨sk, hsk⟩ : ∃ sk, sk = sb f6' sos k := ⟨_, rfl⟩
          have HSK := Lib.hid hsk
          clear hsk
          go_upto_block 16 with fail
          go_cut [24] (fun p wx => p = .int .u64 sk ∧ WS wA B q cap n (mix k (w7 f6' sos) f6') wx)
          case first =>
            go_wp2_with fail
            clear hc k5
            go_loopg [24, 25] k (fun g p i wx => ∃ m : Nat, m ≤ k ∧ g = m ∧ i = .int .i64 ((m : Int) - 1) ∧ p = .int .u64 sos ∧ Hid (sk = sb f6' sos m) ∧ WS wA B q cap n (mix k (w7 f6' sos) f6') wx)
            case atStart => exact ⟨k, Nat.le_refl _, rfl, rfl, rfl, HSK.out, hW⟩
            case round =>
              clear hW
              obtain ⟨m, hm, hgm, rfl, rfl, HA, hW⟩ := hrel
              cases m with
              | zero =>
                go_wp2_with fail
                go_meet
                exact ⟨by rw [HA.out]; rfl, hW⟩
              | succ r =>
                rw [show ((r + 1 : Nat) : Int) - 1 = (r : Int) by omega]
                have hcr := hW.cell (k := r) (by omega)
                rw [mix_lt (by omega)] at hcr
                have k2 : wr.cell? ⟨S, 2, none⟩ = some (.slice (some ⟨q, 0, none⟩) n cap) := (HR.out _ _ hW).cell (by omega)
                have hst := HA.out.trans (sb_step_w7 (f := f6') (s := sos) r (HNO.out r))
                obtain ⟨u, hu⟩ : ∃ u, u = w7 f6' sos r := ⟨_, rfl⟩
                rw [← hu] at hcr hst
                have HST := Lib.hid hst
                clear hst hu
                by_cases u0 : u = 0
                · have bu0 : (u == 0) = true := by simp [u0]
                  have HB := Lib.hid (show sk = u by rw [HST.out, if_pos (.inl u0)])
                  clear u0
                  go_wp2_with fail
                  go_meet
                  exact ⟨by rw [HB.out], hW⟩
                · have bu0 : (u == 0) = false := by simp [u0]
                  by_cases u1 : u = 1
                  · have bu1 : (u == 1) = true := by simp [u1]
                    have HB := Lib.hid (show sk = u by rw [HST.out, if_pos (.inr u1)])
                    clear u0 u1
                    go_wp2_with fail
                    go_meet
                    exact ⟨by rw [HB.out], hW⟩
                  · have bu1 : (u == 1) = false := by simp [u1]
                    have HB := Lib.hid (show sk = sb f6' sos r by rw [HST.out, if_neg (by omega)])
                    clear u0 u1
                    go_wp2_with fail
                    go_roundg r
                    case rel => exact ⟨r, by omega, rfl, by go_num, rfl, HB.out, hW⟩
                    case measure => omega
          clear hc hW k5
          obtain ⟨rfl, hW⟩ := hcut
          have k2 : wc.cell? ⟨S, 2, none⟩ = some (.slice (some ⟨q, 0, none⟩) n cap) := (HR.out _ _ hW).cell (by omega)
          have hz := hW.types.frozen k
          have hck := hW.cell hkn
          rw [mix_ge (Nat.le_refl _)] at hck
          by_cases s0 : sk = 0
          · have bs0 : (sk == 0) = true := by simp [s0]
            have hW' := hW.set k 0 (G := mix (k + 1) (w7 f6' sos) f6') (fun i _ => by
              rw [mix_step, show w7 f6' sos k = 0 by unfold w7; rw [if_pos ⟨HK2.out, by rw [← HSK.out]; exact s0⟩]])
            clear hW s0
            go_wp2_with fail
            go_meet
            exact hW'
          · have bs0 : (sk == 0) = false := by simp [s0]
            have hW' := hW.congr (G := mix (k + 1) (w7 f6' sos) f6') (fun i _ => (mix_same (show w7 f6' sos k = f6' k by
              unfold w7; rw [if_neg (fun z => s0 (by rw [HSK.out]; exact z.2))]) i).symm)
            clear hW s0
            go_wp2_with fail
            go_meet
            exact hW'
        · have hb : (v == 2) = false := by simp [h2]
          have hW' := hW.congr (G := mix (k + 1) (w7 f6' sos) f6') (fun i _ => (mix_same (show w7 f6' sos k = f6' k by
            unfold w7; rw [← HV.out, if_neg (by omega)]) i).symm)
          clear hW h2
          go_wp2_with fail
          go_meet
          exact hW'
      clear hc hW k5
      have hW := hcut
      clear hcut
      go_wp2_with fail
      go_roundg (n - (k + 1))
      case rel => exact ⟨k + 1, by omega, rfl, by go_num, hW⟩
      case measure => omega
    · obtain rfl : k = n := by omega
      go_wp2_with fail
      go_end0
      exact ⟨.inl ⟨HALL.out, rfl, hW.types.congr (fun i hi => by
        rw [mix_lt hi]
        unfold weakI wrest
        rw [← HF1.out, ← HF2.out, ← HF3.out, ← HF4.out, ← HF5.out, ← HF6.out])⟩, hKA.trans hW.kept⟩

end Go.Proofs.YtkocpijloiamcaaDoor
