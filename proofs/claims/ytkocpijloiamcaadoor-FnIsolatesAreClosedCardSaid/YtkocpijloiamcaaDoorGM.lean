/- (*bracketPairer).getStrongTypeN0, .classifyPairContent, .classBeforePair. -/
import Derived.Test.YtkocpijloiamcaaDoorGF
import Derived.Test.YtkocpijloiamcaaDoorGL
import Derived.Test.YtkocpijloiamcaaDoorGC
import Derived.StillTailTactics
import Derived.Deep.DeepCutAuto
import Derived.Deep.CutBlock
import Derived.Test.YtkocpijloiamcaaDoorGG
import Derived.Test.YtkocpijloiamcaaDoorGA
import Derived.Deep.LoopGhost
import Derived.Lib.Hide
import Derived.BigQuiet
import Derived.Deep.QuietTactic
namespace Go.Proofs.YtkocpijloiamcaaDoor
open Go.RowKit Go.Lib Go.Sort
set_option linter.unusedVariables false
set_option linter.unusedSimpArgs false

set_option maxHeartbeats 1000000 in
theorem getStrong_any {p q bq cq n i : Nat} {aq : Option Addr} {f : Nat → Value} {c : Nat → Int} (w : World) (hr : w.rowIs p 117 5 f) (hf : f 3 = .slice aq n cq)
    (hc : Sees w aq q bq n cq (fun i => .int .u64 (c i))) (hi : i < n) :
    Calls Tryd.prog 115 #[ptr p, .int .i64 i] w fun e w' => e = .returned (.int .u64 (gs (c i))) ∧ w = w' := by
  have c3 : w.cell? ⟨p, 3, none⟩ = some (.slice aq n cq) := by rw [← hf]; exact hr.cell (by omega)
  obtain ⟨rfl, x1⟩ := hc.get hi
  have hiz : (i : Int) < (n : Int) := by omega
  have HG := hid (show gs (c i) = if c i = 2 ∨ c i = 5 ∨ c i = 13 ∨ c i = 1 then 1 else if c i = 0 then 0 else 10 from rfl)
  obtain ⟨v, hv⟩ : ∃ v, v = c i := ⟨_, rfl⟩
  obtain ⟨G, hG⟩ : ∃ G, G = gs (c i) := ⟨_, rfl⟩
  rw [← hG] at HG ⊢
  rw [← hv] at HG x1
  clear hv hG hr hc hf
  by_cases h2 : v = 2
  · subst h2
    obtain rfl : G = 1 := by have := HG.out; rw [if_pos (by omega)] at this; exact this
    go_enter Tryd.func115, Tryd.ntmps115
    go_wp2
    go_ret
    exact ⟨rfl, rfl⟩
  have b2 : (v == 2) = false := beq_eq_false_iff_ne.2 h2
  by_cases h5 : v = 5
  · subst h5
    obtain rfl : G = 1 := by have := HG.out; rw [if_pos (by omega)] at this; exact this
    go_enter Tryd.func115, Tryd.ntmps115
    go_wp2
    go_ret
    exact ⟨rfl, rfl⟩
  have b5 : (v == 5) = false := beq_eq_false_iff_ne.2 h5
  by_cases h13 : v = 13
  · subst h13
    obtain rfl : G = 1 := by have := HG.out; rw [if_pos (by omega)] at this; exact this
    go_enter Tryd.func115, Tryd.ntmps115
    go_wp2
    go_ret
    exact ⟨rfl, rfl⟩
  have b13 : (v == 13) = false := beq_eq_false_iff_ne.2 h13
  by_cases h1 : v = 1
  · subst h1
    obtain rfl : G = 1 := by have := HG.out; rw [if_pos (by omega)] at this; exact this
    go_enter Tryd.func115, Tryd.ntmps115
    go_wp2
    go_ret
    exact ⟨rfl, rfl⟩
  have b1 : (v == 1) = false := beq_eq_false_iff_ne.2 h1
  by_cases h0 : v = 0
  · subst h0
    obtain rfl : G = 0 := by have := HG.out; rw [if_neg (by omega), if_pos rfl] at this; exact this
    go_enter Tryd.func115, Tryd.ntmps115
    go_wp2
    go_ret
    exact ⟨rfl, rfl⟩
  have b0 : (v == 0) = false := beq_eq_false_iff_ne.2 h0
  obtain rfl : G = 10 := by have := HG.out; rw [if_neg (by omega), if_neg h0] at this; exact this
  go_enter Tryd.func115, Tryd.ntmps115
  go_wp2
  go_ret
  exact ⟨rfl, rfl⟩

/-- What classifyPairContent gives. -/
def cpOf (g : Nat → Int) (o cl : Nat) (e : Int) : Int := if hasS g o cl e = true then e else if hasS g o cl (1 - e) = true then 1 - e else 10

set_option maxHeartbeats 1000000 in
theorem classify_any {p q bq cq n o cl : Nat} {aq : Option Addr} {f : Nat → Value} {c : Nat → Int} {e : Int} (w : World) (hr : w.rowIs p 117 5 f) (hf : f 3 = .slice aq n cq)
    (hc : Sees w aq q bq n cq (fun i => .int .u64 (c i))) (ho : o < cl) (hcl : cl < n) (hn : n ≤ 8589934592) (he : e = 0 ∨ e = 1) :
    Calls Tryd.prog 101 #[ptr p, .agg #[.int .i64 o, .int .i64 cl], .int .u64 e] w fun en w' => en = .returned (.int .u64 (cpOf (fun i => gs (c i)) o cl e)) ∧ w.Since w.heap.size w' := by
  have hs0 : w.Since w.heap.size (w.alloc (.cells #[.int .i64 o, .int .i64 cl] 132)) := (World.Since.refl _ _).alloc (Nat.le_refl _) _
  have HS0 := hid hs0
  have HR := hid hr
  have HC := hid hc
  have hb0 : ∀ wr, (w.alloc (.cells #[.int .i64 o, .int .i64 cl] 132)) = wr → wr.cell? ⟨w.heap.size, 0, none⟩ = some (.int .i64 (o : Nat)) ∧ wr.cell? ⟨w.heap.size, 1, none⟩ = some (.int .i64 (cl : Nat)) := fun wr h => by
    rw [← h]
    have hrow := World.rowIs_alloc w #[Value.int .i64 (o : Nat), .int .i64 (cl : Nat)] 132 (fun i => (#[Value.int .i64 (o : Nat), .int .i64 (cl : Nat)][i]?).getD undef) (fun i hi => by rw [Array.getElem?_eq_getElem hi]; rfl)
    exact ⟨hrow.cell (show 0 < 2 by omega), hrow.cell (show 1 < 2 by omega)⟩
  have HB0 := hid hb0
  clear hs0 hr hc hb0
  go_enter Tryd.func101, Tryd.ntmps101
  go_wp2
  obtain ⟨wA, hwA⟩ : ∃ wA, wA = w.alloc (.cells #[.int .i64 (o : Nat), .int .i64 (cl : Nat)] 132) := ⟨_, rfl⟩
  rw [← hwA] at HS0 ⊢
  obtain ⟨e0, e1⟩ := HB0.out wA hwA.symm
  have hRA : wA.rowIs p 117 5 f := HR.out.of_block (HS0.out.block _ HR.out.lt)
  have HGS := hid (fun i (hi : i < n) => getStrong_any wA hRA hf (HC.out.since HS0.out) hi)
  clear hwA hRA HR HC HB0
  go_loopg [7, 8] (cl - (o + 1)) (fun gg d i wr => ∃ (k : Nat) (D : Int), o < k ∧ k ≤ cl ∧ gg = cl - k ∧ i = .int .i64 k ∧ d = .int .u64 D ∧ wr = wA ∧ Hid ((D = 10 ∧ ∀ i, o < i → i < k → gs (c i) = 10) ∨ (D = 1 - e ∧ (∀ i, o < i → i < k → gs (c i) ≠ e) ∧ ∃ i, o < i ∧ i < k ∧ gs (c i) = 1 - e)))
  case atStart => exact ⟨o + 1, 10, by omega, by omega, rfl, by go_num, rfl, rfl, .inl ⟨rfl, fun i h1 h2 => by omega⟩⟩
  case round =>
    obtain ⟨k, D, hk1, hk2, rfl, rfl, rfl, rfl, HD⟩ := hrel
    by_cases hkc : k < cl
    · have hkz : (k : Int) < (cl : Int) := by omega
      go_wp2_with fail
      refine (HGS.out k (by omega)).mono ?_
      rintro en w1 ⟨rfl, rfl⟩
      have hg3 := gs_cases (c k)
      obtain ⟨G, hG⟩ : ∃ G, G = gs (c k) := ⟨_, rfl⟩
      rw [← hG] at hg3 ⊢
      have HGK := hid hG
      clear hG
      by_cases q1 : G = 10
      · subst q1
        have HD' : Hid ((D = 10 ∧ ∀ i, o < i → i < k + 1 → gs (c i) = 10) ∨ (D = 1 - e ∧ (∀ i, o < i → i < k + 1 → gs (c i) ≠ e) ∧ ∃ i, o < i ∧ i < k + 1 ∧ gs (c i) = 1 - e)) := by
          rcases HD.out with ⟨a, b⟩ | ⟨a, b, ⟨i, r1, r2, r3⟩⟩
          · exact .inl ⟨a, fun i h1 h2 => by
              by_cases ei : i = k
              · subst ei; exact HGK.out.symm
              · exact b i h1 (by omega)⟩
          · exact .inr ⟨a, fun i h1 h2 => by
              by_cases ei : i = k
              · subst ei; rw [← HGK.out]; omega
              · exact b i h1 (by omega), ⟨i, r1, by omega, r3⟩⟩
        clear hg3
        go_wp2_with fail
        go_roundg (cl - (k + 1))
        case rel => exact ⟨k + 1, D, by omega, by omega, rfl, by go_num, rfl, rfl, HD'⟩
        case measure => omega
      · have q1b : (G == 10) = false := beq_eq_false_iff_ne.2 q1
        by_cases q2 : G = e
        · subst q2
          have HF := hid (show cpOf (fun i => gs (c i)) o cl G = G by unfold cpOf; rw [if_pos (hasS_of hkc (by omega) HGK.out.symm)])
          clear hg3 q1
          go_wp2_with fail
          go_ret
          exact ⟨by rw [HF.out]; rfl, HS0.out⟩
        · have q2b : (G == e) = false := beq_eq_false_iff_ne.2 q2
          have HD' : Hid ((G = 10 ∧ ∀ i, o < i → i < k + 1 → gs (c i) = 10) ∨ (G = 1 - e ∧ (∀ i, o < i → i < k + 1 → gs (c i) ≠ e) ∧ ∃ i, o < i ∧ i < k + 1 ∧ gs (c i) = 1 - e)) := by
            have hb : ∀ i, o < i → i < k → gs (c i) ≠ e := by
              rcases HD.out with ⟨a, b⟩ | ⟨a, b, _⟩
              · intro i h1 h2; rw [b i h1 h2]; omega
              · exact b
            refine .inr ⟨by omega, fun i h1 h2 => ?_, ⟨k, by omega, by omega, by rw [← HGK.out]; omega⟩⟩
            by_cases ei : i = k
            · subst ei; rw [← HGK.out]; exact q2
            · exact hb i h1 (by omega)
          clear hg3 q1 q2
          go_wp2_with fail
          go_roundg (cl - (k + 1))
          case rel => exact ⟨k + 1, G, by omega, by omega, rfl, by go_num, rfl, rfl, HD'⟩
          case measure => omega
    · obtain rfl : k = cl := by omega
      have HF : Hid (cpOf (fun i => gs (c i)) o k e = D) := by
        show cpOf _ _ _ _ = _
        unfold cpOf
        rcases HD.out with ⟨a, b⟩ | ⟨a, b, ⟨i, r1, r2, r3⟩⟩
        · rw [hasS_no (fun i h1 h2 => by rw [b i h1 h2]; omega), hasS_no (fun i h1 h2 => by rw [b i h1 h2]; omega), a]; rfl
        · rw [hasS_no b, hasS_of r2 r1 r3, a]; rfl
      go_wp2_with fail
      go_ret
      exact ⟨by rw [HF.out]; rfl, HS0.out⟩

set_option maxHeartbeats 1000000 in
theorem before_any {p q bq cq n o cl : Nat} {aq : Option Addr} {f : Nat → Value} {c : Nat → Int} {s : Int} (w : World) (hr : w.rowIs p 117 5 f) (hf : f 3 = .slice aq n cq) (hf0 : f 0 = .int .u64 s)
    (hc : Sees w aq q bq n cq (fun i => .int .u64 (c i))) (ho : o < n) (hn : n ≤ 8589934592) :
    Calls Tryd.prog 102 #[ptr p, .agg #[.int .i64 o, .int .i64 cl]] w fun en w' => en = .returned (.int .u64 (bfr (fun i => gs (c i)) s o)) ∧ w.Since w.heap.size w' := by
  have hs0 : w.Since w.heap.size (w.alloc (.cells #[.int .i64 o, .int .i64 cl] 132)) := (World.Since.refl _ _).alloc (Nat.le_refl _) _
  have HS0 := hid hs0
  have HR := hid hr
  have HC := hid hc
  clear hs0 hr hc
  go_enter Tryd.func102, Tryd.ntmps102
  go_wp2
  obtain ⟨wA, hwA⟩ : ∃ wA, wA = w.alloc (.cells #[.int .i64 (o : Nat), .int .i64 (cl : Nat)] 132) := ⟨_, rfl⟩
  rw [← hwA] at HS0 ⊢
  have hRA : wA.rowIs p 117 5 f := HR.out.of_block (HS0.out.block _ HR.out.lt)
  have c0 : wA.cell? ⟨p, 0, none⟩ = some (.int .u64 s) := by rw [← hf0]; exact hRA.cell (by omega)
  have HGS := hid (fun i (hi : i < n) => getStrong_any wA hRA hf (HC.out.since HS0.out) hi)
  clear hwA hRA HR HC
  go_loopg [5] (o + 1) (fun gg i wr => ∃ k : Nat, k ≤ o ∧ gg = k + 1 ∧ i = .int .i64 ((k : Int) - 1) ∧ wr = wA ∧ Hid (bfr (fun i => gs (c i)) s o = bfr (fun i => gs (c i)) s k))
  case atStart => exact ⟨o, Nat.le_refl _, rfl, rfl, rfl, rfl⟩
  case round =>
    obtain ⟨k, hk, rfl, rfl, rfl, HB⟩ := hrel
    match k, hk, HB with
    | 0, hk, HB =>
      have HF := hid (show bfr (fun i => gs (c i)) s o = s from HB.out)
      have hm1 : ((0 : Nat) : Int) - 1 = -1 := rfl
      rw [hm1]
      clear HB
      go_wp2_with fail
      go_ret
      exact ⟨by rw [HF.out]; rfl, HS0.out⟩
    | j + 1, hk, HB =>
      have hj1 : ((j + 1 : Nat) : Int) - 1 = (j : Int) := by omega
      rw [hj1]
      go_wp2_with fail
      refine (HGS.out j (by omega)).mono ?_
      rintro en w1 ⟨rfl, rfl⟩
      have HST := hid (show bfr (fun i => gs (c i)) s (j + 1) = if gs (c j) ≠ 10 then gs (c j) else bfr (fun i => gs (c i)) s j from rfl)
      obtain ⟨G, hG⟩ : ∃ G, G = gs (c j) := ⟨_, rfl⟩
      rw [← hG] at HST ⊢
      clear hG
      by_cases q1 : G = 10
      · have HB' := hid (show bfr (fun i => gs (c i)) s o = bfr (fun i => gs (c i)) s j by rw [HB.out, HST.out, if_neg (fun h => h q1)])
        subst q1
        go_wp2_with fail
        go_roundg (j + 1)
        case rel => exact ⟨j, by omega, rfl, by go_num, rfl, HB'⟩
        case measure => omega
      · have HB' := hid (show bfr (fun i => gs (c i)) s o = G by rw [HB.out, HST.out, if_pos q1])
        have q1b : (G != 10) = true := bne_iff_ne.2 q1
        go_wp2_with fail
        go_ret
        exact ⟨by rw [HB'.out]; rfl, HS0.out⟩
end Go.Proofs.YtkocpijloiamcaaDoor

/- (*bracketPairer).setBracketsToType. -/
namespace Go.Proofs.YtkocpijloiamcaaDoor
open Go.RowKit Go.Lib Go.Sort
set_option linter.unusedVariables false
set_option linter.unusedSimpArgs false

/-- Classes that are changed in place; nothing else is turned. -/
structure CS (wA : World) (B q cap n : Nat) (F : Nat → Int) (wx : World) : Prop where
  kept : Kp (fun k => k = q) wA wx
  types : Gr wx B 67 (.slice (some ⟨q, 0, none⟩) n cap) n (fun i => .int .u64 (F i))

section
variable {wA wx wy : World} {B q cap n : Nat} {F G : Nat → Int}
theorem CS.congr (h : CS wA B q cap n F wx) (e : ∀ i, i < n → F i = G i) : CS wA B q cap n G wx := ⟨h.kept, h.types.congr (fun i hi => by rw [e i hi])⟩
theorem CS.since (h : CS wA B q cap n F wx) (s : wx.Since wx.heap.size wy) : CS wA B q cap n F wy := ⟨h.kept.call s, h.types.since s⟩
theorem CS.set (h : CS wA B q cap n F wx) (k : Nat) (v : Int) (e : ∀ i, i < n → (if i = k then v else F i) = G i) : CS wA B q cap n G (wx.setCell ⟨q, k, none⟩ (.int .u64 v)) :=
  ⟨h.kept.setCell (a := ⟨q, k, none⟩) (.inl rfl) _, (h.types.set k (.int .u64 v)).congr (fun i hi => by rw [← e i hi]; split <;> rfl)⟩
theorem CS.drewN (h : CS wA B q cap n F wx) (m : Nat) : CS wA B q cap n F (wx.drewN m) := ⟨h.kept.drewN m, h.types⟩
theorem CS.drew (h : CS wA B q cap n F wx) : CS wA B q cap n F wx.drew := ⟨h.kept.drew, h.types⟩
theorem CS.cell (h : CS wA B q cap n F wx) {k : Nat} (hk : k < n) : wx.cell? ⟨q, k, none⟩ = some (.int .u64 (F k)) := h.types.cell hk
theorem CS.frozen (h : CS wA B q cap n F wx) (k : Nat) : wx.frozen? ⟨q, k, none⟩ = false := h.types.frozen k
end

set_option maxHeartbeats 4000000 in
set_option maxRecDepth 100000 in
theorem setB_any {p q B cap n N bi oi ci b0 o0 c0 o cl : Nat} {ai a0 : Option Addr} {f : Nat → Value} {xi : Nat → Nat} {z F : Nat → Int} {v : Int} (w : World)
    (hr : w.rowIs p 117 5 f) (hf3 : f 3 = .slice (some ⟨q, 0, none⟩) n cap) (hf4 : f 4 = .slice ai n ci)
    (hG : Gr w B 67 (.slice (some ⟨q, 0, none⟩) n cap) n (fun i => .int .u64 (F i)))
    (hx : Sees w ai bi oi n ci (fun i => .int .i64 ((xi i : Nat) : Int))) (hxq : bi ≠ q) (hz : Sees w a0 b0 o0 N c0 (fun j => .int .u64 (z j))) (hzq : b0 ≠ q) (hpq : p ≠ q)
    (hxi : ∀ i, i < n → xi i < N) (hn : n ≤ 8589934592) (hN : N ≤ 8589934592) (ho : o < cl) (hcl : cl < n) :
    Calls Tryd.prog 103 #[ptr p, .agg #[.int .i64 o, .int .i64 cl], .int .u64 v, .slice a0 N c0] w fun e w' => e = .returned (.tuple #[]) ∧ CS w B q cap n (setB (fun i => decide (z (xi i) = 12)) o cl v F) w' := by
  have hqs : q < w.heap.size := (hG.ge q rfl).2
  have hs0 : w.Since w.heap.size (w.alloc (.cells #[.int .i64 o, .int .i64 cl] 132)) := (World.Since.refl _ _).alloc (Nat.le_refl _) _
  have hrow := World.rowIs_alloc w #[Value.int .i64 (o : Nat), .int .i64 (cl : Nat)] 132 (fun i => (#[Value.int .i64 (o : Nat), .int .i64 (cl : Nat)][i]?).getD undef) (fun i hi => by rw [Array.getElem?_eq_getElem hi]; rfl)
  obtain ⟨S0, hS0⟩ : ∃ S0, S0 = w.heap.size := ⟨_, rfl⟩
  have HS0 := hid hS0
  obtain ⟨wA, hwA⟩ : ∃ wA, wA = w.alloc (.cells #[.int .i64 (o : Nat), .int .i64 (cl : Nat)] 132) := ⟨_, rfl⟩
  have HWA := hid hwA
  rw [← hwA] at hs0 hrow
  rw [← hS0] at hrow hqs
  have C0 : CS wA B q cap n F wA := ⟨Kp.refl _ _, hG.since hs0⟩
  have hrA : wA.rowIs p 117 5 f := hr.of_block (hs0.block _ hr.lt)
  have hxA := hx.since hs0
  have hzA := hz.since hs0
  have hSq : S0 ≠ q := by omega
  have HF := hid (show ∀ wx, Kp (fun k => k = q) wA wx → wx.cell? ⟨p, 3, none⟩ = some (.slice (some ⟨q, 0, none⟩) n cap) ∧ wx.cell? ⟨p, 4, none⟩ = some (.slice ai n ci) ∧ wx.cell? ⟨S0, 0, none⟩ = some (.int .i64 (o : Nat)) ∧ wx.cell? ⟨S0, 1, none⟩ = some (.int .i64 (cl : Nat)) from fun wx h => by
    have h1 := h.row hrA hpq
    have h2 := h.row hrow hSq
    exact ⟨by rw [← hf3]; exact h1.cell (by omega), by rw [← hf4]; exact h1.cell (by omega), h2.cell (show 0 < 2 by omega), h2.cell (show 1 < 2 by omega)⟩)
  have HX := hid (fun wx (h : Kp (fun k => k = q) wA wx) => h.sees hxA (fun _ => hxq))
  have HZ := hid (fun wx (h : Kp (fun k => k = q) wA wx) => h.sees hzA (fun _ => hzq))
  have HKW := hid (show Kp (fun k => k = q) w wA from Kp.since hs0 _)
  have HXI := hid hxi
  have hoz : (o : Int) < (n : Int) := by omega
  have hcz : (cl : Int) < (n : Int) := by omega
  have hon : o < n := by omega
  clear hr hf3 hf4 hG hx hz hs0 hrow hrA hxA hzA hS0 hwA hxq hzq hxi
  go_enter Tryd.func103, Tryd.ntmps103
  go_upto_region 1 with fail
  rw [← HS0.out, ← HWA.out]
  obtain ⟨f3, f4, s0, s1⟩ := HF.out wA C0.kept
  go_still_tail 8, (by kernel_rfl)
  change wpList _ _ _ _ _ wA.drew
  have C1 : CS wA B q cap n F wA.drew := C0.drew
  generalize wA.drew = w1 at C1 ⊢
  clear C0 f3 f4 s0 s1
  have cx := C1.cell hon
  have zx := C1.frozen o
  have C2 := C1.set o v (fun i _ => rfl)
  clear C1
  go_wp2_with fail
  generalize w1.setCell ⟨q, o, none⟩ (.int .u64 v) = w2 at C2 ⊢
  clear cx zx
  go_upto_region 2 with fail
  obtain ⟨f3, f4, s0, s1⟩ := HF.out w2 C2.kept
  go_still_tail 8, (by kernel_rfl)
  change wpList _ _ _ _ _ w2.drew
  have C3 := C2.drew
  generalize w2.drew = w3 at C3 ⊢
  clear C2 f3 f4 s0 s1
  have cx := C3.cell hcl
  have zx := C3.frozen cl
  have C4 := C3.set cl v (G := fun i => if prB o cl (o + 1) (cl + 1) i = true then v else F i) (fun i _ => by
    rw [prB_start]
    by_cases e1 : i = cl
    · rw [if_pos e1, if_pos (decide_eq_true (.inr e1))]
    · rw [if_neg e1]
      by_cases e2 : i = o
      · rw [if_pos e2, if_pos (decide_eq_true (.inl e2))]
      · rw [if_neg e2, if_neg (by rw [decide_eq_true_iff]; omega)])
  clear C3
  go_upto_region 3 with fail
  generalize w3.setCell ⟨q, cl, none⟩ (.int .u64 v) = w4 at C4 ⊢
  clear cx zx
  obtain ⟨f3, f4, s0, s1⟩ := HF.out w4 C4.kept
  obtain ⟨m, hm⟩ : ∃ m : Nat → Bool, m = fun i => decide (z (xi i) = 12) := ⟨_, rfl⟩
  have HMD := hid hm
  have HC4 := hid C4
  clear hm C4
  go_upto_block 0 with fail
  go_cut [] (fun wx => ∃ k : Nat, o < k ∧ k ≤ cl ∧ Hid (k = cl ∨ m k = false) ∧ Hid (∀ i, o < i → i < k → m i = true) ∧ Hid (CS wA B q cap n (fun i => if prB o cl k (cl + 1) i = true then v else F i) wx))
  case first =>
    clear f3 f4 s0 s1
    go_wp2_with fail
    go_loopg [8, 9] (cl - (o + 1)) (fun gg i _ wx => ∃ k : Nat, o < k ∧ k ≤ cl ∧ gg = cl - k ∧ i = .int .i64 k ∧ Hid (∀ i, o < i → i < k → m i = true) ∧ Hid (CS wA B q cap n (fun i => if prB o cl k (cl + 1) i = true then v else F i) wx))
    case atStart => exact ⟨o + 1, by omega, by omega, rfl, by go_num, fun i h1 h2 => by omega, HC4⟩
    case round =>
      clear HC4
      rename World => wx
      obtain ⟨k, hk1, hk2, rfl, rfl, HM, HC⟩ := hrel
      obtain ⟨f3, f4, s0, s1⟩ := HF.out wx HC.out.kept
      by_cases hkc : k < cl
      · have hkz : (k : Int) < (cl : Int) := by omega
        have hkn : k < n := by omega
        have hknz : (k : Int) < (n : Int) := by omega
        obtain ⟨rfl, x1⟩ := (HX.out wx HC.out.kept).get hkn
        have hxk := HXI.out k hkn
        obtain ⟨rfl, z1⟩ := (HZ.out wx HC.out.kept).get hxk
        have HMK := hid (show m k = decide (z (xi k) = 12) by rw [HMD.out])
        obtain ⟨y, hy⟩ : ∃ y, y = xi k := ⟨_, rfl⟩
        obtain ⟨Z, hZ⟩ : ∃ Z, Z = z (xi k) := ⟨_, rfl⟩
        rw [← hZ] at z1 HMK
        rw [← hy] at x1 hxk z1
        have hyz : (y : Int) < (N : Int) := by omega
        have cx := HC.out.cell hkn
        have zx := HC.out.frozen k
        have HS := hid (HC.out.set k v (G := fun i => if prB o cl (k + 1) (cl + 1) i = true then v else F i) (fun i _ => by
          by_cases e1 : i = k
          · subst e1; rw [if_pos rfl, if_pos (prB_kk hk1)]
          · rw [if_neg e1, prB_k hk1 e1]))
        clear hy hZ
        by_cases q1 : Z = 12
        · subst q1
          have HM' : Hid (∀ i, o < i → i < k + 1 → m i = true) := fun i h1 h2 => by
            by_cases e1 : i = k
            · subst e1; rw [HMK.out]; rfl
            · exact HM.out i h1 (by omega)
          go_wp2_with fail
          go_roundg (cl - (k + 1))
          case rel => exact ⟨k + 1, by omega, by omega, rfl, by go_num, HM', HS⟩
          case measure => omega
        · have q1b : (Z != 12) = true := bne_iff_ne.2 q1
          have HE := hid (show m k = false by rw [HMK.out]; exact decide_eq_false q1)
          go_wp2_with fail
          go_meet
          exact ⟨k, hk1, hk2, .inr HE.out, HM, HC⟩
      · obtain rfl : k = cl := by omega
        go_wp2_with fail
        go_meet
        exact ⟨k, hk1, hk2, .inl rfl, HM, HC⟩
  clear f3 f4 s0 s1 HC4
  obtain ⟨k, hk1, hk2, HE1, HM1, HC⟩ := hcut
  obtain ⟨f3, f4, s0, s1⟩ := HF.out wc HC.out.kept
  go_wp2_with fail
  go_loopg [10, 11] (n - (cl + 1)) (fun gg i _ wx => ∃ l : Nat, cl < l ∧ l ≤ n ∧ gg = n - l ∧ i = .int .i64 l ∧ Hid (∀ i, cl < i → i < l → m i = true) ∧ Hid (CS wA B q cap n (fun i => if prB o cl k l i = true then v else F i) wx))
  case atStart => exact ⟨cl + 1, by omega, by omega, rfl, by go_num, fun i h1 h2 => by omega, HC⟩
  case round =>
    clear HC f3 f4 s0 s1
    rename World => wx
    obtain ⟨l, hl1, hl2, rfl, rfl, HM, HC⟩ := hrel
    obtain ⟨f3, f4, s0, s1⟩ := HF.out wx HC.out.kept
    have HEND := hid (show (l = n ∨ m l = false) → CS w B q cap n (setB (fun i => decide (z (xi i) = 12)) o cl v F) wx from fun he => by
      have h1 : CS wA B q cap n (setB m o cl v F) wx := HC.out.congr (fun i hi => by
        show (if prB o cl k l i = true then v else F i) = if mkB m o cl i = true then v else F i
        rw [prB_mk hi hk1 hk2 HM1.out HE1.out hl1 HM.out he])
      rw [HMD.out] at h1
      exact ⟨HKW.out.trans (h1.kept.mono fun _ _ h => h) , h1.types⟩)
    by_cases hln : l < n
    · have hlz : (l : Int) < (n : Int) := by omega
      obtain ⟨rfl, x1⟩ := (HX.out wx HC.out.kept).get hln
      have hxk := HXI.out l hln
      obtain ⟨rfl, z1⟩ := (HZ.out wx HC.out.kept).get hxk
      have HMK := hid (show m l = decide (z (xi l) = 12) by rw [HMD.out])
      obtain ⟨y, hy⟩ : ∃ y, y = xi l := ⟨_, rfl⟩
      obtain ⟨Z, hZ⟩ : ∃ Z, Z = z (xi l) := ⟨_, rfl⟩
      rw [← hZ] at z1 HMK
      rw [← hy] at x1 hxk z1
      have hyz : (y : Int) < (N : Int) := by omega
      have cx := HC.out.cell hln
      have zx := HC.out.frozen l
      have HS := hid (HC.out.set l v (G := fun i => if prB o cl k (l + 1) i = true then v else F i) (fun i _ => by
        by_cases e1 : i = l
        · subst e1; rw [if_pos rfl, if_pos (prB_ll hl1)]
        · rw [if_neg e1, prB_l hl1 e1]))
      clear hy hZ
      by_cases q1 : Z = 12
      · subst q1
        have HM' : Hid (∀ i, cl < i → i < l + 1 → m i = true) := fun i h1 h2 => by
          by_cases e1 : i = l
          · subst e1; rw [HMK.out]; rfl
          · exact HM.out i h1 (by omega)
        go_wp2_with fail
        go_roundg (n - (l + 1))
        case rel => exact ⟨l + 1, by omega, by omega, rfl, by go_num, HM', HS⟩
        case measure => omega
      · have q1b : (Z != 12) = true := bne_iff_ne.2 q1
        have HE := hid (show m l = false by rw [HMK.out]; exact decide_eq_false q1)
        go_wp2_with fail
        go_end0
        exact ⟨rfl, HEND.out (.inr HE.out)⟩
    · obtain rfl : l = n := by omega
      have hnil : Hid (CS w B q cap l (setB (fun i => decide (z (xi i) = 12)) o cl v F) wx) := HEND.out (.inl rfl)
      go_wp2_with fail
      go_end0
      exact ⟨rfl, hnil.out⟩
end Go.Proofs.YtkocpijloiamcaaDoor

/- bidi.Pairs, impl.Pairs: the pairs of BD16, one list of two places each. -/
namespace Go.Proofs.YtkocpijloiamcaaDoor
set_option linter.unusedVariables false
set_option linter.unusedSimpArgs false
open Go.RowKit Go.Lib Go.Sort

theorem Gr.sees0 {w : World} {base : Nat} {e : TypeId} {q n cap : Nat} {f : Nat → Value} (h : Gr w base e (.slice (some ⟨q, 0, none⟩) n cap) n f) (h0 : 0 < n) : Sees w (some ⟨q, 0, none⟩) q 0 n cap f := by
  obtain ⟨b, hb, hs⟩ := h.see
  obtain rfl : q = b := by have := (hs.get h0).1; simp only [Option.some.injEq, Addr.mk.injEq, and_true] at this; exact this
  exact hs

theorem Gw.base' {w : World} {B B' s n : Nat} {E : TypeId} {v : Value} {F : Nat → List Value} (h : Gw w B E s v n F) (hb : B' ≤ B) : Gw w B' E s v n F := by
  refine ⟨h.1, ?_⟩
  rcases h.2 with hn | ⟨g', cap, cur, rfl, hb2, rest⟩
  · exact .inl hn
  · exact .inr ⟨g', cap, cur, rfl, Nat.le_trans hb hb2, rest⟩

/-- The pairs of a text with these kinds, values and classes of brackets. -/
def pairsOf (kd vl : Nat → Int) (c : Nat → Int) (n : Nat) : List (Nat × Nat) := prs (bk kd vl (fun i => decide (c i = 10)) n).cl n

theorem pairsOf_len {kd vl c : Nat → Int} {n : Nat} : (pairsOf kd vl c n).length ≤ n := prs_len

theorem undInt22 : Tryd.prog.underlying 104 = some (.slice 22) := by kernel_rfl

/-- The pairs as lists of two places. -/
def pairLists (l : List (Nat × Nat)) : List (List Nat) := l.map fun p => [p.1, p.2]

theorem pairLists_getD {l : List (Nat × Nat)} {k : Nat} (hk : k < l.length) : (pairLists l).getD k [] = [(l.getD k (0, 0)).1, (l.getD k (0, 0)).2] := by
  unfold pairLists
  rw [List.getD_eq_getElem?_getD, List.getElem?_map, List.getElem?_eq_getElem hk, List.getD_eq_getElem?_getD, List.getElem?_eq_getElem hk]; rfl

end Go.Proofs.YtkocpijloiamcaaDoor


/- Lists of lists: rows beside them, and what spec.SameLists says of them. -/
namespace Go.Proofs.YtkocpijloiamcaaDoor
open Go.RowKit
set_option linter.unusedVariables false

theorem LL.base {w : World} {base base' : Nat} {v : Value} {R : List (List Nat)} (h : LL w base v R) (hb : base' ≤ base) : LL w base' v R := by
  obtain ⟨f, h1, h2, h3, h4⟩ := h
  exact ⟨f, h1.base hb, fun j hj => (h2 j hj).base hb, h3, h4⟩

theorem RetLL.trans {w w1 : World} {R : List (List Nat)} {e : Ending} {w' : World} (s : w.Since w.heap.size w1) (h : RetLL w1 R e w') : RetLL w R e w' := by
  obtain ⟨v, he, hl, hs⟩ := h
  exact ⟨v, he, hl.base s.size, since2 s hs⟩

/-- A new row beside lists that were there. -/
theorem LL.beside {w w' : World} {base : Nat} {v u : Value} {R : List (List Nat)} {r : List Nat} (h : LL w base v R) (s : w.Since w.heap.size w') (hu : Gr w' w.heap.size 3 u r.length (cellsOf r)) (hb : base ≤ w.heap.size) : ∃ f, LLp w' base v R u r f := by
  obtain ⟨f, h1, h2, h3, h4⟩ := h
  refine ⟨f, h1.since s, fun j hj => (h2 j hj).since s, h3, h4, hu.base hb, fun k q1 q2 => ?_, fun j hj k q1 q2 => ?_⟩
  · have := (h1.ge k q1).2
    have := (hu.ge k q2).1
    omega
  · have := ((h2 j hj).ge k q1).2
    have := (hu.ge k q2).1
    omega

theorem since_kp {w w1 w2 : World} {B : Nat} {S : Nat → Prop} (h : w.Since B w1) (k : Kp S w1 w2) (hB : B ≤ w1.heap.size) (hS : ∀ q, S q → B ≤ q) : w.Since B w2 :=
  ⟨k.os.trans h.os, k.tape.trans h.tape, k.output.trans h.output, Nat.le_trans h.size k.size, fun q hq => (k.block q (by omega) (fun s => by have := hS q s; omega)).trans (h.block q hq)⟩

/-- Lists that lie from a place on stay where no block from there on has turned. -/
theorem LL.keptFrom {w w' : World} {base : Nat} {v : Value} {R : List (List Nat)} {S : Nat → Prop} (h : LL w base v R) (s : Kp S w w') (hS : ∀ q, S q → q < base) : LL w' base v R :=
  h.kept s (fun k hk hs => by
    obtain ⟨f, h1, _⟩ := h
    have := (h1.ge k hk).1
    have := hS k hs
    omega) (fun f h2 _ j hj k hk hs => by
    have := ((h2 j hj).ge k hk).1
    have := hS k hs
    omega)

theorem take_snoc {R : List (List Nat)} {k : Nat} (hk : k < R.length) : R.take (k + 1) = R.take k ++ [R.getD k []] := by
  rw [List.take_add_one, List.getElem?_eq_getElem hk, List.getD_eq_getElem?_getD, List.getElem?_eq_getElem hk]; rfl

/-- A row of two numbers, written out. -/
theorem Gr.two (w : World) (a b : Nat) : Gr (w.alloc (.cells #[.int .i64 ((a : Nat) : Int), .int .i64 ((b : Nat) : Int)] 3)) w.heap.size 3 (.slice (some ⟨w.heap.size, 0, none⟩) 2 2) 2 (cellsOf [a, b]) :=
  ⟨by simp, .inr ⟨w.heap.size, 2, #[.int .i64 ((a : Nat) : Int), .int .i64 ((b : Nat) : Int)], rfl, Nat.le_refl _, heap_alloc_new w _, Nat.le_refl _, by unfold maxLen; omega, rfl, rfl⟩⟩

/-- Nothing but draws. -/
def Drawn (w w' : World) : Prop := ∃ m, w' = w.drewN m
theorem Drawn.refl (w : World) : Drawn w w := ⟨0, rfl⟩
theorem Drawn.cell {w w' : World} (h : Drawn w w') (a : Addr) : w'.cell? a = w.cell? a := by obtain ⟨m, rfl⟩ := h; rfl
theorem Drawn.drewN {w w' : World} (h : Drawn w w') (n : Nat) : Drawn w (w'.drewN n) := by obtain ⟨m, rfl⟩ := h; exact ⟨m + n, World.drewN_drewN _ _ _⟩

set_option maxHeartbeats 400000 in
theorem same_q {ao : Option Addr} {b o n c : Nat} {x : Nat → Int} {ao' : Option Addr} {b' o' n' c' : Nat} {y : Nat → Int} (w : World) (hn : n ≤ 17179869184) (hn' : n' ≤ 17179869184)
    (hx : Sees w ao b o n c (fun i => .int .i64 (x i))) (hy : Sees w ao' b' o' n' c' (fun i => .int .i64 (y i))) :
    Calls Tryd.prog 25 #[.slice ao n c, .slice ao' n' c'] w fun e w' => e = .returned (.bool (sameB n n' x y)) ∧ Drawn w w' := by
  by_cases hne : n = n'
  · subst hne
    go_enter Tryd.func25, Tryd.ntmps25
    go_wp2
    go_loopg [5, 13] n (fun g _ i wr => ∃ k : Nat, k ≤ n ∧ g = n - k ∧ i = .int .i64 k ∧ (∀ j, j < k → x j = y j) ∧ Drawn w wr)
    case atStart => exact ⟨0, by omega, rfl, rfl, fun j hj => absurd hj (Nat.not_lt_zero _), Drawn.refl _⟩
    case round =>
      obtain ⟨k, hk, rfl, rfl, hall, hs⟩ := hrel
      have HA := Lib.hid hall
      clear hall
      by_cases hlt : k < n
      · obtain ⟨rfl, hc⟩ := hx.get hlt
        obtain ⟨rfl, hd⟩ := hy.get hlt
        have hc' : wr.cell? ⟨b, o + k, none⟩ = some (.int .i64 (x k)) := (hs.cell _).trans hc
        have hd' : wr.cell? ⟨b', o' + k, none⟩ = some (.int .i64 (y k)) := (hs.cell _).trans hd
        have hlz : (k : Int) < (n : Int) := by omega
        clear hc hd
        by_cases hxy : x k = y k
        · have hb1 : (x k != y k) = false := by simp [hxy]
          have HX := Lib.hid hxy
          clear hxy
          go_wp2
          go_quiet (fail)
          go_wp2
          go_roundg (n - (k + 1))
          case rel => exact ⟨k + 1, by omega, rfl, by go_num, fun j hj => by rcases Nat.lt_succ_iff_lt_or_eq.1 hj with h | h; exact HA.out j h; subst h; exact HX.out, hs.drewN _⟩
          case measure => omega
        · have hb1 : (x k != y k) = true := by simp [hxy]
          go_wp2
          go_quiet (fail)
          go_wp2
          go_ret
          exact ⟨ret_bool (by unfold sameB; symm; rw [decide_eq_false_iff_not]; exact fun h => hxy (h.2 k hlt)), hs.drewN _⟩
      · obtain rfl : k = n := by omega
        go_wp2
        go_ret
        exact ⟨ret_bool (by unfold sameB; symm; rw [decide_eq_true_eq]; exact ⟨rfl, HA.out⟩), hs⟩
  · have hb0 : ((n : Int) != (n' : Int)) = true := by simp; omega
    go_enter Tryd.func25, Tryd.ntmps25
    go_wp2
    go_ret
    exact ⟨ret_bool (by unfold sameB; symm; rw [decide_eq_false_iff_not]; exact fun h => hne h.1), Drawn.refl _⟩

end Go.Proofs.YtkocpijloiamcaaDoor
