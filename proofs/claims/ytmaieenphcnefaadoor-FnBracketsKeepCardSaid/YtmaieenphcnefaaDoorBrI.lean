/- (*bracketPairer).getStrongTypeN0, .classifyPairContent, .classBeforePair. -/
import Derived.Test.YtmaieenphcnefaaDoorBrP
import Derived.Test.YtmaieenphcnefaaDoorLoc2
import Derived.Test.YtmaieenphcnefaaDoorClsA
namespace Go.Proofs.YtmaieenphcnefaaDoor
open Go.RowKit Go.Lib Go.Sort
set_option linter.unusedVariables false
set_option linter.unusedSimpArgs false

set_option maxHeartbeats 1000000 in
theorem getStrong_any {p q bq cq n i : Nat} {aq : Option Addr} {f : Nat → Value} {c : Nat → Int} (w : World) (hr : w.rowIs p 64 5 f) (hf : f 3 = .slice aq n cq)
    (hc : Sees w aq q bq n cq (fun i => .int .u64 (c i))) (hi : i < n) :
    Calls Tryd.prog 80 #[ptr p, .int .i64 i] w fun e w' => e = .returned (.int .u64 (gs (c i))) ∧ w = w' := by
  have c3 : w.cell? ⟨p, 3, none⟩ = some (.slice aq n cq) := by rw [← hf]; exact hr.cell (by omega)
  obtain ⟨rfl, x1⟩ := hc.get hi
  have hiz : (i : Int) < (n : Int) := by omega
  have HG := hid (show gs (c i) = if c i = 2 ∨ c i = 5 ∨ c i = 13 ∨ c i = 1 then 1 else if c i = 0 then 0 else 10 from rfl)
  obtain ⟨v, hv⟩ : ∃ v, v = c i := ⟨_, rfl⟩
  obtain ⟨G, hG⟩ : ∃ G, G = gs (c i) := ⟨_, rfl⟩
  rw [← hG] at HG ⊢
  rw [← hv] at HG x1
  clear hv hG hr hc hf
  by_cases h2 : v = 2
  · subst h2
    obtain rfl : G = 1 := by have := HG.out; rw [if_pos (by omega)] at this; exact this
    go_enter Tryd.func80, Tryd.ntmps80
    go_wp2
    go_ret
    exact ⟨rfl, rfl⟩
  have b2 : (v == 2) = false := beq_eq_false_iff_ne.2 h2
  by_cases h5 : v = 5
  · subst h5
    obtain rfl : G = 1 := by have := HG.out; rw [if_pos (by omega)] at this; exact this
    go_enter Tryd.func80, Tryd.ntmps80
    go_wp2
    go_ret
    exact ⟨rfl, rfl⟩
  have b5 : (v == 5) = false := beq_eq_false_iff_ne.2 h5
  by_cases h13 : v = 13
  · subst h13
    obtain rfl : G = 1 := by have := HG.out; rw [if_pos (by omega)] at this; exact this
    go_enter Tryd.func80, Tryd.ntmps80
    go_wp2
    go_ret
    exact ⟨rfl, rfl⟩
  have b13 : (v == 13) = false := beq_eq_false_iff_ne.2 h13
  by_cases h1 : v = 1
  · subst h1
    obtain rfl : G = 1 := by have := HG.out; rw [if_pos (by omega)] at this; exact this
    go_enter Tryd.func80, Tryd.ntmps80
    go_wp2
    go_ret
    exact ⟨rfl, rfl⟩
  have b1 : (v == 1) = false := beq_eq_false_iff_ne.2 h1
  by_cases h0 : v = 0
  · subst h0
    obtain rfl : G = 0 := by have := HG.out; rw [if_neg (by omega), if_pos rfl] at this; exact this
    go_enter Tryd.func80, Tryd.ntmps80
    go_wp2
    go_ret
    exact ⟨rfl, rfl⟩
  have b0 : (v == 0) = false := beq_eq_false_iff_ne.2 h0
  obtain rfl : G = 10 := by have := HG.out; rw [if_neg (by omega), if_neg h0] at this; exact this
  go_enter Tryd.func80, Tryd.ntmps80
  go_wp2
  go_ret
  exact ⟨rfl, rfl⟩

/-- What classifyPairContent gives. -/
def cpOf (g : Nat → Int) (o cl : Nat) (e : Int) : Int := if hasS g o cl e = true then e else if hasS g o cl (1 - e) = true then 1 - e else 10

set_option maxHeartbeats 1000000 in
theorem classify_any {p q bq cq n o cl : Nat} {aq : Option Addr} {f : Nat → Value} {c : Nat → Int} {e : Int} (w : World) (hr : w.rowIs p 64 5 f) (hf : f 3 = .slice aq n cq)
    (hc : Sees w aq q bq n cq (fun i => .int .u64 (c i))) (ho : o < cl) (hcl : cl < n) (hn : n ≤ 4294967296) (he : e = 0 ∨ e = 1) :
    Calls Tryd.prog 72 #[ptr p, .agg #[.int .i64 o, .int .i64 cl], .int .u64 e] w fun en w' => en = .returned (.int .u64 (cpOf (fun i => gs (c i)) o cl e)) ∧ w.Since w.heap.size w' := by
  have hs0 : w.Since w.heap.size (w.alloc (.cells #[.int .i64 o, .int .i64 cl] 69)) := (World.Since.refl _ _).alloc (Nat.le_refl _) _
  have HS0 := hid hs0
  have HR := hid hr
  have HC := hid hc
  have hb0 : ∀ wr, (w.alloc (.cells #[.int .i64 o, .int .i64 cl] 69)) = wr → wr.cell? ⟨w.heap.size, 0, none⟩ = some (.int .i64 (o : Nat)) ∧ wr.cell? ⟨w.heap.size, 1, none⟩ = some (.int .i64 (cl : Nat)) := fun wr h => by
    rw [← h]
    have hrow := World.rowIs_alloc w #[Value.int .i64 (o : Nat), .int .i64 (cl : Nat)] 69 (fun i => (#[Value.int .i64 (o : Nat), .int .i64 (cl : Nat)][i]?).getD undef) (fun i hi => by rw [Array.getElem?_eq_getElem hi]; rfl)
    exact ⟨hrow.cell (show 0 < 2 by omega), hrow.cell (show 1 < 2 by omega)⟩
  have HB0 := hid hb0
  clear hs0 hr hc hb0
  go_enter Tryd.func72, Tryd.ntmps72
  go_wp2
  obtain ⟨wA, hwA⟩ : ∃ wA, wA = w.alloc (.cells #[.int .i64 (o : Nat), .int .i64 (cl : Nat)] 69) := ⟨_, rfl⟩
  rw [← hwA] at HS0 ⊢
  obtain ⟨e0, e1⟩ := HB0.out wA hwA.symm
  have hRA : wA.rowIs p 64 5 f := HR.out.of_block (HS0.out.block _ HR.out.lt)
  have HGS := hid (fun i (hi : i < n) => getStrong_any wA hRA hf (HC.out.since HS0.out) hi)
  clear hwA hRA HR HC HB0
  go_loopg [7, 8] (cl - (o + 1)) (fun gg d i wr => ∃ (k : Nat) (D : Int), o < k ∧ k ≤ cl ∧ gg = cl - k ∧ i = .int .i64 k ∧ d = .int .u64 D ∧ wr = wA ∧ Hid ((D = 10 ∧ ∀ i, o < i → i < k → gs (c i) = 10) ∨ (D = 1 - e ∧ (∀ i, o < i → i < k → gs (c i) ≠ e) ∧ ∃ i, o < i ∧ i < k ∧ gs (c i) = 1 - e)))
  case atStart => exact ⟨o + 1, 10, by omega, by omega, rfl, by go_num, rfl, rfl, .inl ⟨rfl, fun i h1 h2 => by omega⟩⟩
  case round =>
    obtain ⟨k, D, hk1, hk2, rfl, rfl, rfl, rfl, HD⟩ := hrel
    by_cases hkc : k < cl
    · have hkz : (k : Int) < (cl : Int) := by omega
      go_wp2_with fail
      refine (HGS.out k (by omega)).mono ?_
      rintro en w1 ⟨rfl, rfl⟩
      have hg3 := gs_cases (c k)
      obtain ⟨G, hG⟩ : ∃ G, G = gs (c k) := ⟨_, rfl⟩
      rw [← hG] at hg3 ⊢
      have HGK := hid hG
      clear hG
      by_cases q1 : G = 10
      · subst q1
        have HD' : Hid ((D = 10 ∧ ∀ i, o < i → i < k + 1 → gs (c i) = 10) ∨ (D = 1 - e ∧ (∀ i, o < i → i < k + 1 → gs (c i) ≠ e) ∧ ∃ i, o < i ∧ i < k + 1 ∧ gs (c i) = 1 - e)) := by
          rcases HD.out with ⟨a, b⟩ | ⟨a, b, ⟨i, r1, r2, r3⟩⟩
          · exact .inl ⟨a, fun i h1 h2 => by
              by_cases ei : i = k
              · subst ei; exact HGK.out.symm
              · exact b i h1 (by omega)⟩
          · exact .inr ⟨a, fun i h1 h2 => by
              by_cases ei : i = k
              · subst ei; rw [← HGK.out]; omega
              · exact b i h1 (by omega), ⟨i, r1, by omega, r3⟩⟩
        clear hg3
        go_wp2_with fail
        go_roundg (cl - (k + 1))
        case rel => exact ⟨k + 1, D, by omega, by omega, rfl, by go_num, rfl, rfl, HD'⟩
        case measure => omega
      · have q1b : (G == 10) = false := beq_eq_false_iff_ne.2 q1
        by_cases q2 : G = e
        · subst q2
          have HF := hid (show cpOf (fun i => gs (c i)) o cl G = G by unfold cpOf; rw [if_pos (hasS_of hkc (by omega) HGK.out.symm)])
          clear hg3 q1
          go_wp2_with fail
          go_ret
          exact ⟨by rw [HF.out]; rfl, HS0.out⟩
        · have q2b : (G == e) = false := beq_eq_false_iff_ne.2 q2
          have HD' : Hid ((G = 10 ∧ ∀ i, o < i → i < k + 1 → gs (c i) = 10) ∨ (G = 1 - e ∧ (∀ i, o < i → i < k + 1 → gs (c i) ≠ e) ∧ ∃ i, o < i ∧ i < k + 1 ∧ gs (c i) = 1 - e)) := by
            have hb : ∀ i, o < i → i < k → gs (c i) ≠ e := by
              rcases HD.out with ⟨a, b⟩ | ⟨a, b, _⟩
              · intro i h1 h2; rw [b i h1 h2]; omega
              · exact b
            refine .inr ⟨by omega, fun i h1 h2 => ?_, ⟨k, by omega, by omega, by rw [← HGK.out]; omega⟩⟩
            by_cases ei : i = k
            · subst ei; rw [← HGK.out]; exact q2
            · exact hb i h1 (by omega)
          clear hg3 q1 q2
          go_wp2_with fail
          go_roundg (cl - (k + 1))
          case rel => exact ⟨k + 1, G, by omega, by omega, rfl, by go_num, rfl, rfl, HD'⟩
          case measure => omega
    · obtain rfl : k = cl := by omega
      have HF : Hid (cpOf (fun i => gs (c i)) o k e = D) := by
        show cpOf _ _ _ _ = _
        unfold cpOf
        rcases HD.out with ⟨a, b⟩ | ⟨a, b, ⟨i, r1, r2, r3⟩⟩
        · rw [hasS_no (fun i h1 h2 => by rw [b i h1 h2]; omega), hasS_no (fun i h1 h2 => by rw [b i h1 h2]; omega), a]; rfl
        · rw [hasS_no b, hasS_of r2 r1 r3, a]; rfl
      go_wp2_with fail
      go_ret
      exact ⟨by rw [HF.out]; rfl, HS0.out⟩

set_option maxHeartbeats 1000000 in
theorem before_any {p q bq cq n o cl : Nat} {aq : Option Addr} {f : Nat → Value} {c : Nat → Int} {s : Int} (w : World) (hr : w.rowIs p 64 5 f) (hf : f 3 = .slice aq n cq) (hf0 : f 0 = .int .u64 s)
    (hc : Sees w aq q bq n cq (fun i => .int .u64 (c i))) (ho : o < n) (hn : n ≤ 4294967296) :
    Calls Tryd.prog 73 #[ptr p, .agg #[.int .i64 o, .int .i64 cl]] w fun en w' => en = .returned (.int .u64 (bfr (fun i => gs (c i)) s o)) ∧ w.Since w.heap.size w' := by
  have hs0 : w.Since w.heap.size (w.alloc (.cells #[.int .i64 o, .int .i64 cl] 69)) := (World.Since.refl _ _).alloc (Nat.le_refl _) _
  have HS0 := hid hs0
  have HR := hid hr
  have HC := hid hc
  clear hs0 hr hc
  go_enter Tryd.func73, Tryd.ntmps73
  go_wp2
  obtain ⟨wA, hwA⟩ : ∃ wA, wA = w.alloc (.cells #[.int .i64 (o : Nat), .int .i64 (cl : Nat)] 69) := ⟨_, rfl⟩
  rw [← hwA] at HS0 ⊢
  have hRA : wA.rowIs p 64 5 f := HR.out.of_block (HS0.out.block _ HR.out.lt)
  have c0 : wA.cell? ⟨p, 0, none⟩ = some (.int .u64 s) := by rw [← hf0]; exact hRA.cell (by omega)
  have HGS := hid (fun i (hi : i < n) => getStrong_any wA hRA hf (HC.out.since HS0.out) hi)
  clear hwA hRA HR HC
  go_loopg [5] (o + 1) (fun gg i wr => ∃ k : Nat, k ≤ o ∧ gg = k + 1 ∧ i = .int .i64 ((k : Int) - 1) ∧ wr = wA ∧ Hid (bfr (fun i => gs (c i)) s o = bfr (fun i => gs (c i)) s k))
  case atStart => exact ⟨o, Nat.le_refl _, rfl, rfl, rfl, rfl⟩
  case round =>
    obtain ⟨k, hk, rfl, rfl, rfl, HB⟩ := hrel
    match k, hk, HB with
    | 0, hk, HB =>
      have HF := hid (show bfr (fun i => gs (c i)) s o = s from HB.out)
      have hm1 : ((0 : Nat) : Int) - 1 = -1 := rfl
      rw [hm1]
      clear HB
      go_wp2_with fail
      go_ret
      exact ⟨by rw [HF.out]; rfl, HS0.out⟩
    | j + 1, hk, HB =>
      have hj1 : ((j + 1 : Nat) : Int) - 1 = (j : Int) := by omega
      rw [hj1]
      go_wp2_with fail
      refine (HGS.out j (by omega)).mono ?_
      rintro en w1 ⟨rfl, rfl⟩
      have HST := hid (show bfr (fun i => gs (c i)) s (j + 1) = if gs (c j) ≠ 10 then gs (c j) else bfr (fun i => gs (c i)) s j from rfl)
      obtain ⟨G, hG⟩ : ∃ G, G = gs (c j) := ⟨_, rfl⟩
      rw [← hG] at HST ⊢
      clear hG
      by_cases q1 : G = 10
      · have HB' := hid (show bfr (fun i => gs (c i)) s o = bfr (fun i => gs (c i)) s j by rw [HB.out, HST.out, if_neg (fun h => h q1)])
        subst q1
        go_wp2_with fail
        go_roundg (j + 1)
        case rel => exact ⟨j, by omega, rfl, by go_num, rfl, HB'⟩
        case measure => omega
      · have HB' := hid (show bfr (fun i => gs (c i)) s o = G by rw [HB.out, HST.out, if_pos q1])
        have q1b : (G != 10) = true := bne_iff_ne.2 q1
        go_wp2_with fail
        go_ret
        exact ⟨by rw [HB'.out]; rfl, HS0.out⟩
end Go.Proofs.YtmaieenphcnefaaDoor
