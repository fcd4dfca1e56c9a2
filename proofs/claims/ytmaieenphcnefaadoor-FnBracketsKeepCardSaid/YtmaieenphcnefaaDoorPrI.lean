/- bidi.Pairs, impl.Pairs: the pairs of BD16, one list of two places each. -/
import Derived.Test.YtmaieenphcnefaaDoorLoc2
import Derived.Test.YtmaieenphcnefaaDoorByt
import Derived.Test.YtmaieenphcnefaaDoorSeqA
import Derived.Test.YtmaieenphcnefaaDoorLL2
namespace Go.Proofs.YtmaieenphcnefaaDoor
set_option linter.unusedVariables false
set_option linter.unusedSimpArgs false
open Go.RowKit Go.Lib Go.Sort

theorem infoPairArr : (Tryd.prog.info? 47).map (fun i => (i.zero, i.size, i.bytes)) = some (some (.agg #[.int .i64 0, .int .i64 0]), 2, 16) := by kernel_rfl
theorem undPairArr : Tryd.prog.underlying 39 = some (.slice 47) := by kernel_rfl

theorem Gr.sees0 {w : World} {base : Nat} {e : TypeId} {q n cap : Nat} {f : Nat → Value} (h : Gr w base e (.slice (some ⟨q, 0, none⟩) n cap) n f) (h0 : 0 < n) : Sees w (some ⟨q, 0, none⟩) q 0 n cap f := by
  obtain ⟨b, hb, hs⟩ := h.see
  obtain rfl : q = b := by have := (hs.get h0).1; simp only [Option.some.injEq, Addr.mk.injEq, and_true] at this; exact this
  exact hs

theorem Gw.base' {w : World} {B B' s n : Nat} {E : TypeId} {v : Value} {F : Nat → List Value} (h : Gw w B E s v n F) (hb : B' ≤ B) : Gw w B' E s v n F := by
  refine ⟨h.1, ?_⟩
  rcases h.2 with hn | ⟨g', cap, cur, rfl, hb2, rest⟩
  · exact .inl hn
  · exact .inr ⟨g', cap, cur, rfl, Nat.le_trans hb hb2, rest⟩

/-- The pairs of a text with these kinds, values and classes of brackets. -/
def pairsOf (kd vl : Nat → Int) (c : Nat → Int) (n : Nat) : List (Nat × Nat) := prs (bk kd vl (fun i => decide (c i = 10)) n).cl n

theorem pairsOf_len {kd vl c : Nat → Int} {n : Nat} : (pairsOf kd vl c n).length ≤ n := prs_len

set_option maxHeartbeats 4000000 in
set_option maxRecDepth 100000 in
theorem bidiPairs_any {ac ak av : Option Addr} {bc oc cc bk' ok ck bv ov cv n : Nat} {c kd vl : Nat → Int} (w : World) (hn : n ≤ 2147483647) (h0 : 0 < n)
    (hc : Sees w ac bc oc n cc (fun i => .int .u64 (c i))) (hk : Sees w ak bk' ok n ck (fun i => .int .u8 (kd i))) (hv : Sees w av bv ov n cv (fun i => .int .i32 (vl i))) (hkd : ∀ j, j < n → kd j = 0 ∨ kd j = 1 ∨ kd j = 2) :
    Calls Tryd.prog 23 #[.slice ac n cc, .slice ak n ck, .slice av n cv] w fun e w' => ∃ v, e = .returned v ∧ Gw w' w.heap.size 47 2 v (pairsOf kd vl c n).length (fun i => prc ((pairsOf kd vl c n).getD i (0, 0))) ∧ w.Since w.heap.size w' := by
  go_enter Tryd.func23, Tryd.ntmps23
  go_wp2_with fail
  refine (listNew_any _).mono ?_
  rintro e w1 ⟨L, rfl, hLge, hL1, hs1⟩
  have hc1 := hc.since hs1
  have hk1 := hk.since hs1
  have hv1 := hv.since hs1
  have hz1 := hs1.size
  clear hc hk hv
  have g1 := Gr.empty w1 w1.heap.size 56 (fun _ => .int .u64 0) (Nat.le_refl _)
  have hsA : w1.Since w1.heap.size (w1.alloc (.cells #[] 56)) := (World.Since.refl _ _).alloc (Nat.le_refl _) _
  have hc2 := hc1.since hsA
  go_wp2_with (at_builtin; go_must (refine wpList_cat _ rfl _ _ 41 rfl w1.heap.size 56 (.int .u64 0) 8 Tryd.underlying41 Tryd.infoClass rfl _ _ _ rfl g1 rfl hc2 (fun _ _ => rfl) (by omega) (by omega) (by simp) ?_))
  intro v2 w2 hg2 hgr2 _
  have hs12 : w1.Since w1.heap.size w2 := hsA.grown hgr2 (by simp) (by simp [Value.ownBlock])
  have hg2' : Gr w2 w1.heap.size 56 v2 n (fun i => .int .u64 (c i)) := by first | exact hg2 | (rw [Nat.zero_add] at hg2; exact hg2.congr fun i _ => by simp)
  obtain ⟨q, cap, rfl, hq⟩ := hg2'.form h0
  have hqlt := (hg2'.ge q rfl).2
  have hL2 := hL1.since hs12
  have hk2 := hk1.since hs12
  have hv2 := hv1.since hs12
  have hs02 := since2 hs1 hs12
  have hLlt := hL1.lt L List.mem_cons_self
  have hz2 := hs12.size
  clear g1 hsA hc1 hc2 hg2 hgr2 hs12 hs1 hL1 hk1 hv1
  go_wp2_with fail
  refine (places_any n _ (by omega)).mono ?_
  rintro e w3 ⟨rfl, hidx, hs23⟩
  have hL3 := hL2.since hs23
  have hk3 := hk2.since hs23
  have hv3 := hv2.since hs23
  have hg3 := hg2'.since hs23
  have hs03 := since2 hs02 hs23
  have hz3 := hs23.size
  have hilt := hidx.lt
  clear hL2 hk2 hv2 hg2' hs02 hs23
  go_wp2_with fail
  have hA : w3.Since w3.heap.size (w3.alloc (.cells #[.int .u64 0, ptr L, .slice none 0 0, .slice (some ⟨q, 0, none⟩) n cap, .slice (some ⟨w2.heap.size, 0, none⟩) n n] 64)) := (World.Since.refl _ _).alloc (Nat.le_refl _) _
  have hrow4 : (w3.alloc (.cells #[.int .u64 0, ptr L, .slice none 0 0, .slice (some ⟨q, 0, none⟩) n cap, .slice (some ⟨w2.heap.size, 0, none⟩) n n] 64)).rowIs w3.heap.size 64 5 (bpf (.int .u64 0) (ptr L) (.slice none 0 0) (.slice (some ⟨q, 0, none⟩) n cap) (.slice (some ⟨w2.heap.size, 0, none⟩) n n)) :=
    World.rowIs_alloc w3 #[_, _, _, _, _] _ _ (fun i hi => match i, hi with
      | 0, _ => rfl
      | 1, _ => rfl
      | 2, _ => rfl
      | 3, _ => rfl
      | 4, _ => rfl)
  obtain ⟨w4, hw4⟩ : ∃ w4, w4 = w3.alloc (.cells #[.int .u64 0, ptr L, .slice none 0 0, .slice (some ⟨q, 0, none⟩) n cap, .slice (some ⟨w2.heap.size, 0, none⟩) n n] 64) := ⟨_, rfl⟩
  obtain ⟨p, hp⟩ : ∃ p, p = w3.heap.size := ⟨_, rfl⟩
  rw [← hw4, ← hp]
  rw [← hw4, ← hp] at hrow4
  rw [← hw4] at hA
  have hk4 := hk3.since hA
  have hv4 := hv3.since hA
  have hL4 := hL3.since hA
  have hg4 := hg3.since hA
  have hidx4 := hidx.of_block (hA.block _ hilt)
  have hs04 := since2 hs03 hA
  have hz4 := hA.size
  have HPp := hid hp
  have hpne : q ≠ p ∧ w2.heap.size ≠ p ∧ p ≠ L ∧ q ≠ L ∧ w2.heap.size ≠ L := by omega
  have hpge : w.heap.size ≤ p := by omega
  clear hw4 hA hk3 hv3 hL3 hg3 hidx hs03 hp
  refine (brackets_any _ (by omega) hk4).mono ?_
  rintro e w5 ⟨rfl, hbr5, hs45⟩
  have hv5 := hv4.since hs45
  have hL5 := hL4.since hs45
  have hg5 := hg4.since hs45
  have hidx5 := hidx4.of_block (hs45.block _ hidx4.lt)
  have hrow5 := hrow4.of_block (hs45.block _ hrow4.lt)
  have hs05 := since2 hs04 hs45
  have hz5 := hs45.size
  have hrl := hrow4.lt
  have hbl := hbr5.lt
  clear hv4 hL4 hg4 hidx4 hrow4 hs04 hs45 hk4
  have gA := Gr.empty w5 w5.heap.size 21 (fun _ => .int .i32 0) (Nat.le_refl _)
  have hsA : w5.Since w5.heap.size (w5.alloc (.cells #[] 21)) := (World.Since.refl _ _).alloc (Nat.le_refl _) _
  have hv5' := hv5.since hsA
  go_wp2_with (at_builtin; go_must (refine wpList_cat _ rfl _ _ 45 rfl w5.heap.size 21 (.int .i32 0) 4 Tryd.underlying45 Tryd.infoRune rfl _ _ _ rfl gA rfl hv5' (fun _ _ => rfl) (by omega) (by omega) (by simp) ?_))
  intro v6 w6 hg6 hgr6 _
  have hs56 : w5.Since w5.heap.size w6 := hsA.grown hgr6 (by simp) (by simp [Value.ownBlock])
  have hg6' : Gr w6 w5.heap.size 21 v6 n (fun i => .int .i32 (vl i)) := by first | exact hg6 | (rw [Nat.zero_add] at hg6; exact hg6.congr fun i _ => by simp)
  obtain ⟨qv, capv, rfl, hqv⟩ := hg6'.form h0
  have hL6 := hL5.since hs56
  have hg66 := hg5.since hs56
  have hidx6 := hidx5.of_block (hs56.block _ hidx5.lt)
  have hrow6 := hrow5.of_block (hs56.block _ hrow5.lt)
  have hbr6 := hbr5.of_block (hs56.block _ hbl)
  have hs06 := since2 hs05 hs56
  have hsc : Sees w6 (some ⟨q, 0, none⟩) q 0 n cap (fun i => .int .u64 (c i)) := hg66.sees0 h0
  have hsv : Sees w6 (some ⟨qv, 0, none⟩) qv 0 n capv (fun i => .int .i32 (vl i)) := hg6'.sees0 h0
  have hqvge := (hg6'.ge qv rfl).1
  have hLlt6 := hL6.lt L List.mem_cons_self
  have hloc := locate_any (xi := fun i => i) (N := n) w6 hrow6 hL6 hpne.2.2.1 (Sees.ofRow hidx6) (fun _ => ⟨hpne.2.1, hpne.2.2.2.2⟩) hsc (fun _ => ⟨hpne.1, hpne.2.2.2.1⟩) (Sees.ofRow hbr6) (fun _ => ⟨by omega, by omega⟩) hsv (fun _ => ⟨by omega, by omega⟩) (fun i hi => hi) hn (by omega) hkd
  have HS06 := hid hs06
  have hz06 := hs06.size
  have hz61 := hs56.size
  clear hsc hsv hg66 hg6' hidx6 hbr6 hL6 hs06 gA hsA hv5 hv5' hg6 hgr6 hs56 hL5 hg5 hidx5 hrow5 hbr5 hs05
  go_wp2_with fail
  refine hloc.mono ?_
  rintro e w7 ⟨rfl, v7, d7, hrow7, hgw7, hd7, hk67⟩
  have hs07 : w.Since w.heap.size w7 := ⟨hk67.os.trans HS06.out.os, hk67.tape.trans HS06.out.tape, hk67.output.trans HS06.out.output, Nat.le_trans HS06.out.size hk67.size, fun k hk => (hk67.block k (Nat.lt_of_lt_of_le hk HS06.out.size) (by omega)).trans (HS06.out.block k hk)⟩
  have HD7 : Hid (d7.toList = pairsOf kd vl c n) := hd7
  have HG7 := hid hgw7
  have c7 : w7.cell? ⟨p, 2, none⟩ = some v7 := hrow7.cell (by omega)
  obtain ⟨a7, cp7, rfl⟩ : ∃ ao c, v7 = .slice ao d7.size c := by
    rcases hgw7.2 with ⟨rfl, h⟩ | ⟨g', cap, cur, rfl, _⟩
    · exact ⟨none, 0, by rw [h]⟩
    · exact ⟨_, _, rfl⟩
  have hdl : d7.size ≤ n := by
    have := pairsOf_len (kd := kd) (vl := vl) (c := c) (n := n)
    rw [← HD7.out] at this
    simpa using this
  clear hloc hrow6 hd7 hgw7 hk67 hrow7
  go_wp2_with fail
  go_loopg [8, 10, 28] d7.size (fun g l _ i wr => ∃ k : Nat, k ≤ d7.size ∧ g = d7.size - k ∧ i = .int .i64 k ∧ Hid (Gw wr w7.heap.size 47 2 l k (fun i => prc d7[i]!)) ∧ Hid (w7.Since w7.heap.size wr))
  case atStart => exact ⟨0, Nat.zero_le _, rfl, rfl, Gw.nil _ _ _ _ _, World.Since.refl _ _⟩
  case round =>
    obtain ⟨k, hk, rfl, rfl, HG, HS⟩ := hrel
    by_cases hkd' : k < d7.size
    · have hkz : (k : Int) < (d7.size : Int) := by omega
      obtain ⟨q7, cq7, hv7, hq7, _⟩ := HG7.out.form (by omega)
      simp only [Value.slice.injEq, true_and] at hv7
      obtain ⟨rfl, rfl⟩ := hv7
      have HG7' := hid (HG7.out.since HS.out)
      have c0 : wr.cell? ⟨q7, k * 2, none⟩ = some (.int .i64 ((d7[k]!.1 : Nat) : Int)) := HG7'.out.cell (c := 0) (fun _ _ => rfl) hkd' (by omega) _ rfl
      have c1 : wr.cell? ⟨q7, k * 2 + 1, none⟩ = some (.int .i64 ((d7[k]!.2 : Nat) : Int)) := HG7'.out.cell (c := 1) (fun _ _ => rfl) hkd' (by omega) _ rfl
      obtain ⟨x, hx⟩ : ∃ x, x = d7[k]! := ⟨_, rfl⟩
      rw [← hx] at c0 c1
      have HX := hid hx
      have hsz : w7.heap.size ≤ wr.heap.size := HS.out.size
      clear hx HG7'
      go_wp2_with (at_builtin; go_must (refine wpList_pushW (wr.alloc (.cells #[.int .i64 (x.1 : Nat), .int .i64 (x.2 : Nat)] 69)) rfl _ _ 39 rfl w7.heap.size 47 (.agg #[.int .i64 0, .int .i64 0]) 2 16 undPairArr infoPairArr rfl (by omega) _ k (fun i => prc d7[i]!) (prc x) (by rfl) (HG.out.alloc _) (by rw [World.size_alloc]; rfl) rfl (fun y hy => by simp [prc] at hy; rcases hy with rfl | rfl <;> rfl) (by omega) (by omega) (by simp; omega) ?_))
      intro v' w9 hg9 hgr9 hat9
      have hs9 : w7.Since w7.heap.size w9 := ((HS.out.alloc hsz _).alloc (by simp; omega) _).grown hgr9 (by simp; omega) (fun k hk => (HG.out.ge k hk).1)
      have HS9 := hid hs9
      have HG9 := hid (hg9.congr (G := fun i => prc d7[i]!) (fun i hi => by
        by_cases e : i = k
        · subst e; rw [if_pos rfl, HX.out]
        · rw [if_neg e]))
      clear hg9 hgr9 hat9 hs9 c0 c1 HG HS
      go_wp2_with fail
      go_roundg (d7.size - (k + 1))
      case rel => exact ⟨k + 1, by omega, rfl, by go_num, HG9, HS9⟩
      case measure => omega
    · obtain rfl : k = d7.size := by omega
      have hl : d7.size = (pairsOf kd vl c n).length := by rw [← HD7.out]; simp
      have hgf := (HG.out.base' hs07.size).congr (G := fun i => prc ((pairsOf kd vl c n).getD i (0, 0))) (fun i hi => by
        rw [← HD7.out, List.getD_eq_getElem?_getD, Array.getElem?_toList, Array.getElem?_eq_getElem hi, getElem!_pos d7 i hi]; rfl)
      have HGF := hid hgf
      have HL := hid hl
      clear hgf hl
      go_wp2_with fail
      go_ret
      exact ⟨_, rfl, by rw [← HL.out]; exact HGF.out, since2 hs07 HS.out⟩

theorem undInt22 : Tryd.prog.underlying 27 = some (.slice 22) := by kernel_rfl

/-- The pairs as lists of two places. -/
def pairLists (l : List (Nat × Nat)) : List (List Nat) := l.map fun p => [p.1, p.2]

theorem pairLists_getD {l : List (Nat × Nat)} {k : Nat} (hk : k < l.length) : (pairLists l).getD k [] = [(l.getD k (0, 0)).1, (l.getD k (0, 0)).2] := by
  unfold pairLists
  rw [List.getD_eq_getElem?_getD, List.getElem?_map, List.getElem?_eq_getElem hk, List.getD_eq_getElem?_getD, List.getElem?_eq_getElem hk]; rfl

set_option maxHeartbeats 4000000 in
set_option maxRecDepth 100000 in
theorem implPairs_any {at_ ak av : Option Addr} {bt ot ct bk' ok ck bv ov cv n : Nat} {x kd vl : Nat → Int} (w : World) (ht : Tab w) (hn : n ≤ 2147483647) (h0 : 0 < n)
    (hx : Sees w at_ bt ot n ct (fun i => .int .i64 (x i))) (hk : Sees w ak bk' ok n ck (fun i => .int .i64 (kd i))) (hv : Sees w av bv ov n cv (fun i => .int .i64 (vl i)))
    (hkd : ∀ j, j < n → kd j = 0 ∨ kd j = 1 ∨ kd j = 2) (hvl : ∀ j, j < n → 0 ≤ vl j ∧ vl j ≤ 1114111) :
    Calls Tryd.prog 12 #[.slice at_ n ct, .slice ak n ck, .slice av n cv] w (RetLL w (pairLists (pairsOf kd vl (fun i => cls (x i)) n))) := by
  have g2 := Gr.empty w w.heap.size 22 (fun _ => .slice none 0 0) (Nat.le_refl _)
  have H0 : LL (w.alloc (.cells #[] 22)) w.heap.size (.slice (some ⟨w.heap.size, 0, none⟩) 0 0) [] := LL.nil _ _ _ _ g2
  have hs0 : w.Since w.heap.size (w.alloc (.cells #[] 22)) := (World.Since.refl _ _).alloc (Nat.le_refl _) _
  have ht0 := ht.since hs0
  have hx0 := hx.since hs0
  have hk0 := hk.since hs0
  have hv0 := hv.since hs0
  obtain ⟨PP, hPP⟩ : ∃ PP, PP = pairsOf kd vl (fun i => cls (x i)) n := ⟨_, rfl⟩
  have hPl : PP.length ≤ n := by rw [hPP]; exact pairsOf_len
  rw [← hPP]
  have HPP := hid hPP
  have HKD := hid hkd
  clear g2 ht hx hk hv hPP hkd
  go_enter Tryd.func12, Tryd.ntmps12
  go_wp2_with fail
  refine (classesOf_any _ ht0 (by omega) hx0).mono ?_
  rintro e w1 ⟨a1, b1, o1, c1, rfl, hs1, hf1, hsi1⟩
  have H1 := H0.since hsi1
  have hs01 := since2 hs0 hsi1
  have hk1 := hk0.since hsi1
  have hv1 := hv0.since hsi1
  clear H0 ht0 hx0 hk0 hv0
  go_wp2_with fail
  refine (bytesOf_any _ (by omega) hk1).mono ?_
  rintro e w2 ⟨a2, b2, o2, c2, rfl, hs2, hf2, hsi2⟩
  have H2 := H1.since hsi2
  have hs02 := since2 hs01 hsi2
  have hc2 := hs1.since hsi2
  have hv2 := hv1.since hsi2
  clear H1 hk1 hv1 hs1
  go_wp2_with fail
  refine (runesOf_any _ (by omega) hv2).mono ?_
  rintro e w3 ⟨a3, b3, o3, c3, rfl, hs3, hf3, hsi3⟩
  have H3 := H2.since hsi3
  have hs03 := since2 hs02 hsi3
  have hc3 := hc2.since hsi3
  have hb3 := (hs2.since hsi3).congr (g := fun i => .int .u8 (kd i)) (fun i hi => by
    have h := HKD.out i hi
    have : IntKind.u8.wrap (kd i) = kd i := by rcases h with h | h | h <;> rw [h] <;> decide
    rw [this])
  have hr3 := hs3.congr (g := fun i => .int .i32 (vl i)) (fun i hi => by
    have h := hvl i hi
    have : IntKind.i32.wrap (vl i) = vl i := by simp [IntKind.wrap, IntKind.bits, IntKind.signed]; omega
    rw [this])
  clear H2 hc2 hv2 hs2 hs3 hvl
  have hz01 := hs0.size
  have hz1 : w.heap.size < w1.heap.size := by
    have := hsi1.size
    simp at this; omega
  have hz13 : w1.heap.size ≤ w3.heap.size := Nat.le_trans hsi2.size hsi3.size
  clear hs01 hs02 hsi1 hsi2 hsi3
  go_wp2_with fail
  refine (bidiPairs_any _ hn h0 hc3 hb3 hr3 HKD.out).mono ?_
  rintro e w4 ⟨v4, rfl, hg4, hsi4⟩
  rw [← HPP.out] at hg4
  have H4 := H3.since hsi4
  have hs04 := since2 hs03 hsi4
  obtain ⟨a4, cp4, hv4⟩ : ∃ ao c, v4 = .slice ao PP.length c := by
    rcases hg4.2 with ⟨h1, h⟩ | ⟨g', cap, cur, h1, _⟩
    · exact ⟨none, 0, by rw [h1, h]⟩
    · exact ⟨_, _, h1⟩
  subst hv4
  have HG4 := hid hg4
  have hz34 := hsi4.size
  clear H3 hs03 hc3 hb3 hr3 hg4 hsi4
  go_wp2_with fail
  go_loopg [7, 9, 19] PP.length (fun g out _ i wr => ∃ k : Nat, k ≤ PP.length ∧ g = PP.length - k ∧ i = .int .i64 k ∧ LL wr w.heap.size out ((pairLists PP).take k) ∧ (∀ q, out.ownBlock = some q → q = w.heap.size ∨ w4.heap.size ≤ q) ∧ Kp (fun q => q = w.heap.size) w4 wr)
  case atStart => exact ⟨0, by omega, rfl, rfl, by rw [List.take_zero]; exact H4, fun q hq => by simp only [Value.ownBlock, Option.some.injEq] at hq; exact .inl hq.symm, Kp.refl _ _⟩
  case round =>
    clear H4
    obtain ⟨k, hk, rfl, rfl, hL, hob, hs⟩ := hrel
    by_cases hkn : k < PP.length
    · have hkz : (k : Int) < (PP.length : Int) := by omega
      obtain ⟨q4, cq4, hv4, hq4, _⟩ := HG4.out.form (by omega)
      simp only [Value.slice.injEq, true_and] at hv4
      obtain ⟨rfl, rfl⟩ := hv4
      have hgq := HG4.out.kept' (w' := wr) (fun q hq => hs.block q (HG4.out.ge q hq).2 (by have := (HG4.out.ge q hq).1; omega))
      have c0 : wr.cell? ⟨q4, k * 2, none⟩ = some (.int .i64 (((PP.getD k (0, 0)).1 : Nat) : Int)) := hgq.cell (c := 0) (fun _ _ => rfl) hkn (by omega) _ rfl
      have c1 : wr.cell? ⟨q4, k * 2 + 1, none⟩ = some (.int .i64 (((PP.getD k (0, 0)).2 : Nat) : Int)) := hgq.cell (c := 1) (fun _ _ => rfl) hkn (by omega) _ rfl
      obtain ⟨y, hy⟩ : ∃ y, y = PP.getD k (0, 0) := ⟨_, rfl⟩
      rw [← hy] at c0 c1
      have HTK := hid (take_snoc (R := pairLists PP) (k := k) (by unfold pairLists; rw [List.length_map]; exact hkn))
      have HPG := hid (pairLists_getD hkn)
      have HY := hid hy
      have hzr := hs.size
      clear hy hgq
      have hsA : wr.Since wr.heap.size (wr.alloc (.cells #[.int .i64 (y.1 : Nat), .int .i64 (y.2 : Nat)] 47)) := (World.Since.refl _ _).alloc (Nat.le_refl _) _
      obtain ⟨TK, hTK0⟩ : ∃ TK, TK = (pairLists PP).take k := ⟨_, rfl⟩
      rw [← hTK0] at hL HTK
      have HTLN := hid (show TK.length = k by rw [hTK0, List.length_take]; unfold pairLists; rw [List.length_map]; omega)
      clear hTK0
      have hLA := hL.since hsA
      obtain ⟨wA, hwA⟩ : ∃ wA, wA = wr.alloc (.cells #[.int .i64 (y.1 : Nat), .int .i64 (y.2 : Nat)] 47) := ⟨_, rfl⟩
      rw [← hwA] at hLA
      have hzA : wA.heap.size = wr.heap.size + 1 := by rw [hwA, World.size_alloc]
      have hgt := Gr.two wA y.1 y.2
      have hsB : wA.Since wA.heap.size (wA.alloc (.cells #[.int .i64 ((y.1 : Nat) : Int), .int .i64 ((y.2 : Nat) : Int)] 3)) := (World.Since.refl _ _).alloc (Nat.le_refl _) _
      obtain ⟨f4, hP⟩ := hLA.beside (r := [y.1, y.2]) hsB hgt (by omega)
      have hKB : Kp (fun q => q = w.heap.size) w4 (wA.alloc (.cells #[.int .i64 ((y.1 : Nat) : Int), .int .i64 ((y.2 : Nat) : Int)] 3)) := by
        rw [hwA]; exact (hs.alloc _).alloc _
      have HP := hid hP
      have HKB := hid hKB
      have hob' : ∀ q, u7.ownBlock = some q → q = w.heap.size ∨ w4.heap.size ≤ q := hob
      have HOB := hid hob'
      have HWA := hid hwA
      clear hL hLA hsA hsB hgt hP hKB hob hob' hs hwA
      have HPw : Hid (LLp ((wr.alloc (.cells #[.int .i64 (y.1 : Nat), .int .i64 (y.2 : Nat)] 47)).alloc (.cells #[.int .i64 ((y.1 : Nat) : Int), .int .i64 ((y.2 : Nat) : Int)] 3)) w.heap.size u7 TK (.slice (some ⟨wr.heap.size + 1, 0, none⟩) 2 2) [y.1, y.2] f4) := by
        rw [← HWA.out, ← hzA]; exact HP.out
      go_wp2_with (at_builtin; go_must (refine wpList_push ((wr.alloc (.cells #[.int .i64 (y.1 : Nat), .int .i64 (y.2 : Nat)] 47)).alloc (.cells #[.int .i64 ((y.1 : Nat) : Int), .int .i64 ((y.2 : Nat) : Int)] 3)) rfl _ _ 27 rfl w.heap.size 22 (.slice none 0 0) 24 Tryd.underlying27 Tryd.infoInts rfl _ _ _ _ (by rfl) HPw.out.outer (by rw [World.size_alloc, World.size_alloc]; rfl) rfl (by rw [HTLN.out]; omega) (by omega) (by rw [World.size_alloc, World.size_alloc]; omega) ?_))
      intro v' w5 hg5 hgr5 hat5
      have hL5 := (HPw.out.pushOuter hg5 hgr5 (by rw [World.size_alloc, World.size_alloc]; exact hat5)).ll
      rw [HWA.out] at HKB
      have hs5 : Kp (fun q => q = w.heap.size) w4 w5 := (HKB.out.alloc _).grown hgr5 (fun q hq => HOB.out q hq)
      have hob5 : ∀ q, v'.ownBlock = some q → q = w.heap.size ∨ w4.heap.size ≤ q := fun q hq => by
        rcases hat5 with e | e
        · exact HOB.out q (by rw [← e]; exact hq)
        · rw [e] at hq
          simp only [Option.some.injEq, World.size_alloc] at hq
          right; omega
      have HL5 : Hid (LL w5 w.heap.size v' ((pairLists PP).take (k + 1))) := by
        rw [HTK.out, HPG.out, ← HY.out]; exact hL5
      have HS5 := hid hs5
      have HO5 := hid hob5
      clear hg5 hgr5 hat5 hL5 hs5 hob5 c0 c1
      go_wp2_with fail
      go_roundg (PP.length - (k + 1))
      case rel => exact ⟨k + 1, by omega, rfl, by go_num, HL5.out, HO5.out, HS5.out⟩
      case measure => omega
    · obtain rfl : k = PP.length := by omega
      have hL' : LL wr w.heap.size u7 (pairLists PP) := by
        rw [List.take_of_length_le (by unfold pairLists; rw [List.length_map]; exact Nat.le_refl _)] at hL
        exact hL
      obtain ⟨ao6, c6, hu5⟩ := hL'.form
      subst hu5
      go_wp2_with fail
      go_ret
      exact ⟨_, rfl, hL', since_kp hs04 hs hs04.size (fun q hq => by omega)⟩
end Go.Proofs.YtmaieenphcnefaaDoor
