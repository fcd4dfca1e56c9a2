/- spec.Pairs: with at most 63 openers it gives the pairs of BD16. -/
import Derived.Test.YtmaieenphcnefaaDoorSpP
import Derived.Test.YtmaieenphcnefaaDoorLoc2
namespace Go.Proofs.YtmaieenphcnefaaDoor
open Go.RowKit Go.Lib Go.Sort
set_option linter.unusedVariables false
set_option linter.unusedSimpArgs false

/-- 'x[:m]'. -/
theorem Gr.cut {w : World} {base : Nat} {e : TypeId} {q n cap m : Nat} {f : Nat → Value} (h : Gr w base e (.slice (some ⟨q, 0, none⟩) n cap) n f) (hm : m ≤ n) : Gr w base e (.slice (some ⟨q, 0, none⟩) m cap) m f := by
  refine ⟨by simp, .inr ?_⟩
  rcases h.2 with ⟨h1, _⟩ | ⟨g', cap', cur, h1, hb, hg, hc, hx, hsz, ht⟩
  · simp at h1
  · simp only [Value.slice.injEq, Option.some.injEq, Addr.mk.injEq] at h1
    obtain ⟨⟨rfl, _, _⟩, _, rfl⟩ := h1
    refine ⟨q, cap, cur, rfl, hb, hg, by omega, hx, hsz, ?_⟩
    have e1 : (List.range m).map f = ((List.range n).map f).take m := by
      rw [← List.map_take, List.take_range, Nat.min_eq_left hm]
    rw [e1, ← ht, List.take_take]
    congr 1
    omega

theorem Gr.capLe {w : World} {base : Nat} {e : TypeId} {q n cap : Nat} {f : Nat → Value} (h : Gr w base e (.slice (some ⟨q, 0, none⟩) n cap) n f) : n ≤ cap := by
  rcases h.2 with ⟨h1, _⟩ | ⟨g', cap', cur, h1, hb, hg, hc, _⟩
  · simp at h1
  · simp only [Value.slice.injEq, Option.some.injEq, Addr.mk.injEq] at h1
    obtain ⟨_, _, rfl⟩ := h1
    exact hc

/-- The state of the search: the stack, the closers. -/
structure Sp (w : World) (st : List Nat) (cl : Nat → Nat) (n : Nat) (sv : Value) (wr : World) : Prop where
  gr : Gr wr w.heap.size 3 sv st.length (cellsOf st.reverse)
  row : wr.rowIs (w.heap.size + 1) 3 n (fun j => .int .i64 ((cl j : Nat) : Int))
  si : w.Since w.heap.size wr
  ne : sv.ownBlock ≠ some (w.heap.size + 1)
  hz : w.heap.size + 2 ≤ wr.heap.size

section
variable {w wr w5 : World} {st : List Nat} {cl : Nat → Nat} {n k : Nat} {sv v' : Value}

theorem Sp.drewN (h : Sp w st cl n sv wr) (m : Nat) : Sp w st cl n sv (wr.drewN m) := ⟨h.gr.kept' (fun _ _ => rfl), h.row.of_block rfl, since_drewN h.si m, h.ne, h.hz⟩

theorem Sp.push {o : Obj} (h : Sp w st cl n sv wr) (hg : Gr w5 w.heap.size 3 v' (st.length + 1) (fun i => if i = st.length then .int .i64 (k : Int) else cellsOf st.reverse i)) (hgr : (wr.alloc o).grownBy w5 sv.ownBlock)
    (hat : v'.ownBlock = sv.ownBlock ∨ v'.ownBlock = some (wr.heap.size + 1)) : Sp w (k :: st) cl n v' w5 := by
  refine ⟨?_, ?_, ?_, ?_, ?_⟩
  · refine hg.congr fun i hi => ?_
    rw [List.reverse_cons, cellsOf_snoc, List.length_reverse]
  · exact h.row.of_block ((hgr.block _ (by rw [World.size_alloc]; have := h.hz; omega) (fun e => h.ne e.symm)).trans (((World.Since.refl wr.heap.size wr).alloc (Nat.le_refl _) o).block _ (by have := h.hz; omega)))
  · exact (h.si.alloc (by have := h.hz; omega) o).grown hgr (by rw [World.size_alloc]; have := h.hz; omega) (fun q hq => (h.gr.ge q hq).1)
  · rcases hat with e | e
    · rw [e]; exact h.ne
    · rw [e]; intro e2; simp only [Option.some.injEq] at e2; have := h.hz; omega
  · have := hgr.size; rw [World.size_alloc] at this; have := h.hz; omega

theorem Sp.pop {q cap c u i : Nat} (h : Sp w st cl n (.slice (some ⟨q, 0, none⟩) st.length cap) wr) (hc : c < st.length) (hu : st.getD c 0 = u) :
    Sp w (st.drop (c + 1)) (fun j => if j = u then i else cl j) n (.slice (some ⟨q, 0, none⟩) (st.length - 1 - c) cap) (wr.setCell ⟨w.heap.size + 1, u, none⟩ (.int .i64 (i : Int))) := by
  have hne : q ≠ w.heap.size + 1 := fun e => h.ne (by rw [e]; rfl)
  refine ⟨?_, ?_, ?_, ?_, ?_⟩
  · have h1 := (h.gr.cut (m := st.length - 1 - c) (by omega)).kept' (w' := wr.setCell ⟨w.heap.size + 1, u, none⟩ (.int .i64 (i : Int))) (fun k hk => by
      simp only [Value.ownBlock, Option.some.injEq] at hk
      exact Go.Deep.blk_setCell_other _ _ _ _ (by simp only; omega))
    have e : (st.drop (c + 1)).length = st.length - 1 - c := by rw [List.length_drop]; omega
    rw [e]
    refine h1.congr fun j hj => ?_
    show Value.int .i64 ((st.reverse.getD j 0 : Nat) : Int) = .int .i64 (((st.drop (c + 1)).reverse.getD j 0 : Nat) : Int)
    have e2 : (st.drop (c + 1)).reverse = st.reverse.take (st.length - (c + 1)) := by rw [List.reverse_drop]
    rw [e2, List.getD_eq_getElem?_getD, List.getD_eq_getElem?_getD, List.getElem?_take, if_pos (by omega)]
  · exact (h.row.set u _).congr fun j _ => by
      by_cases e : j = u
      · rw [if_pos e, if_pos e]
      · rw [if_neg e, if_neg e]
  · exact h.si.setCell (a := ⟨w.heap.size + 1, u, none⟩) (by simp) _
  · intro e; simp only [Value.ownBlock, Option.some.injEq] at e; exact hne e
  · simpa [World.setCell] using h.hz
end

theorem prs_succ {cl : Nat → Nat} {k : Nat} : prs cl (k + 1) = prs cl k ++ if cl k = 0 then [] else [(k, cl k)] := by
  unfold prs
  rw [List.range_succ, List.filterMap_append, List.filterMap_cons, List.filterMap_nil]
  by_cases h : cl k = 0
  · rw [if_pos h, if_pos h]
  · rw [if_neg h, if_neg h]

theorem rev_getD {st : List Nat} {c : Nat} (hc : c < st.length) : st.reverse.getD (st.length - 1 - c) 0 = st.getD c 0 := by
  rw [List.getD_eq_getElem?_getD, List.getElem?_reverse (by omega), List.getD_eq_getElem?_getD]
  congr 2
  omega

set_option maxHeartbeats 4000000 in
set_option maxRecDepth 100000 in
theorem specPairs_any {at_ ag : Option Addr} {bt ot ct bg og cg n : Nat} {x g kd vl : Nat → Int} {nn : Nat → Bool} (w : World) (hn : n ≤ 2147483647)
    (hx : Sees w at_ bt ot n ct (fun i => .int .i64 (x i))) (hg : Sees w ag bg og n cg (fun i => .int .i64 (g i)))
    (hnn : ∀ i, i < n → nn i = decide (x i = 10)) (hgg : ∀ i, i < n → g i = sg kd vl i) (hkd : ∀ j, j < n → kd j = 0 ∨ kd j = 1 ∨ kd j = 2) (hvl : ∀ j, j < n → vl j ≤ 1114111 ∧ (kd j ≠ 0 → 1 ≤ vl j)) (hop : ops kd n ≤ 63) :
    Calls Tryd.prog 13 #[.slice at_ n ct, .slice ag n cg] w (RetLL w (pairLists (prs (bk kd vl nn n).cl n))) := by
  have g0 := Gr.empty w w.heap.size 3 (cellsOf []) (Nat.le_refl _)
  have hmk := run_make_row' (P := Tryd.prog) 22 3 (.int .i64 0) 8 Tryd.underlying22 Tryd.infoInt rfl .i64 .i64 n (by omega) (by omega)
  have h0s : w.Since w.heap.size (w.alloc (.cells #[] 3)) := (World.Since.refl _ _).alloc (Nat.le_refl _) _
  have h0x := hx.since h0s
  have h0g := hg.since h0s
  have hzA : (w.alloc (.cells #[] 3)).heap.size = w.heap.size + 1 := World.size_alloc _ _
  have hlenle : ∀ k, k ≤ n → (bk kd vl nn k).st.length ≤ 63 := fun k hk => Nat.le_trans (bk_on (vl := vl) (nn := nn) hop k hk).2 (Nat.le_trans (ops_mono hk) hop)
  have hlt63 : ∀ k, k < n → kd k = 1 → (bk kd vl nn k).st.length ≠ 63 := fun k hk h1 => by
    have h2 := (bk_on (vl := vl) (nn := nn) hop k (by omega)).2
    have h3 := ops_mono (kd := kd) (show k + 1 ≤ n by omega)
    have h4 : ops kd (k + 1) = ops kd k + 1 := by show ops kd k + _ = _; rw [if_pos h1]
    omega
  have HON := hid (fun k (hk : k ≤ n) => (bk_on (vl := vl) (nn := nn) hop k hk).1)
  have HLE := hid hlenle
  have HLT := hid hlt63
  have HNN := hid hnn
  have HGG := hid hgg
  have HKD := hid hkd
  have HVL := hid hvl
  have HS0 : Hid (Sp w [] (fun _ => 0) n (.slice (some ⟨w.heap.size, 0, none⟩) 0 0) ((w.alloc (.cells #[] 3)).alloc (.cells (madeCells #[.int .i64 0] n) 3))) := by
    refine ⟨?_, ?_, ?_, ?_, ?_⟩
    · exact g0.alloc _
    · have := World.rowIs_made (w.alloc (.cells #[] 3)) (.int .i64 0) n 3
      rw [hzA] at this
      exact this.congr (fun j _ => by simp)
    · exact h0s.alloc (by rw [hzA]; omega) _
    · simp [Value.ownBlock]
    · rw [World.size_alloc, hzA]; omega
  clear g0 h0s h0x h0g hzA hlenle hlt63 hnn hgg hkd hvl hop
  go_enter Tryd.func13, Tryd.ntmps13
  go_wp2_with fail
  clear hmk
  go_loopg [5, 7, 8, 9, 19] n (fun gg s5 _ _ _ i wr => ∃ k : Nat, k ≤ n ∧ gg = n - k ∧ i = .int .i64 k ∧ Hid (Sp w (bk kd vl nn k).st (bk kd vl nn k).cl n s5 wr))
  case atStart => exact ⟨0, Nat.zero_le _, rfl, rfl, HS0⟩
  case round =>
    clear HS0
    obtain ⟨k, hk, rfl, rfl, HP⟩ := hrel
    by_cases hkn : k < n
    · have hkz : (k : Int) < (n : Int) := by omega
      obtain ⟨rfl, c1⟩ := (hx.since HP.out.si).get hkn
      obtain ⟨rfl, c2⟩ := (hg.since HP.out.si).get hkn
      have HG := hid (HGG.out k hkn)
      have HN := hid (HNN.out k hkn)
      have hkd := HKD.out k hkn
      have hv := HVL.out k hkn
      have HO := hid (HON.out k (by omega))
      obtain ⟨ao5, c5, hu5⟩ := HP.out.gr.len
      have hskip : kd k = 0 ∨ nn k = false → bk kd vl nn (k + 1) = bk kd vl nn k := bk_skip HO.out
      have HSK := hid hskip
      clear hskip
      have hl63 := HLE.out k (by omega)
      obtain ⟨st, hst⟩ : ∃ st, st = (bk kd vl nn k).st := ⟨_, rfl⟩
      rw [← hst] at HP hl63 hu5
      have HST := hid hst
      clear hst
      subst hu5
      obtain ⟨X, hX⟩ : ∃ X, X = x k := ⟨_, rfl⟩
      obtain ⟨Gk, hGk⟩ : ∃ Gk, Gk = g k := ⟨_, rfl⟩
      rw [← hX] at c1 HN
      rw [← hGk] at c2 HG
      have HGK := hid hGk
      clear hX hGk
      by_cases q1 : X = 10
      · subst q1
        have hnk : nn k = true := by rw [HN.out]; rfl
        have HNK := hid hnk
        clear hnk
        have hsg : Gk = sg kd vl k := HG.out
        unfold sg at hsg
        by_cases q2 : Gk = 0
        · have hk0 : kd k = 0 := by
            apply Classical.byContradiction
            intro h0
            have h1 := hv.2 h0
            rcases hkd with h | h | h
            · exact h0 h
            · rw [if_pos h] at hsg; omega
            · rw [if_neg (by omega), if_pos h] at hsg; omega
          have HP1 : Hid (Sp w (bk kd vl nn (k + 1)).st (bk kd vl nn (k + 1)).cl n (.slice ao5 st.length c5) wr) := by rw [HSK.out (.inl hk0), ← HST.out]; exact HP
          clear hsg hk0 hv hkd
          subst q2
          go_wp2
          go_roundg (n - (k + 1))
          case rel => exact ⟨k + 1, by omega, rfl, by go_num, HP1⟩
          case measure => omega
        · have q2b : (Gk == 0) = false := by simp [q2]
          by_cases q3 : 0 < Gk
          · have hk1 : kd k = 1 := by
              rcases hkd with h | h | h
              · rw [if_neg (by omega), if_neg (by omega)] at hsg; omega
              · exact h
              · rw [if_neg (by omega), if_pos h] at hsg
                have := hv.2 (by omega)
                omega
            have hln := HLT.out k hkn hk1
            have HB := hid (bk_open HO.out hk1 HNK.out hln)
            rw [← HST.out] at hln HB
            have hlz : ¬ ((st.length : Int) = 63) := by omega
            have hlb : ((st.length : Int) == 63) = false := by simp; omega
            clear hsg hk1 hv hkd hln
            go_wp2_with (at_builtin; go_must (refine wpList_push wr rfl _ _ 22 rfl w.heap.size 3 (.int .i64 0) 8 Tryd.underlying22 Tryd.infoInt rfl _ _ _ _ (by rfl) HP.out.gr rfl rfl (by omega) (by omega) HP.out.si.size ?_))
            intro v' w5 hg5 hgr5 hat5
            have hP5 := HP.out.push hg5 hgr5 hat5
            have HP5 : Hid (Sp w (bk kd vl nn (k + 1)).st (bk kd vl nn (k + 1)).cl n v' w5) := by rw [HB.out]; exact hP5
            clear hg5 hgr5 hat5 hP5 c1 c2
            go_wp2_with fail
            go_roundg (n - (k + 1))
            case rel => exact ⟨k + 1, by omega, rfl, by go_num, HP5⟩
            case measure => omega
          · have hk2 : kd k = 2 := by
              rcases hkd with h | h | h
              · rw [if_neg (by omega), if_neg (by omega)] at hsg; omega
              · rw [if_pos h] at hsg
                have := hv.2 (by omega)
                omega
              · exact h
            have hVk : Gk = -vl k := by rw [if_neg (by omega), if_pos hk2] at hsg; exact hsg
            have HK2 := hid hk2
            have hvk1 := hv.2 (by omega)
            have hvk2 := hv.1
            have HU : Hid (∀ u, u ∈ st → u < k ∧ kd u = 1 ∧ g u = vl u) := fun u hu => by
              rw [HST.out] at hu
              have h1 := (bk_ok (kd := kd) (vl := vl) (nn := nn) k).lt u hu
              have h2 := ((bk_ok (kd := kd) (vl := vl) (nn := nn) k).op u hu).2.1
              refine ⟨h1, h2, ?_⟩
              rw [HGG.out u (by omega)]
              unfold sg
              rw [if_pos h2]
            have HBN : Hid ((∀ j, j < st.length → vl (st.getD j 0) ≠ vl k) → bk kd vl nn (k + 1) = bk kd vl nn k) := fun h4 => bk_none HO.out hk2 HNK.out (by rw [← HST.out]; exact h4)
            have HBC : Hid (∀ c, c < st.length → (∀ j, j < c → vl (st.getD j 0) ≠ vl k) → vl (st.getD c 0) = vl k → bk kd vl nn (k + 1) = { bk kd vl nn k with st := st.drop (c + 1), cl := fun j => if j = st.getD c 0 then k else (bk kd vl nn k).cl j }) := fun c hc h4 h5 => by
              have := bk_close (c := c) HO.out hk2 HNK.out (by rw [← HST.out]; exact hc) (by rw [← HST.out]; exact h4) (by rw [← HST.out]; exact h5)
              rw [this, HST.out]
            have HHG := hid hg
            obtain ⟨V, hV⟩ : ∃ V, V = vl k := ⟨_, rfl⟩
            rw [← hV] at hVk hvk1 hvk2
            have hng : IntKind.i64.wrap (-(-V)) = V := by simp [IntKind.wrap, IntKind.bits, IntKind.signed]; omega
            have hng2 : IntKind.i64.wrap V = V := by simp [IntKind.wrap, IntKind.bits, IntKind.signed]; omega
            have HV := hid hV
            subst hVk
            clear hsg hk2 hv hkd hV hx hg q2
            go_wp2_with fail
            go_loopg [5, 9] (st.length + 1) (fun gg s5 s9 wr2 => ∃ c : Nat, c ≤ st.length ∧ gg = st.length + 1 - c ∧ s5 = .slice ao5 st.length c5 ∧ s9 = .int .i64 ((st.length : Int) - 1 - (c : Int)) ∧ Hid (∀ j, j < c → vl (st.getD j 0) ≠ vl k) ∧ Hid (Sp w st (bk kd vl nn k).cl n (.slice ao5 st.length c5) wr2))
            case atStart => exact ⟨0, Nat.zero_le _, rfl, rfl, by simp, fun j hj => absurd hj (Nat.not_lt_zero _), HP⟩
            case round =>
              rename World => wo
              clear HP c1 c2
              obtain ⟨c, hc, rfl, rfl, rfl, HNE, HP⟩ := hrel
              by_cases hcl : c < st.length
              · obtain ⟨q, cp, hu, hq⟩ := HP.out.gr.form (by omega)
                simp only [Value.slice.injEq, true_and] at hu
                obtain ⟨rfl, rfl⟩ := hu
                obtain ⟨u, hu⟩ : ∃ u, u = st.getD c 0 := ⟨_, rfl⟩
                have hum : u ∈ st := by rw [hu]; exact mem_getD hcl
                obtain ⟨huk, huk1, hug⟩ := HU.out u hum
                have hun : u < n := by omega
                obtain ⟨jn, hjn⟩ : ∃ jn, jn = st.length - 1 - c := ⟨_, rfl⟩
                have hsub : (st.length : Int) - 1 - (c : Int) = (jn : Int) := by omega
                rw [hsub]
                have d1 : wo.cell? ⟨q, jn, none⟩ = some (.int .i64 (u : Nat)) := by
                  have := HP.out.gr.cell (i := jn) (by omega)
                  rw [this]
                  show some (Value.int .i64 ((st.reverse.getD jn 0 : Nat) : Int)) = _
                  rw [hjn, rev_getD hcl, ← hu]
                have hSG := HHG.out.since HP.out.si
                obtain ⟨_, d2⟩ := hSG.get hun
                rw [hug] at d2
                obtain ⟨_, d3⟩ := hSG.get hkn
                rw [← HGK.out] at d3
                have hjl : jn < st.length := by omega
                have hcpl : st.length ≤ c5 := HP.out.gr.capLe
                have HU0 := hid hu
                have HJN := hid hjn
                have HSB := hid hsub
                clear hu hum hsub hSG hjn huk1 hug
                by_cases hm : vl u = V
                · rw [hm] at d2
                  have HM := hid (show vl (st.getD c 0) = vl k by rw [← HU0.out, hm]; exact HV.out)
                  have HB := hid (HBC.out c hcl HNE.out HM.out)
                  have HPN := hid (fun m => HP.out.drewN m)
                  clear hm
                  go_wp2_with fail
                  go_quiet (fail)
                  obtain ⟨wx, hwx⟩ : ∃ wx, wx = wo.drewN nq := ⟨_, rfl⟩
                  have HPX := hid (HPN.out nq)
                  have e1 : wx.cell? ⟨q, jn, none⟩ = some (.int .i64 (u : Nat)) := by rw [hwx]; exact d1
                  rw [← hwx] at HPX ⊢
                  have r1 := HPX.out.row.cell hun
                  have r2 := HPX.out.row.frozen u
                  have hPP := HPX.out.pop (i := k) hcl HU0.out.symm
                  have HP1 : Hid (Sp w (bk kd vl nn (k + 1)).st (bk kd vl nn (k + 1)).cl n (.slice (some ⟨q, 0, none⟩) jn c5) (wx.setCell ⟨w.heap.size + 1, u, none⟩ (.int .i64 (k : Int)))) := by
                    rw [HB.out, HJN.out, ← HU0.out]; exact hPP
                  clear hwx hPP d1 d2 d3
                  have hjc : (jn : Int) ≤ (c5 : Int) := by omega
                  go_wp2_with fail
                  go_roundg (n - (k + 1))
                  case rel => exact ⟨k + 1, by omega, rfl, by go_num, HP1⟩
                  case measure => omega
                · have HNM := hid (show vl (st.getD c 0) ≠ vl k by rw [← HU0.out, ← HV.out]; exact hm)
                  obtain ⟨U, hU⟩ : ∃ U, U = vl u := ⟨_, rfl⟩
                  rw [← hU] at d2 hm
                  have hmb : (U == V) = false := by simp [hm]
                  have HPN := hid (fun m => HP.out.drewN m)
                  have HNE' : Hid (∀ j, j < c + 1 → vl (st.getD j 0) ≠ vl k) := fun j hj => by
                    by_cases e : j = c
                    · subst e; exact HNM.out
                    · exact HNE.out j (by omega)
                  clear hU
                  go_wp2_with fail
                  go_quiet (fail)
                  go_wp2_with fail
                  go_roundg (st.length + 1 - (c + 1))
                  case rel => exact ⟨c + 1, by omega, rfl, rfl, by rw [← HSB.out]; go_num, HNE', HPN.out _⟩
                  case measure => omega
              · obtain rfl : c = st.length := by omega
                have HP1 : Hid (Sp w (bk kd vl nn (k + 1)).st (bk kd vl nn (k + 1)).cl n (.slice ao5 st.length c5) wo) := by rw [HBN.out HNE.out, ← HST.out]; exact HP
                have hneg : (st.length : Int) - 1 - (st.length : Int) = -1 := by omega
                rw [hneg]
                go_wp2_with fail
                go_roundg (n - (k + 1))
                case rel => exact ⟨k + 1, by omega, rfl, by go_num, HP1⟩
                case measure => omega
      · have HP1 : Hid (Sp w (bk kd vl nn (k + 1)).st (bk kd vl nn (k + 1)).cl n (.slice ao5 st.length c5) wr) := by rw [HSK.out (.inr (by rw [HN.out]; exact decide_eq_false q1)), ← HST.out]; exact HP
        have q1b : (X != 10) = true := bne_iff_ne.2 q1
        clear hv hkd
        go_wp2
        go_roundg (n - (k + 1))
        case rel => exact ⟨k + 1, by omega, rfl, by go_num, HP1⟩
        case measure => omega
    · obtain rfl : k = n := by omega
      have hrow := HP.out.row
      have hsi := HP.out.si
      have hz2 := HP.out.hz
      obtain ⟨cl, hcl⟩ : ∃ cl, cl = (bk kd vl nn k).cl := ⟨_, rfl⟩
      rw [← hcl] at hrow
      have HCL := hid hcl
      have hclb : ∀ j, cl j < 2147483648 := fun j => by
        rw [hcl]
        by_cases h0 : (bk kd vl nn k).cl j = 0
        · omega
        · have := (bk_ok (kd := kd) (vl := vl) (nn := nn) k).pr j h0
          omega
      have HCB := hid hclb
      have g2 := Gr.empty wr wr.heap.size 22 (fun _ => .slice none 0 0) (Nat.le_refl _)
      have H0 : LL (wr.alloc (.cells #[] 22)) wr.heap.size (.slice (some ⟨wr.heap.size, 0, none⟩) 0 0) [] := LL.nil _ _ _ _ g2
      have hs0 : wr.Since wr.heap.size (wr.alloc (.cells #[] 22)) := (World.Since.refl _ _).alloc (Nat.le_refl _) _
      have HL0 := hid H0
      have HS00 := hid hs0
      have HSI := hid hsi
      have HROW := hid hrow
      clear HP hcl hclb g2 H0 hs0 hsi hrow HON HLE HLT HNN HGG HKD HVL hx hg
      go_wp2_with fail
      go_loopg [10, 11, 12, 79] k (fun gg out _ _ i w2 => ∃ m : Nat, m ≤ k ∧ gg = k - m ∧ i = .int .i64 m ∧ Hid (LL w2 wr.heap.size out (pairLists (prs cl m))) ∧ Hid (wr.Since wr.heap.size w2))
      case atStart => exact ⟨0, Nat.zero_le _, rfl, rfl, HL0, HS00⟩
      case round =>
        clear HL0 HS00
        rename World => w2
        obtain ⟨m, hm, rfl, rfl, HL, HS⟩ := hrel
        by_cases hmk : m < k
        · have hmz : (m : Int) < (k : Int) := by omega
          have c6 : w2.cell? ⟨w.heap.size + 1, m, none⟩ = some (.int .i64 ((cl m : Nat) : Int)) := by
            have h1 : w2.heap[w.heap.size + 1]? = wr.heap[w.heap.size + 1]? := HS.out.block _ (by omega)
            exact (HROW.out.of_block h1).cell hmk
          have hb := HCB.out m
          have hps := prs_succ (cl := cl) (k := m)
          obtain ⟨C, hC⟩ : ∃ C, C = cl m := ⟨_, rfl⟩
          rw [← hC] at c6 hb hps
          have hplen : (pairLists (prs cl m)).length ≤ m := by unfold pairLists; rw [List.length_map]; exact prs_len
          by_cases hC0 : C = 0
          · rw [if_pos hC0, List.append_nil] at hps
            have HL1 : Hid (LL w2 wr.heap.size u10 (pairLists (prs cl (m + 1)))) := by rw [hps]; exact HL
            subst hC0
            clear hps hC hb
            go_wp2_with fail
            go_roundg (k - (m + 1))
            case rel => exact ⟨m + 1, by omega, rfl, by go_num, HL1, HS⟩
            case measure => omega
          · rw [if_neg hC0] at hps
            have hCz : (0 : Int) < (C : Int) := by omega
            have HPS : Hid (pairLists (prs cl (m + 1)) = pairLists (prs cl m) ++ [[m, C]]) := by
              rw [hps]; unfold pairLists; rw [List.map_append]; rfl
            obtain ⟨TK, hTK⟩ : ∃ TK, TK = pairLists (prs cl m) := ⟨_, rfl⟩
            rw [← hTK] at HL hplen HPS
            have hgt := Gr.two w2 m C
            have hsB : w2.Since w2.heap.size (w2.alloc (.cells #[.int .i64 ((m : Nat) : Int), .int .i64 ((C : Nat) : Int)] 3)) := (World.Since.refl _ _).alloc (Nat.le_refl _) _
            obtain ⟨f4, hP⟩ := HL.out.beside (r := [m, C]) hsB hgt HS.out.size
            have hob : ∀ q, u10.ownBlock = some q → wr.heap.size ≤ q := fun q hq => by
              obtain ⟨f, h1, _⟩ := HL.out
              exact (h1.ge q hq).1
            have HP := hid hP
            have HOB := hid hob
            have hz3 : wr.heap.size ≤ w2.heap.size := HS.out.size
            have HPL := hid hplen
            clear hps hC hb hgt hsB hP hob hTK hC0
            go_wp2_with (at_builtin; go_must (refine wpList_push (w2.alloc (.cells #[.int .i64 ((m : Nat) : Int), .int .i64 ((C : Nat) : Int)] 3)) rfl _ _ 27 rfl wr.heap.size 22 (.slice none 0 0) 24 Tryd.underlying27 Tryd.infoInts rfl _ _ _ _ (by rfl) HP.out.outer (by rw [World.size_alloc]; rfl) rfl (by have := HPL.out; omega) (by omega) (by rw [World.size_alloc]; omega) ?_))
            intro v' w5 hg5 hgr5 hat5
            have hL5 := (HP.out.pushOuter hg5 hgr5 (by rw [World.size_alloc]; exact hat5)).ll
            have HL5 : Hid (LL w5 wr.heap.size v' (pairLists (prs cl (m + 1)))) := by rw [HPS.out]; exact hL5
            have HS5 : Hid (wr.Since wr.heap.size w5) := ((HS.out.alloc hz3 _).alloc (by rw [World.size_alloc]; omega) _).grown hgr5 (by rw [World.size_alloc, World.size_alloc]; omega) HOB.out
            clear hg5 hgr5 hat5 hL5 c6
            go_wp2_with fail
            go_roundg (k - (m + 1))
            case rel => exact ⟨m + 1, by omega, rfl, by go_num, HL5, HS5⟩
            case measure => omega
        · obtain rfl : m = k := by omega
          obtain ⟨ao6, c6, hu5⟩ := HL.out.form
          subst hu5
          go_wp2_with fail
          go_ret
          have hLL : LL w2 w.heap.size (.slice ao6 (pairLists (prs cl m)).length c6) (pairLists (prs (bk kd vl nn m).cl m)) := by
            rw [← HCL.out]; exact HL.out.base HSI.out.size
          exact ⟨_, rfl, hLL, HSI.out.trans (since_mono HS.out HSI.out.size)⟩
end Go.Proofs.YtmaieenphcnefaaDoor
