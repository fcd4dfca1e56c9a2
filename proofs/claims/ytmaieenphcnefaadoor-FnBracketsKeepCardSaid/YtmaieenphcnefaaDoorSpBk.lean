/- spec.Brackets: N0 by its own words. -/
import Derived.Test.YtmaieenphcnefaaDoorSpBr
import Derived.Test.YtmaieenphcnefaaDoorLawP
import Derived.Deep.DeepCutAuto
namespace Go.Proofs.YtmaieenphcnefaaDoor
open Go.RowKit Go.Lib Go.Sort
set_option linter.unusedVariables false
set_option linter.unusedSimpArgs false

/-- Numbers that are changed in place; nothing else is turned. -/
structure CI (wA : World) (B q cap n : Nat) (F : Nat → Int) (wx : World) : Prop where
  kept : Kp (fun k => k = q) wA wx
  types : Gr wx B 3 (.slice (some ⟨q, 0, none⟩) n cap) n (fun i => .int .i64 (F i))

section
variable {wA wx wy : World} {B q cap n : Nat} {F G : Nat → Int}
theorem CI.congr (h : CI wA B q cap n F wx) (e : ∀ i, i < n → F i = G i) : CI wA B q cap n G wx := ⟨h.kept, h.types.congr (fun i hi => by rw [e i hi])⟩
theorem CI.set (h : CI wA B q cap n F wx) (k : Nat) (v : Int) (e : ∀ i, i < n → (if i = k then v else F i) = G i) : CI wA B q cap n G (wx.setCell ⟨q, k, none⟩ (.int .i64 v)) :=
  ⟨h.kept.setCell (a := ⟨q, k, none⟩) (.inl rfl) _, (h.types.set k (.int .i64 v)).congr (fun i hi => by rw [← e i hi]; split <;> rfl)⟩
theorem CI.drewN (h : CI wA B q cap n F wx) (m : Nat) : CI wA B q cap n F (wx.drewN m) := ⟨h.kept.drewN m, h.types⟩
theorem CI.cell (h : CI wA B q cap n F wx) {k : Nat} (hk : k < n) : wx.cell? ⟨q, k, none⟩ = some (.int .i64 (F k)) := h.types.cell hk
theorem CI.frozen (h : CI wA B q cap n F wx) (k : Nat) : wx.frozen? ⟨q, k, none⟩ = false := h.types.frozen k
end

/-- A place and what stands behind it up to l. -/
def rnB (i l x : Nat) : Bool := decide (x = i ∨ (i < x ∧ x < l))
/-- A place, and the marks behind it. -/
def spT (m : Nat → Bool) (i : Nat) (t : Int) (T : Nat → Int) (x : Nat) : Int := if decide (x = i ∨ (i < x ∧ ∀ k, k < x + 1 → i < k → m k = true)) = true then t else T x

def stT (m : Nat → Bool) (o cl : Nat) (t : Int) (T : Nat → Int) : Nat → Nat → Int
  | 0 => T
  | 1 => spT m o t T
  | _ => spT m cl t (spT m o t T)

theorem rnB_end {m : Nat → Bool} {i l n x : Nat} {t : Int} {T : Nat → Int} (hx : x < n) (hl : i < l) (hm : ∀ k, i < k → k < l → m k = true) (he : l = n ∨ m l = false) : (if rnB i l x = true then t else T x) = spT m i t T x := by
  unfold spT
  have : rnB i l x = decide (x = i ∨ (i < x ∧ ∀ k, k < x + 1 → i < k → m k = true)) := by
    unfold rnB
    rw [Bool.eq_iff_iff, decide_eq_true_iff, decide_eq_true_iff]
    constructor
    · rintro (h | ⟨h1, h2⟩)
      · exact .inl h
      · exact .inr ⟨h1, fun k hk1 hk2 => hm k hk2 (by omega)⟩
    · rintro (h | ⟨h1, h2⟩)
      · exact .inl h
      · refine .inr ⟨h1, ?_⟩
        rcases he with e | e
        · omega
        · apply Classical.byContradiction
          intro hc
          have := h2 l (by omega) hl
          rw [e] at this; cases this
  rw [this]

theorem spT_set {m : Nat → Bool} {o cl x : Nat} {t : Int} {T : Nat → Int} (ho : o < cl) (hm : m cl = false) : spT m cl t (spT m o t T) x = setB m o cl t T x := by
  unfold spT setB mkB
  by_cases h1 : x = cl ∨ (cl < x ∧ ∀ k, k < x + 1 → cl < k → m k = true)
  · rw [if_pos (decide_eq_true h1), if_pos (decide_eq_true (by
      rcases h1 with h | h
      · exact .inr (.inl h)
      · exact .inr (.inr (.inr h))))]
  · rw [if_neg (by rw [decide_eq_true_iff]; exact h1)]
    by_cases h2 : x = o ∨ (o < x ∧ ∀ k, k < x + 1 → o < k → m k = true)
    · have h3 : x < cl := by
        rcases h2 with h | ⟨h, h4⟩
        · omega
        · apply Classical.byContradiction
          intro hc
          by_cases e : x = cl
          · exact h1 (.inl e)
          · have := h4 cl (by omega) ho
            rw [hm] at this; cases this
      rw [if_pos (decide_eq_true h2), if_pos (decide_eq_true (by
        rcases h2 with h | ⟨h, h4⟩
        · exact .inl h
        · exact .inr (.inr (.inl ⟨h, h3, h4⟩))))]
    · rw [if_neg (by rw [decide_eq_true_iff]; exact h2), if_neg (by
        rw [decide_eq_true_iff]
        rintro (h | h | ⟨h, h3, h4⟩ | h)
        · exact h2 (.inl h)
        · exact h1 (.inl h)
        · exact h2 (.inr ⟨h, h4⟩)
        · exact h1 (.inr h))]

theorem rnB_start {i x : Nat} : rnB i (i + 1) x = decide (x = i) := by
  unfold rnB
  rw [Bool.eq_iff_iff, decide_eq_true_iff, decide_eq_true_iff]
  omega
theorem rnB_l {i l x : Nat} (h1 : i < l) (h2 : x ≠ l) : rnB i (l + 1) x = rnB i l x := by
  unfold rnB
  rw [Bool.eq_iff_iff, decide_eq_true_iff, decide_eq_true_iff]
  omega
theorem rnB_ll {i l : Nat} (h1 : i < l) : rnB i (l + 1) l = true := by
  unfold rnB
  rw [decide_eq_true_iff]; omega

theorem LL.pairAt {w : World} {base : Nat} {ao : Option Addr} {c k a b : Nat} {R : List (List Nat)} (h : LL w base (.slice ao R.length c) R) (hk : k < R.length) (hr : R.getD k [] = [a, b]) :
    ∃ qo qi ci, ao = some ⟨qo, 0, none⟩ ∧ base ≤ qo ∧ base ≤ qi ∧ w.cell? ⟨qo, k, none⟩ = some (.slice (some ⟨qi, 0, none⟩) 2 ci) ∧ w.cell? ⟨qi, 0, none⟩ = some (.int .i64 (a : Nat)) ∧ w.cell? ⟨qi, 1, none⟩ = some (.int .i64 (b : Nat)) ∧ 2 ≤ ci := by
  obtain ⟨f, h1, h2, _, _⟩ := h
  obtain ⟨qo, co, hv, hqo⟩ := h1.form (by omega)
  simp only [Value.slice.injEq, true_and] at hv
  obtain ⟨rfl, rfl⟩ := hv
  have h3 := h2 k hk
  rw [hr] at h3
  obtain ⟨qi, ci, hv2, hqi⟩ := h3.form (by simp)
  have h4 := h1.cell hk
  rw [hv2] at h4 h3
  exact ⟨qo, qi, ci, rfl, hqo, hqi, h4, h3.cell (i := 0) (by simp), h3.cell (i := 1) (by simp), h3.capLe⟩

set_option maxHeartbeats 8000000 in
set_option maxRecDepth 100000 in
theorem specBrackets_any {at_ az ag : Option Addr} {bt ot ct bz oz cz bg og cg n : Nat} {x z g kd vl : Nat → Int} {nn : Nat → Bool} {lv s : Int} (w : World) (hn : n ≤ 2147483647) (h0 : 0 < n)
    (hx : Sees w at_ bt ot n ct (fun i => .int .i64 (x i))) (hz : Sees w az bz oz n cz (fun i => .int .i64 (z i))) (hg : Sees w ag bg og n cg (fun i => .int .i64 (g i)))
    (hxo : ∀ i, memB ofNeu (x i) = true) (hnn : ∀ i, i < n → nn i = decide (x i = 10)) (hgg : ∀ i, i < n → g i = sg kd vl i) (hkd : ∀ j, j < n → kd j = 0 ∨ kd j = 1 ∨ kd j = 2) (hvl : ∀ j, j < n → vl j ≤ 1114111 ∧ (kd j ≠ 0 → 1 ≤ vl j)) (hop : ops kd n ≤ 63)
    (hmk : ∀ i, i < n → 0 < kd i → z i ≠ 12) (hs : s = 0 ∨ s = 1) (hl0 : 0 ≤ lv) (hl1 : lv ≤ 125) :
    Calls Tryd.prog 20 #[.slice at_ n ct, .slice az n cz, .slice ag n cg, .int .i64 lv, .int .i64 s] w (RetSees w n (fun i => .int .i64 (n0s gN (fun i => decide (z i = 12)) s (lv % 2) x (prs (bk kd vl nn n).cl n) i))) := by
  have he : lv % 2 = 0 ∨ lv % 2 = 1 := by omega
  have gA := Gr.empty w w.heap.size 3 (fun _ => .int .i64 0) (Nat.le_refl _)
  have hsA : w.Since w.heap.size (w.alloc (.cells #[] 3)) := (World.Since.refl _ _).alloc (Nat.le_refl _) _
  have hxA := hx.since hsA
  obtain ⟨PL, hPL⟩ : ∃ PL, PL = prs (bk kd vl nn n).cl n := ⟨_, rfl⟩
  have HPL := hid hPL
  have hPlen : PL.length ≤ n := by rw [hPL]; exact prs_len
  have hpr : ∀ k, k < PL.length → (PL.getD k (0, 0)).1 < (PL.getD k (0, 0)).2 ∧ (PL.getD k (0, 0)).2 < n ∧ z (PL.getD k (0, 0)).2 ≠ 12 := fun k hk => by
    have h2 : PL.getD k (0, 0) ∈ PL := by rw [List.getD_eq_getElem?_getD, List.getElem?_eq_getElem hk]; exact List.getElem_mem hk
    obtain ⟨y, hy⟩ : ∃ y, y = PL.getD k (0, 0) := ⟨_, rfl⟩
    rw [← hy] at h2 ⊢
    rw [hPL] at h2
    obtain ⟨a, b, c⟩ := prs_mem.1 h2
    have h3 := (bk_ok (kd := kd) (vl := vl) (nn := nn) n).pr _ b
    rw [c]
    refine ⟨h3.1, h3.2.1, hmk _ h3.2.1 ?_⟩
    have := hkd _ h3.2.1
    have := h3.2.2.2.1
    omega
  have HPR := hid hpr
  have HXO := hid hxo
  clear hPL hpr hxo hmk
  go_enter Tryd.func20, Tryd.ntmps20
  go_wp2_with (at_builtin; go_must (refine wpList_cat _ rfl _ _ 22 rfl w.heap.size 3 (.int .i64 0) 8 Tryd.underlying22 Tryd.infoInt rfl _ _ _ rfl gA rfl hxA (fun _ _ => rfl) (by omega) (by omega) (by simp) ?_))
  intro v1 w1 hg1 hgr1 _
  have hs1 : w.Since w.heap.size w1 := hsA.grown hgr1 (by simp) (by simp [Value.ownBlock])
  have hg1' : Gr w1 w.heap.size 3 v1 n (fun i => .int .i64 (x i)) := by first | exact hg1 | (rw [Nat.zero_add] at hg1; exact hg1.congr fun i _ => by simp)
  obtain ⟨q, cap, rfl, hq⟩ := hg1'.form h0
  have hqlt := (hg1'.ge q rfl).2
  have hx1 := hx.since hs1
  have hz1 := hz.since hs1
  have hgb1 := hg.since hs1
  have HG1 := hid hg1'
  have HS1 := hid hs1
  clear gA hsA hxA hg1 hgr1 hg1' hs1 hx hg
  go_wp2_with fail
  refine (direction_any _ hl0 (by omega)).mono ?_
  rintro e w2 ⟨rfl, rfl⟩
  go_wp2_with fail
  refine (specPairs_any _ hn hx1 hgb1 hnn hgg hkd hvl hop).mono ?_
  rintro e w2 ⟨vp, rfl, hl2, hs2⟩
  rw [← HPL.out] at hl2
  have hPLl : (pairLists PL).length = PL.length := by unfold pairLists; rw [List.length_map]
  obtain ⟨R, hR⟩ : ∃ R, R = pairLists PL := ⟨_, rfl⟩
  rw [← hR] at hl2 hPLl
  have HROW := hid (show ∀ k, k < PL.length → R.getD k [] = [(PL.getD k (0, 0)).1, (PL.getD k (0, 0)).2] from fun k hk => by rw [hR]; exact pairLists_getD hk)
  obtain ⟨aop, cp, rfl⟩ := hl2.form
  have HL2 := hid hl2
  have HC0 := hid (show CI w2 w.heap.size q cap n x w2 from ⟨Kp.refl _ _, HG1.out.since hs2⟩)
  have hz2 := hid (hz1.since hs2)
  have hS2 := hid (since2 HS1.out hs2)
  have hzw : w1.heap.size ≤ w2.heap.size := hs2.size
  have hzq : bz ≠ q := by have := hz.lt h0; omega
  have HZ := hid (fun wx (h : Kp (fun k => k = q) w2 wx) => h.sees hz2.out (fun _ => hzq))
  rw [hPLl]
  clear hR hl2 hx1 hz1 hgb1 hs2 HG1 hnn hgg hkd hvl hop hz
  go_wp2_with fail
  go_loopg [14, 15, 16, 17, 19, 20, 30, 63] PL.length (fun gg _ _ _ _ _ _ i _ wr => ∃ k : Nat, k ≤ PL.length ∧ gg = PL.length - k ∧ i = .int .i64 k ∧ Hid (CI w2 w.heap.size q cap n (n0s gN (fun i => decide (z i = 12)) s (lv % 2) x (PL.take k)) wr))
  case atStart => exact ⟨0, Nat.zero_le _, rfl, rfl, HC0⟩
  case round =>
    clear HC0
    obtain ⟨k, hk, rfl, rfl, HC⟩ := hrel
    by_cases hkn : k < PL.length
    · have hkz : (k : Int) < (PL.length : Int) := by omega
      obtain ⟨qo, qi, ci, hao, hqo, hqi, hc, d0, d1, hci⟩ := HL2.out.pairAt (show k < R.length by omega) (HROW.out k hkn)
      subst hao
      obtain ⟨l1, l2, l3⟩ := HPR.out k hkn
      obtain ⟨T, hT⟩ : ∃ T, T = n0s gN (fun i => decide (z i = 12)) s (lv % 2) x (PL.take k) := ⟨_, rfl⟩
      have hTo : ∀ i, memB ofNeu (T i) = true := fun i => by
        rw [hT]
        exact n0s_ok (Q := fun t => memB ofNeu t = true) (by decide) (by decide) hs he _ _ HXO.out i
      obtain ⟨y, hy⟩ : ∃ y, y = PL.getD k (0, 0) := ⟨_, rfl⟩
      rw [← hT] at HC
      rw [← hy] at d0 d1 l1 l2 l3
      have HTN := hid (show n0s gN (fun i => decide (z i = 12)) s (lv % 2) x (PL.take (k + 1)) = n0 gN (fun i => decide (z i = 12)) s (lv % 2) T y by
        rw [List.take_add_one, List.getElem?_eq_getElem hkn, hy, List.getD_eq_getElem?_getD, List.getElem?_eq_getElem hkn]
        unfold n0s
        rw [List.foldl_append, hT]
        rfl)
      obtain ⟨o, ho⟩ : ∃ o, o = y.1 := ⟨_, rfl⟩
      obtain ⟨cl, hcl⟩ : ∃ cl, cl = y.2 := ⟨_, rfl⟩
      have HN0 := hid (show n0 gN (fun i => decide (z i = 12)) s (lv % 2) T y = if hasS (fun i => gN (T i)) o cl (lv % 2) = true then setB (fun i => decide (z i = 12)) o cl (lv % 2) T else if hasS (fun i => gN (T i)) o cl (1 - (lv % 2)) = true then setB (fun i => decide (z i = 12)) o cl (bfr (fun i => gN (T i)) s o) T else T by rw [ho, hcl]; rfl)
      rw [← ho] at d0 l1
      rw [← hcl] at d1 l1 l2 l3
      have HPC := hid (show ∀ wx, Kp (fun k => k = q) w2 wx → wx.cell? ⟨qo, k, none⟩ = some (.slice (some ⟨qi, 0, none⟩) 2 ci) ∧ wx.cell? ⟨qi, 0, none⟩ = some (.int .i64 (o : Nat)) ∧ wx.cell? ⟨qi, 1, none⟩ = some (.int .i64 (cl : Nat)) from fun wx h =>
        ⟨h.cell hc (by show ¬ qo = q; omega), h.cell d0 (by show ¬ qi = q; omega), h.cell d1 (by show ¬ qi = q; omega)⟩)
      have hon : o < n := by omega
      have hoz : (o : Int) < (n : Int) := by omega
      have hclz : (cl : Int) < (n : Int) := by omega
      have HTO := hid hTo
      clear hc d0 d1 hy hT ho hcl hTo
      have HIN := hid (fun m => inside_any (T := T) (way := lv % 2) (wr.drewN m) ((HC.out.drewN m).types.sees0 h0) (fun i _ => HTO.out i) l1 l2 (by omega) he)
      obtain ⟨c0, u0, u1⟩ := HPC.out wr HC.out.kept
      obtain ⟨a, ha⟩ : ∃ a, a = hasS (fun i => gN (T i)) o cl (lv % 2) := ⟨_, rfl⟩
      obtain ⟨d, hd⟩ : ∃ d, d = hasS (fun i => gN (T i)) o cl (1 - (lv % 2)) := ⟨_, rfl⟩
      rw [← ha, ← hd] at HN0
      rw [Hid, ← ha, ← hd] at HIN
      have HINN := hid HIN
      clear HIN ha hd
      go_wp2_with fail
      go_quiet ((go_at_call 30; exact quiet_same rfl (HINN.out _)))
      obtain ⟨wa, hwa⟩ : ∃ wa, wa = wr.drewN nq := ⟨_, rfl⟩
      rw [← hwa]
      have HCA := hid (show CI w2 w.heap.size q cap n T wa by rw [hwa]; exact HC.out.drewN nq)
      clear hwa HC HINN c0 u0 u1
      obtain ⟨c0, u0, u1⟩ := HPC.out wa HCA.out.kept
      have HCX := hid (fun (s' : Int) => context_any (s := s') wa (HCA.out.types.sees0 h0) (fun i _ => HTO.out i) hon (by omega))
      obtain ⟨m, hm⟩ : ∃ m : Nat → Bool, m = fun i => decide (z i = 12) := ⟨_, rfl⟩
      have HMD := hid hm
      have HMC := hid (show m cl = false by rw [hm]; exact decide_eq_false l3)
      clear hm
      cases a with
      | true =>
        obtain ⟨t, ht⟩ : ∃ t, t = lv % 2 := ⟨_, rfl⟩
        have HNT := hid (show n0 gN (fun i => decide (z i = 12)) s (lv % 2) T y = setB (fun i => decide (z i = 12)) o cl t T by rw [HN0.out, if_pos rfl, ht])
        cases d <;> (
          go_wp2_with fail
          rw [← ht]
          have HTEQ := hid ht
          clear ht
          clear c0 u0 u1
          go_loopg [19, 20, 63] 2 (fun gg _ _ i wx => ∃ j : Nat, j ≤ 2 ∧ gg = 2 - j ∧ i = .int .i64 j ∧ Hid (CI w2 w.heap.size q cap n (stT m o cl t T j) wx))
          case atStart => exact ⟨0, by omega, rfl, rfl, HCA⟩
          case round =>
            clear HCA
            rename World => wx
            obtain ⟨j, hj, rfl, rfl, HC2⟩ := hrel
            match j, hj, HC2 with
            | 0, hj, HC2 =>
              obtain ⟨c0, u0, u1⟩ := HPC.out wx HC2.out.kept
              have cx := HC2.out.cell (show o < n by omega)
              have zx := HC2.out.frozen o
              have HC3 := hid (HC2.out.set o t (G := fun x => if rnB o (o + 1) x = true then t else T x) (fun x _ => by
                rw [rnB_start]
                by_cases e : x = o
                · rw [if_pos e, if_pos (decide_eq_true e)]
                · rw [if_neg e, if_neg (by rw [decide_eq_true_iff]; exact e)]
                  rfl))
              clear HC2
              go_wp2_with fail
              clear c0 u0 u1 cx zx
              go_loopg [20] (n - (o + 1)) (fun gg s20 wy => ∃ l : Nat, o < l ∧ l ≤ n ∧ gg = n - l ∧ s20 = .int .i64 l ∧ Hid (∀ k, o < k → k < l → m k = true) ∧ Hid (CI w2 w.heap.size q cap n (fun x => if rnB o l x = true then t else T x) wy))
              case atStart => exact ⟨o + 1, by omega, by omega, rfl, by go_num, fun k h1 h2 => by omega, HC3⟩
              case round =>
                clear HC3
                rename World => wy
                obtain ⟨l, hl1, hl2, rfl, rfl, HM, HC3⟩ := hrel
                have HEND := hid (show (l = n ∨ m l = false) → CI w2 w.heap.size q cap n (stT m o cl t T (0 + 1)) wy from fun he => HC3.out.congr (fun x hx => rnB_end hx hl1 HM.out he))
                by_cases hln : l < n
                · have hlz : (l : Int) < (n : Int) := by omega
                  obtain ⟨rfl, z1⟩ := (HZ.out wy HC3.out.kept).get hln
                  have HML := hid (show m l = decide (z l = 12) by rw [HMD.out])
                  obtain ⟨Z, hZ⟩ : ∃ Z, Z = z l := ⟨_, rfl⟩
                  rw [← hZ] at z1 HML
                  have cx := HC3.out.cell hln
                  have zx := HC3.out.frozen l
                  have HS := hid (HC3.out.set l t (G := fun x => if rnB o (l + 1) x = true then t else T x) (fun x _ => by
                    by_cases e1 : x = l
                    · subst e1; rw [if_pos rfl, if_pos (rnB_ll hl1)]
                    · rw [if_neg e1, rnB_l hl1 e1]))
                  clear hZ
                  by_cases q1 : Z = 12
                  · subst q1
                    have HM' : Hid (∀ k, o < k → k < l + 1 → m k = true) := fun k h1 h2 => by
                      by_cases e1 : k = l
                      · subst e1; rw [HML.out]; rfl
                      · exact HM.out k h1 (by omega)
                    go_wp2_with fail
                    go_roundg (n - (l + 1))
                    case rel => exact ⟨l + 1, by omega, by omega, rfl, by go_num, HM', HS⟩
                    case measure => omega
                  · have q1b : (Z == 12) = false := beq_eq_false_iff_ne.2 q1
                    have HE := hid (HEND.out (.inr (by rw [HML.out]; exact decide_eq_false q1)))
                    go_wp2_with fail
                    go_roundg (2 - (0 + 1))
                    case rel => exact ⟨0 + 1, by omega, rfl, by go_num, HE⟩
                    case measure => omega
                · have hlz : ¬ ((l : Int) < (n : Int)) := by omega
                  have HE := hid (HEND.out (.inl (by omega)))
                  go_wp2_with fail
                  go_roundg (2 - (0 + 1))
                  case rel => exact ⟨0 + 1, by omega, rfl, by go_num, HE⟩
                  case measure => omega
            | 1, hj, HC2 =>
              obtain ⟨c0, u0, u1⟩ := HPC.out wx HC2.out.kept
              have cx := HC2.out.cell (show cl < n by omega)
              have zx := HC2.out.frozen cl
              have HC3 := hid (HC2.out.set cl t (G := fun x => if rnB cl (cl + 1) x = true then t else (spT m o t T) x) (fun x _ => by
                rw [rnB_start]
                by_cases e : x = cl
                · rw [if_pos e, if_pos (decide_eq_true e)]
                · rw [if_neg e, if_neg (by rw [decide_eq_true_iff]; exact e)]
                  rfl))
              clear HC2
              go_wp2_with fail
              clear c0 u0 u1 cx zx
              go_loopg [20] (n - (cl + 1)) (fun gg s20 wy => ∃ l : Nat, cl < l ∧ l ≤ n ∧ gg = n - l ∧ s20 = .int .i64 l ∧ Hid (∀ k, cl < k → k < l → m k = true) ∧ Hid (CI w2 w.heap.size q cap n (fun x => if rnB cl l x = true then t else (spT m o t T) x) wy))
              case atStart => exact ⟨cl + 1, by omega, by omega, rfl, by go_num, fun k h1 h2 => by omega, HC3⟩
              case round =>
                clear HC3
                rename World => wy
                obtain ⟨l, hl1, hl2, rfl, rfl, HM, HC3⟩ := hrel
                have HEND := hid (show (l = n ∨ m l = false) → CI w2 w.heap.size q cap n (stT m o cl t T (1 + 1)) wy from fun he => HC3.out.congr (fun x hx => rnB_end hx hl1 HM.out he))
                by_cases hln : l < n
                · have hlz : (l : Int) < (n : Int) := by omega
                  obtain ⟨rfl, z1⟩ := (HZ.out wy HC3.out.kept).get hln
                  have HML := hid (show m l = decide (z l = 12) by rw [HMD.out])
                  obtain ⟨Z, hZ⟩ : ∃ Z, Z = z l := ⟨_, rfl⟩
                  rw [← hZ] at z1 HML
                  have cx := HC3.out.cell hln
                  have zx := HC3.out.frozen l
                  have HS := hid (HC3.out.set l t (G := fun x => if rnB cl (l + 1) x = true then t else (spT m o t T) x) (fun x _ => by
                    by_cases e1 : x = l
                    · subst e1; rw [if_pos rfl, if_pos (rnB_ll hl1)]
                    · rw [if_neg e1, rnB_l hl1 e1]))
                  clear hZ
                  by_cases q1 : Z = 12
                  · subst q1
                    have HM' : Hid (∀ k, cl < k → k < l + 1 → m k = true) := fun k h1 h2 => by
                      by_cases e1 : k = l
                      · subst e1; rw [HML.out]; rfl
                      · exact HM.out k h1 (by omega)
                    go_wp2_with fail
                    go_roundg (n - (l + 1))
                    case rel => exact ⟨l + 1, by omega, by omega, rfl, by go_num, HM', HS⟩
                    case measure => omega
                  · have q1b : (Z == 12) = false := beq_eq_false_iff_ne.2 q1
                    have HE := hid (HEND.out (.inr (by rw [HML.out]; exact decide_eq_false q1)))
                    go_wp2_with fail
                    go_roundg (2 - (1 + 1))
                    case rel => exact ⟨1 + 1, by omega, rfl, by go_num, HE⟩
                    case measure => omega
                · have hlz : ¬ ((l : Int) < (n : Int)) := by omega
                  have HE := hid (HEND.out (.inl (by omega)))
                  go_wp2_with fail
                  go_roundg (2 - (1 + 1))
                  case rel => exact ⟨1 + 1, by omega, rfl, by go_num, HE⟩
                  case measure => omega
            | 2, hj, HC2 =>
              have HF : Hid (CI w2 w.heap.size q cap n (n0s gN (fun i => decide (z i = 12)) s (lv % 2) x (PL.take (k + 1))) wx) := by
                rw [HTN.out, HNT.out]
                exact HC2.out.congr (fun x hx => by
                  show spT m cl t (spT m o t T) x = _
                  rw [spT_set l1 HMC.out, HMD.out])
              go_wp2_with fail
              (try rw [HTEQ.out])
              go_roundg (PL.length - (k + 1))
              case rel => exact ⟨k + 1, by omega, rfl, by go_num, HF⟩
              case measure => omega)
      | false =>
        cases d with
        | false =>
          have HF : Hid (CI w2 w.heap.size q cap n (n0s gN (fun i => decide (z i = 12)) s (lv % 2) x (PL.take (k + 1))) wa) := by
            have e : n0 gN (fun i => decide (z i = 12)) s (lv % 2) T y = T := by rw [HN0.out, if_neg (by decide), if_neg (by decide)]
            rw [HTN.out, e]; exact HCA
          go_wp2_with fail
          (try rw [HTEQ.out])
          go_roundg (PL.length - (k + 1))
          case rel => exact ⟨k + 1, by omega, rfl, by go_num, HF⟩
          case measure => omega
        | true =>
          have HNT := hid (show n0 gN (fun i => decide (z i = 12)) s (lv % 2) T y = setB (fun i => decide (z i = 12)) o cl (bfr (fun i => gN (T i)) s o) T by rw [HN0.out, if_neg (by decide), if_pos rfl])
          go_wp2_with fail
          refine (HCX.out s).mono ?_
          rintro en w5 ⟨rfl, rfl⟩
          obtain ⟨t, ht⟩ : ∃ t, t = bfr (fun i => gN (T i)) s o := ⟨_, rfl⟩
          rw [← ht] at HNT ⊢
          clear ht
          go_wp2_with fail
          clear c0 u0 u1
          go_loopg [19, 20, 63] 2 (fun gg _ _ i wx => ∃ j : Nat, j ≤ 2 ∧ gg = 2 - j ∧ i = .int .i64 j ∧ Hid (CI w2 w.heap.size q cap n (stT m o cl t T j) wx))
          case atStart => exact ⟨0, by omega, rfl, rfl, HCA⟩
          case round =>
            clear HCA
            rename World => wx
            obtain ⟨j, hj, rfl, rfl, HC2⟩ := hrel
            match j, hj, HC2 with
            | 0, hj, HC2 =>
              obtain ⟨c0, u0, u1⟩ := HPC.out wx HC2.out.kept
              have cx := HC2.out.cell (show o < n by omega)
              have zx := HC2.out.frozen o
              have HC3 := hid (HC2.out.set o t (G := fun x => if rnB o (o + 1) x = true then t else T x) (fun x _ => by
                rw [rnB_start]
                by_cases e : x = o
                · rw [if_pos e, if_pos (decide_eq_true e)]
                · rw [if_neg e, if_neg (by rw [decide_eq_true_iff]; exact e)]
                  rfl))
              clear HC2
              go_wp2_with fail
              clear c0 u0 u1 cx zx
              go_loopg [20] (n - (o + 1)) (fun gg s20 wy => ∃ l : Nat, o < l ∧ l ≤ n ∧ gg = n - l ∧ s20 = .int .i64 l ∧ Hid (∀ k, o < k → k < l → m k = true) ∧ Hid (CI w2 w.heap.size q cap n (fun x => if rnB o l x = true then t else T x) wy))
              case atStart => exact ⟨o + 1, by omega, by omega, rfl, by go_num, fun k h1 h2 => by omega, HC3⟩
              case round =>
                clear HC3
                rename World => wy
                obtain ⟨l, hl1, hl2, rfl, rfl, HM, HC3⟩ := hrel
                have HEND := hid (show (l = n ∨ m l = false) → CI w2 w.heap.size q cap n (stT m o cl t T (0 + 1)) wy from fun he => HC3.out.congr (fun x hx => rnB_end hx hl1 HM.out he))
                by_cases hln : l < n
                · have hlz : (l : Int) < (n : Int) := by omega
                  obtain ⟨rfl, z1⟩ := (HZ.out wy HC3.out.kept).get hln
                  have HML := hid (show m l = decide (z l = 12) by rw [HMD.out])
                  obtain ⟨Z, hZ⟩ : ∃ Z, Z = z l := ⟨_, rfl⟩
                  rw [← hZ] at z1 HML
                  have cx := HC3.out.cell hln
                  have zx := HC3.out.frozen l
                  have HS := hid (HC3.out.set l t (G := fun x => if rnB o (l + 1) x = true then t else T x) (fun x _ => by
                    by_cases e1 : x = l
                    · subst e1; rw [if_pos rfl, if_pos (rnB_ll hl1)]
                    · rw [if_neg e1, rnB_l hl1 e1]))
                  clear hZ
                  by_cases q1 : Z = 12
                  · subst q1
                    have HM' : Hid (∀ k, o < k → k < l + 1 → m k = true) := fun k h1 h2 => by
                      by_cases e1 : k = l
                      · subst e1; rw [HML.out]; rfl
                      · exact HM.out k h1 (by omega)
                    go_wp2_with fail
                    go_roundg (n - (l + 1))
                    case rel => exact ⟨l + 1, by omega, by omega, rfl, by go_num, HM', HS⟩
                    case measure => omega
                  · have q1b : (Z == 12) = false := beq_eq_false_iff_ne.2 q1
                    have HE := hid (HEND.out (.inr (by rw [HML.out]; exact decide_eq_false q1)))
                    go_wp2_with fail
                    go_roundg (2 - (0 + 1))
                    case rel => exact ⟨0 + 1, by omega, rfl, by go_num, HE⟩
                    case measure => omega
                · have hlz : ¬ ((l : Int) < (n : Int)) := by omega
                  have HE := hid (HEND.out (.inl (by omega)))
                  go_wp2_with fail
                  go_roundg (2 - (0 + 1))
                  case rel => exact ⟨0 + 1, by omega, rfl, by go_num, HE⟩
                  case measure => omega
            | 1, hj, HC2 =>
              obtain ⟨c0, u0, u1⟩ := HPC.out wx HC2.out.kept
              have cx := HC2.out.cell (show cl < n by omega)
              have zx := HC2.out.frozen cl
              have HC3 := hid (HC2.out.set cl t (G := fun x => if rnB cl (cl + 1) x = true then t else (spT m o t T) x) (fun x _ => by
                rw [rnB_start]
                by_cases e : x = cl
                · rw [if_pos e, if_pos (decide_eq_true e)]
                · rw [if_neg e, if_neg (by rw [decide_eq_true_iff]; exact e)]
                  rfl))
              clear HC2
              go_wp2_with fail
              clear c0 u0 u1 cx zx
              go_loopg [20] (n - (cl + 1)) (fun gg s20 wy => ∃ l : Nat, cl < l ∧ l ≤ n ∧ gg = n - l ∧ s20 = .int .i64 l ∧ Hid (∀ k, cl < k → k < l → m k = true) ∧ Hid (CI w2 w.heap.size q cap n (fun x => if rnB cl l x = true then t else (spT m o t T) x) wy))
              case atStart => exact ⟨cl + 1, by omega, by omega, rfl, by go_num, fun k h1 h2 => by omega, HC3⟩
              case round =>
                clear HC3
                rename World => wy
                obtain ⟨l, hl1, hl2, rfl, rfl, HM, HC3⟩ := hrel
                have HEND := hid (show (l = n ∨ m l = false) → CI w2 w.heap.size q cap n (stT m o cl t T (1 + 1)) wy from fun he => HC3.out.congr (fun x hx => rnB_end hx hl1 HM.out he))
                by_cases hln : l < n
                · have hlz : (l : Int) < (n : Int) := by omega
                  obtain ⟨rfl, z1⟩ := (HZ.out wy HC3.out.kept).get hln
                  have HML := hid (show m l = decide (z l = 12) by rw [HMD.out])
                  obtain ⟨Z, hZ⟩ : ∃ Z, Z = z l := ⟨_, rfl⟩
                  rw [← hZ] at z1 HML
                  have cx := HC3.out.cell hln
                  have zx := HC3.out.frozen l
                  have HS := hid (HC3.out.set l t (G := fun x => if rnB cl (l + 1) x = true then t else (spT m o t T) x) (fun x _ => by
                    by_cases e1 : x = l
                    · subst e1; rw [if_pos rfl, if_pos (rnB_ll hl1)]
                    · rw [if_neg e1, rnB_l hl1 e1]))
                  clear hZ
                  by_cases q1 : Z = 12
                  · subst q1
                    have HM' : Hid (∀ k, cl < k → k < l + 1 → m k = true) := fun k h1 h2 => by
                      by_cases e1 : k = l
                      · subst e1; rw [HML.out]; rfl
                      · exact HM.out k h1 (by omega)
                    go_wp2_with fail
                    go_roundg (n - (l + 1))
                    case rel => exact ⟨l + 1, by omega, by omega, rfl, by go_num, HM', HS⟩
                    case measure => omega
                  · have q1b : (Z == 12) = false := beq_eq_false_iff_ne.2 q1
                    have HE := hid (HEND.out (.inr (by rw [HML.out]; exact decide_eq_false q1)))
                    go_wp2_with fail
                    go_roundg (2 - (1 + 1))
                    case rel => exact ⟨1 + 1, by omega, rfl, by go_num, HE⟩
                    case measure => omega
                · have hlz : ¬ ((l : Int) < (n : Int)) := by omega
                  have HE := hid (HEND.out (.inl (by omega)))
                  go_wp2_with fail
                  go_roundg (2 - (1 + 1))
                  case rel => exact ⟨1 + 1, by omega, rfl, by go_num, HE⟩
                  case measure => omega
            | 2, hj, HC2 =>
              have HF : Hid (CI w2 w.heap.size q cap n (n0s gN (fun i => decide (z i = 12)) s (lv % 2) x (PL.take (k + 1))) wx) := by
                rw [HTN.out, HNT.out]
                exact HC2.out.congr (fun x hx => by
                  show spT m cl t (spT m o t T) x = _
                  rw [spT_set l1 HMC.out, HMD.out])
              go_wp2_with fail
              (try rw [HTEQ.out])
              go_roundg (PL.length - (k + 1))
              case rel => exact ⟨k + 1, by omega, rfl, by go_num, HF⟩
              case measure => omega
    · obtain rfl : k = PL.length := by omega
      have HF : Hid (CI w2 w.heap.size q cap n (n0s gN (fun i => decide (z i = 12)) s (lv % 2) x (prs (bk kd vl nn n).cl n)) wr) := by
        have := HC.out
        rw [List.take_length, HPL.out] at this
        exact this
      go_wp2_with fail
      go_ret
      exact ⟨_, _, _, _, rfl, HF.out.types.sees0 h0, by omega, since_kp hS2.out HF.out.kept hS2.out.size (fun j hj => by rw [hj]; exact hq)⟩
end Go.Proofs.YtmaieenphcnefaaDoor
