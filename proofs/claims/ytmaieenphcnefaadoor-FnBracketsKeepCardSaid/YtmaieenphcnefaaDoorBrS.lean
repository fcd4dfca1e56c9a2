/- (*bracketPairer).setBracketsToType. -/
import Derived.Test.YtmaieenphcnefaaDoorBrI
import Derived.StillTailTactics
import Derived.Deep.DeepCutAuto
import Derived.Deep.CutBlock
namespace Go.Proofs.YtmaieenphcnefaaDoor
open Go.RowKit Go.Lib Go.Sort
set_option linter.unusedVariables false
set_option linter.unusedSimpArgs false

/-- Classes that are changed in place; nothing else is turned. -/
structure CS (wA : World) (B q cap n : Nat) (F : Nat → Int) (wx : World) : Prop where
  kept : Kp (fun k => k = q) wA wx
  types : Gr wx B 56 (.slice (some ⟨q, 0, none⟩) n cap) n (fun i => .int .u64 (F i))

section
variable {wA wx wy : World} {B q cap n : Nat} {F G : Nat → Int}
theorem CS.congr (h : CS wA B q cap n F wx) (e : ∀ i, i < n → F i = G i) : CS wA B q cap n G wx := ⟨h.kept, h.types.congr (fun i hi => by rw [e i hi])⟩
theorem CS.since (h : CS wA B q cap n F wx) (s : wx.Since wx.heap.size wy) : CS wA B q cap n F wy := ⟨h.kept.call s, h.types.since s⟩
theorem CS.set (h : CS wA B q cap n F wx) (k : Nat) (v : Int) (e : ∀ i, i < n → (if i = k then v else F i) = G i) : CS wA B q cap n G (wx.setCell ⟨q, k, none⟩ (.int .u64 v)) :=
  ⟨h.kept.setCell (a := ⟨q, k, none⟩) (.inl rfl) _, (h.types.set k (.int .u64 v)).congr (fun i hi => by rw [← e i hi]; split <;> rfl)⟩
theorem CS.drewN (h : CS wA B q cap n F wx) (m : Nat) : CS wA B q cap n F (wx.drewN m) := ⟨h.kept.drewN m, h.types⟩
theorem CS.drew (h : CS wA B q cap n F wx) : CS wA B q cap n F wx.drew := ⟨h.kept.drew, h.types⟩
theorem CS.cell (h : CS wA B q cap n F wx) {k : Nat} (hk : k < n) : wx.cell? ⟨q, k, none⟩ = some (.int .u64 (F k)) := h.types.cell hk
theorem CS.frozen (h : CS wA B q cap n F wx) (k : Nat) : wx.frozen? ⟨q, k, none⟩ = false := h.types.frozen k
end

set_option maxHeartbeats 4000000 in
set_option maxRecDepth 100000 in
theorem setB_any {p q B cap n N bi oi ci b0 o0 c0 o cl : Nat} {ai a0 : Option Addr} {f : Nat → Value} {xi : Nat → Nat} {z F : Nat → Int} {v : Int} (w : World)
    (hr : w.rowIs p 64 5 f) (hf3 : f 3 = .slice (some ⟨q, 0, none⟩) n cap) (hf4 : f 4 = .slice ai n ci)
    (hG : Gr w B 56 (.slice (some ⟨q, 0, none⟩) n cap) n (fun i => .int .u64 (F i)))
    (hx : Sees w ai bi oi n ci (fun i => .int .i64 ((xi i : Nat) : Int))) (hxq : bi ≠ q) (hz : Sees w a0 b0 o0 N c0 (fun j => .int .u64 (z j))) (hzq : b0 ≠ q) (hpq : p ≠ q)
    (hxi : ∀ i, i < n → xi i < N) (hn : n ≤ 4294967296) (hN : N ≤ 4294967296) (ho : o < cl) (hcl : cl < n) :
    Calls Tryd.prog 74 #[ptr p, .agg #[.int .i64 o, .int .i64 cl], .int .u64 v, .slice a0 N c0] w fun e w' => e = .returned (.tuple #[]) ∧ CS w B q cap n (setB (fun i => decide (z (xi i) = 12)) o cl v F) w' := by
  have hqs : q < w.heap.size := (hG.ge q rfl).2
  have hs0 : w.Since w.heap.size (w.alloc (.cells #[.int .i64 o, .int .i64 cl] 69)) := (World.Since.refl _ _).alloc (Nat.le_refl _) _
  have hrow := World.rowIs_alloc w #[Value.int .i64 (o : Nat), .int .i64 (cl : Nat)] 69 (fun i => (#[Value.int .i64 (o : Nat), .int .i64 (cl : Nat)][i]?).getD undef) (fun i hi => by rw [Array.getElem?_eq_getElem hi]; rfl)
  obtain ⟨S0, hS0⟩ : ∃ S0, S0 = w.heap.size := ⟨_, rfl⟩
  have HS0 := hid hS0
  obtain ⟨wA, hwA⟩ : ∃ wA, wA = w.alloc (.cells #[.int .i64 (o : Nat), .int .i64 (cl : Nat)] 69) := ⟨_, rfl⟩
  have HWA := hid hwA
  rw [← hwA] at hs0 hrow
  rw [← hS0] at hrow hqs
  have C0 : CS wA B q cap n F wA := ⟨Kp.refl _ _, hG.since hs0⟩
  have hrA : wA.rowIs p 64 5 f := hr.of_block (hs0.block _ hr.lt)
  have hxA := hx.since hs0
  have hzA := hz.since hs0
  have hSq : S0 ≠ q := by omega
  have HF := hid (show ∀ wx, Kp (fun k => k = q) wA wx → wx.cell? ⟨p, 3, none⟩ = some (.slice (some ⟨q, 0, none⟩) n cap) ∧ wx.cell? ⟨p, 4, none⟩ = some (.slice ai n ci) ∧ wx.cell? ⟨S0, 0, none⟩ = some (.int .i64 (o : Nat)) ∧ wx.cell? ⟨S0, 1, none⟩ = some (.int .i64 (cl : Nat)) from fun wx h => by
    have h1 := h.row hrA hpq
    have h2 := h.row hrow hSq
    exact ⟨by rw [← hf3]; exact h1.cell (by omega), by rw [← hf4]; exact h1.cell (by omega), h2.cell (show 0 < 2 by omega), h2.cell (show 1 < 2 by omega)⟩)
  have HX := hid (fun wx (h : Kp (fun k => k = q) wA wx) => h.sees hxA (fun _ => hxq))
  have HZ := hid (fun wx (h : Kp (fun k => k = q) wA wx) => h.sees hzA (fun _ => hzq))
  have HKW := hid (show Kp (fun k => k = q) w wA from Kp.since hs0 _)
  have HXI := hid hxi
  have hoz : (o : Int) < (n : Int) := by omega
  have hcz : (cl : Int) < (n : Int) := by omega
  have hon : o < n := by omega
  clear hr hf3 hf4 hG hx hz hs0 hrow hrA hxA hzA hS0 hwA hxq hzq hxi
  go_enter Tryd.func74, Tryd.ntmps74
  go_upto_region 1 with fail
  rw [← HS0.out, ← HWA.out]
  obtain ⟨f3, f4, s0, s1⟩ := HF.out wA C0.kept
  go_still_tail 8, (by kernel_rfl)
  change wpList _ _ _ _ _ wA.drew
  have C1 : CS wA B q cap n F wA.drew := C0.drew
  generalize wA.drew = w1 at C1 ⊢
  clear C0 f3 f4 s0 s1
  have cx := C1.cell hon
  have zx := C1.frozen o
  have C2 := C1.set o v (fun i _ => rfl)
  clear C1
  go_wp2_with fail
  generalize w1.setCell ⟨q, o, none⟩ (.int .u64 v) = w2 at C2 ⊢
  clear cx zx
  go_upto_region 2 with fail
  obtain ⟨f3, f4, s0, s1⟩ := HF.out w2 C2.kept
  go_still_tail 8, (by kernel_rfl)
  change wpList _ _ _ _ _ w2.drew
  have C3 := C2.drew
  generalize w2.drew = w3 at C3 ⊢
  clear C2 f3 f4 s0 s1
  have cx := C3.cell hcl
  have zx := C3.frozen cl
  have C4 := C3.set cl v (G := fun i => if prB o cl (o + 1) (cl + 1) i = true then v else F i) (fun i _ => by
    rw [prB_start]
    by_cases e1 : i = cl
    · rw [if_pos e1, if_pos (decide_eq_true (.inr e1))]
    · rw [if_neg e1]
      by_cases e2 : i = o
      · rw [if_pos e2, if_pos (decide_eq_true (.inl e2))]
      · rw [if_neg e2, if_neg (by rw [decide_eq_true_iff]; omega)])
  clear C3
  go_upto_region 3 with fail
  generalize w3.setCell ⟨q, cl, none⟩ (.int .u64 v) = w4 at C4 ⊢
  clear cx zx
  obtain ⟨f3, f4, s0, s1⟩ := HF.out w4 C4.kept
  obtain ⟨m, hm⟩ : ∃ m : Nat → Bool, m = fun i => decide (z (xi i) = 12) := ⟨_, rfl⟩
  have HMD := hid hm
  have HC4 := hid C4
  clear hm C4
  go_upto_block 0 with fail
  go_cut [] (fun wx => ∃ k : Nat, o < k ∧ k ≤ cl ∧ Hid (k = cl ∨ m k = false) ∧ Hid (∀ i, o < i → i < k → m i = true) ∧ Hid (CS wA B q cap n (fun i => if prB o cl k (cl + 1) i = true then v else F i) wx))
  case first =>
    clear f3 f4 s0 s1
    go_wp2_with fail
    go_loopg [8, 9] (cl - (o + 1)) (fun gg i _ wx => ∃ k : Nat, o < k ∧ k ≤ cl ∧ gg = cl - k ∧ i = .int .i64 k ∧ Hid (∀ i, o < i → i < k → m i = true) ∧ Hid (CS wA B q cap n (fun i => if prB o cl k (cl + 1) i = true then v else F i) wx))
    case atStart => exact ⟨o + 1, by omega, by omega, rfl, by go_num, fun i h1 h2 => by omega, HC4⟩
    case round =>
      clear HC4
      rename World => wx
      obtain ⟨k, hk1, hk2, rfl, rfl, HM, HC⟩ := hrel
      obtain ⟨f3, f4, s0, s1⟩ := HF.out wx HC.out.kept
      by_cases hkc : k < cl
      · have hkz : (k : Int) < (cl : Int) := by omega
        have hkn : k < n := by omega
        have hknz : (k : Int) < (n : Int) := by omega
        obtain ⟨rfl, x1⟩ := (HX.out wx HC.out.kept).get hkn
        have hxk := HXI.out k hkn
        obtain ⟨rfl, z1⟩ := (HZ.out wx HC.out.kept).get hxk
        have HMK := hid (show m k = decide (z (xi k) = 12) by rw [HMD.out])
        obtain ⟨y, hy⟩ : ∃ y, y = xi k := ⟨_, rfl⟩
        obtain ⟨Z, hZ⟩ : ∃ Z, Z = z (xi k) := ⟨_, rfl⟩
        rw [← hZ] at z1 HMK
        rw [← hy] at x1 hxk z1
        have hyz : (y : Int) < (N : Int) := by omega
        have cx := HC.out.cell hkn
        have zx := HC.out.frozen k
        have HS := hid (HC.out.set k v (G := fun i => if prB o cl (k + 1) (cl + 1) i = true then v else F i) (fun i _ => by
          by_cases e1 : i = k
          · subst e1; rw [if_pos rfl, if_pos (prB_kk hk1)]
          · rw [if_neg e1, prB_k hk1 e1]))
        clear hy hZ
        by_cases q1 : Z = 12
        · subst q1
          have HM' : Hid (∀ i, o < i → i < k + 1 → m i = true) := fun i h1 h2 => by
            by_cases e1 : i = k
            · subst e1; rw [HMK.out]; rfl
            · exact HM.out i h1 (by omega)
          go_wp2_with fail
          go_roundg (cl - (k + 1))
          case rel => exact ⟨k + 1, by omega, by omega, rfl, by go_num, HM', HS⟩
          case measure => omega
        · have q1b : (Z != 12) = true := bne_iff_ne.2 q1
          have HE := hid (show m k = false by rw [HMK.out]; exact decide_eq_false q1)
          go_wp2_with fail
          go_meet
          exact ⟨k, hk1, hk2, .inr HE.out, HM, HC⟩
      · obtain rfl : k = cl := by omega
        go_wp2_with fail
        go_meet
        exact ⟨k, hk1, hk2, .inl rfl, HM, HC⟩
  clear f3 f4 s0 s1 HC4
  obtain ⟨k, hk1, hk2, HE1, HM1, HC⟩ := hcut
  obtain ⟨f3, f4, s0, s1⟩ := HF.out wc HC.out.kept
  go_wp2_with fail
  go_loopg [10, 11] (n - (cl + 1)) (fun gg i _ wx => ∃ l : Nat, cl < l ∧ l ≤ n ∧ gg = n - l ∧ i = .int .i64 l ∧ Hid (∀ i, cl < i → i < l → m i = true) ∧ Hid (CS wA B q cap n (fun i => if prB o cl k l i = true then v else F i) wx))
  case atStart => exact ⟨cl + 1, by omega, by omega, rfl, by go_num, fun i h1 h2 => by omega, HC⟩
  case round =>
    clear HC f3 f4 s0 s1
    rename World => wx
    obtain ⟨l, hl1, hl2, rfl, rfl, HM, HC⟩ := hrel
    obtain ⟨f3, f4, s0, s1⟩ := HF.out wx HC.out.kept
    have HEND := hid (show (l = n ∨ m l = false) → CS w B q cap n (setB (fun i => decide (z (xi i) = 12)) o cl v F) wx from fun he => by
      have h1 : CS wA B q cap n (setB m o cl v F) wx := HC.out.congr (fun i hi => by
        show (if prB o cl k l i = true then v else F i) = if mkB m o cl i = true then v else F i
        rw [prB_mk hi hk1 hk2 HM1.out HE1.out hl1 HM.out he])
      rw [HMD.out] at h1
      exact ⟨HKW.out.trans (h1.kept.mono fun _ _ h => h) , h1.types⟩)
    by_cases hln : l < n
    · have hlz : (l : Int) < (n : Int) := by omega
      obtain ⟨rfl, x1⟩ := (HX.out wx HC.out.kept).get hln
      have hxk := HXI.out l hln
      obtain ⟨rfl, z1⟩ := (HZ.out wx HC.out.kept).get hxk
      have HMK := hid (show m l = decide (z (xi l) = 12) by rw [HMD.out])
      obtain ⟨y, hy⟩ : ∃ y, y = xi l := ⟨_, rfl⟩
      obtain ⟨Z, hZ⟩ : ∃ Z, Z = z (xi l) := ⟨_, rfl⟩
      rw [← hZ] at z1 HMK
      rw [← hy] at x1 hxk z1
      have hyz : (y : Int) < (N : Int) := by omega
      have cx := HC.out.cell hln
      have zx := HC.out.frozen l
      have HS := hid (HC.out.set l v (G := fun i => if prB o cl k (l + 1) i = true then v else F i) (fun i _ => by
        by_cases e1 : i = l
        · subst e1; rw [if_pos rfl, if_pos (prB_ll hl1)]
        · rw [if_neg e1, prB_l hl1 e1]))
      clear hy hZ
      by_cases q1 : Z = 12
      · subst q1
        have HM' : Hid (∀ i, cl < i → i < l + 1 → m i = true) := fun i h1 h2 => by
          by_cases e1 : i = l
          · subst e1; rw [HMK.out]; rfl
          · exact HM.out i h1 (by omega)
        go_wp2_with fail
        go_roundg (n - (l + 1))
        case rel => exact ⟨l + 1, by omega, by omega, rfl, by go_num, HM', HS⟩
        case measure => omega
      · have q1b : (Z != 12) = true := bne_iff_ne.2 q1
        have HE := hid (show m l = false by rw [HMK.out]; exact decide_eq_false q1)
        go_wp2_with fail
        go_end0
        exact ⟨rfl, HEND.out (.inr HE.out)⟩
    · obtain rfl : l = n := by omega
      have hnil : Hid (CS w B q cap l (setB (fun i => decide (z (xi i) = 12)) o cl v F) wx) := HEND.out (.inl rfl)
      go_wp2_with fail
      go_end0
      exact ⟨rfl, hnil.out⟩
end Go.Proofs.YtmaieenphcnefaaDoor
