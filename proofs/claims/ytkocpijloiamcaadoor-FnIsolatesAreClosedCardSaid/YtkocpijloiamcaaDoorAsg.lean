/- (*paragraph).assignLevelsToCharactersRemovedByX9. -/
import Derived.Test.YtkocpijloiamcaaDoorApl
import Derived.Test.YtkocpijloiamcaaDoorGC
import Derived.Test.YtkocpijloiamcaaDoorGB
import Derived.Deep.LoopGhost
import Derived.Deep.DeepCutAuto
namespace Go.Proofs.YtkocpijloiamcaaDoor
open Go.RowKit
set_option linter.unusedVariables false
set_option linter.unusedSimpArgs false

theorem cls_rem {v : Int} (h : clsOk v) : memB [18, 19, 16, 17, 20, 11] (cls v) = remN v := by
  unfold clsOk at h
  obtain ⟨k, rfl⟩ := Int.eq_ofNat_of_zero_le h.1
  have hk : k < 23 := by omega
  have key : ∀ j : Fin 23, memB [18, 19, 16, 17, 20, 11] (cls (j.val : Int)) = remN (j.val : Int) := by decide
  exact key ⟨k, hk⟩

/-- What stands for the levels of characters that X9 removes. -/
def fillL (x : Nat → Int) (fl : Nat → Int) (base : Int) : Nat → Int
  | 0 => if remN (x 0) = true then base else fl 0
  | i + 1 => if remN (x (i + 1)) = true then fillL x fl base i else fl (i + 1)

/-- The first k of the characters that X9 removes get a value. -/
def rmK (x : Nat → Int) (v : Nat → Int) (f : Nat → Int) (k i : Nat) : Int := if i < k ∧ remN (x i) = true then v i else f i

theorem rmK_step {x v f : Nat → Int} {k : Nat} (h : remN (x k) = true) (i : Nat) : rmK x v f (k + 1) i = if i = k then v k else rmK x v f k i := by
  unfold rmK
  by_cases e : i = k
  · subst e; rw [if_pos ⟨by omega, h⟩, if_pos rfl]
  · rw [if_neg e]
    by_cases q : i < k ∧ remN (x i) = true
    · rw [if_pos q, if_pos ⟨by omega, q.2⟩]
    · rw [if_neg q, if_neg (fun r => q ⟨by omega, r.2⟩)]
theorem rmK_same {x v f : Nat → Int} {k : Nat} (h : remN (x k) = false) (i : Nat) : rmK x v f (k + 1) i = rmK x v f k i := by
  unfold rmK
  by_cases e : i = k
  · subst e; rw [if_neg (by rw [h]; simp), if_neg (by rw [h]; simp)]
  · by_cases q : i < k ∧ remN (x i) = true
    · rw [if_pos q, if_pos ⟨by omega, q.2⟩]
    · rw [if_neg q, if_neg (fun r => q ⟨by omega, r.2⟩)]
theorem rmK_zero {x v f : Nat → Int} {i : Nat} : rmK x v f 0 i = f i := if_neg (fun h => absurd h.1 (Nat.not_lt_zero _))

/-- The levels filled up to k. -/
def flK (x fl : Nat → Int) (base : Int) (N k i : Nat) : Int := if i < k then fillL x fl base i else rmK x (fun _ => -1) fl N i
theorem flK_step {x fl : Nat → Int} {base : Int} {N k : Nat} (v : Int) (h : fillL x fl base k = v) (i : Nat) : flK x fl base N (k + 1) i = if i = k then v else flK x fl base N k i := by
  unfold flK
  by_cases e : i = k
  · subst e; rw [if_pos (by omega), if_pos rfl, h]
  · rw [if_neg e]
    by_cases q : i < k
    · rw [if_pos q, if_pos (by omega)]
    · rw [if_neg q, if_neg (by omega)]
theorem flK_same {x fl : Nat → Int} {base : Int} {N k : Nat} (h : fillL x fl base k = rmK x (fun _ => -1) fl N k) (i : Nat) : flK x fl base N (k + 1) i = flK x fl base N k i := by
  rw [flK_step _ h]
  by_cases e : i = k
  · subst e; rw [if_pos rfl]; unfold flK; rw [if_neg (by omega)]
  · rw [if_neg e]

/-- The paragraph while its levels are filled. -/
structure As (w : World) (B T R N capT : Nat) (F L : Nat → Int) (wx : World) : Prop where
  kept : Kp (fun b => b = T ∨ b = R) w wx
  types : Gr wx B 67 (.slice (some ⟨T, 0, none⟩) N capT) N (fun i => .int .u64 (F i))
  levels : wx.rowIs R 62 N (fun i => .int .i8 (L i))

section
variable {w wx : World} {B T R N capT : Nat} {F L F' L' : Nat → Int}
theorem As.alloc (h : As w B T R N capT F L wx) (o : Obj) : As w B T R N capT F L (wx.alloc o) := ⟨h.kept.alloc o, h.types.alloc o, h.levels.alloc o⟩
theorem As.drew (h : As w B T R N capT F L wx) : As w B T R N capT F L wx.drew := ⟨h.kept.drew, h.types, h.levels⟩
theorem As.congr (h : As w B T R N capT F L wx) (h1 : ∀ i, i < N → F i = F' i) (h2 : ∀ i, i < N → L i = L' i) : As w B T R N capT F' L' wx := ⟨h.kept, h.types.congr (fun i hi => by rw [h1 i hi]), h.levels.congr (fun i hi => by rw [h2 i hi])⟩
theorem As.setT (h : As w B T R N capT F L wx) (hTR : T ≠ R) (k : Nat) (v : Int) (e : ∀ i, F' i = if i = k then v else F i) : As w B T R N capT F' L (wx.setCell ⟨T, k, none⟩ (.int .u64 v)) :=
  ⟨h.kept.setCell (a := ⟨T, k, none⟩) (.inl (.inl rfl)) _, (h.types.set k (.int .u64 v)).congr (fun i _ => by rw [e i]; split <;> rfl), h.levels.setOther (a := ⟨T, k, none⟩) (fun q => hTR q.symm) _⟩
theorem As.setR (h : As w B T R N capT F L wx) (hTR : T ≠ R) (k : Nat) (v : Int) (e : ∀ i, L' i = if i = k then v else L i) : As w B T R N capT F L' (wx.setCell ⟨R, k, none⟩ (.int .i8 v)) :=
  ⟨h.kept.setCell (a := ⟨R, k, none⟩) (.inl (.inr rfl)) _, h.types.kept' (fun q hq => by
    simp only [Value.ownBlock, Option.some.injEq] at hq
    subst hq
    exact Go.Deep.blk_setCell_other _ _ _ _ hTR), (h.levels.set k (.int .i8 v)).congr (fun i _ => by rw [e i]; split <;> rfl)⟩
end

set_option maxHeartbeats 8000000 in
set_option maxRecDepth 100000 in
theorem assignX9_any {p b0 c0 T R B N capT : Nat} {base : Int} {x ft fl : Nat → Int} (w : World) (hN : N ≤ 8589934592) (h0 : 0 < N) (hok : ∀ i, i < N → clsOk (x i))
    (p0 : w.cell? ⟨p, 0, none⟩ = some (.slice (some ⟨b0, 0, none⟩) N c0)) (p3 : w.cell? ⟨p, 3, none⟩ = some (.int .i8 base)) (p4 : w.cell? ⟨p, 4, none⟩ = some (.slice (some ⟨T, 0, none⟩) N capT)) (p5 : w.cell? ⟨p, 5, none⟩ = some (.slice (some ⟨R, 0, none⟩) N N))
    (hx : Sees w (some ⟨b0, 0, none⟩) b0 0 N c0 (fun i => .int .u64 (cls (x i)))) (hT : Gr w B 67 (.slice (some ⟨T, 0, none⟩) N capT) N (fun i => .int .u64 (ft i))) (hR : w.rowIs R 62 N (fun i => .int .i8 (fl i)))
    (hfl : ∀ i, i < N → remN (x i) = false → 0 ≤ fl i) (hbase : 0 ≤ base) (d1 : p ≠ T ∧ p ≠ R) (d2 : b0 ≠ T ∧ b0 ≠ R) (d3 : T ≠ R) :
    Calls Tryd.prog 67 #[.pointer (some ⟨p, 0, none⟩)] w fun e w' => e = .returned (.tuple #[]) ∧ As w B T R N capT (fun i => if remN (x i) = true then cls (x i) else ft i) (fillL x fl base) w' := by
  have HC := Lib.hid (show ∀ wx, Kp (fun b => b = T ∨ b = R) w wx → wx.cell? ⟨p, 0, none⟩ = some (.slice (some ⟨b0, 0, none⟩) N c0) ∧ wx.cell? ⟨p, 3, none⟩ = some (.int .i8 base) ∧ wx.cell? ⟨p, 4, none⟩ = some (.slice (some ⟨T, 0, none⟩) N capT) ∧ wx.cell? ⟨p, 5, none⟩ = some (.slice (some ⟨R, 0, none⟩) N N) from fun wx h =>
    ⟨h.cell p0 (by rintro (e | e); exact d1.1 e; exact d1.2 e), h.cell p3 (by rintro (e | e); exact d1.1 e; exact d1.2 e), h.cell p4 (by rintro (e | e); exact d1.1 e; exact d1.2 e), h.cell p5 (by rintro (e | e); exact d1.1 e; exact d1.2 e)⟩)
  have HI := Lib.hid (show ∀ wx, Kp (fun b => b = T ∨ b = R) w wx → Sees wx (some ⟨b0, 0, none⟩) b0 0 N c0 (fun i => .int .u64 (cls (x i))) from fun wx h => h.sees hx (fun _ => by rintro (e | e); exact d2.1 e; exact d2.2 e))
  have HOK := Lib.hid hok
  have HFL := Lib.hid hfl
  have HST := Lib.hid (show As w B T R N capT (rmK x (fun i => cls (x i)) ft 0) (rmK x (fun _ => -1) fl 0) w from ⟨Kp.refl _ _, hT.congr (fun i _ => by rw [rmK_zero]), hR.congr (fun i _ => by rw [rmK_zero])⟩)
  have hle := hx.le
  clear p0 p3 p4 p5 hx hT hR hfl hok
  go_enter Tryd.func67, Tryd.ntmps67
  obtain ⟨u0, u1, u2, u3⟩ := HC.out w (Kp.refl _ _)
  go_wp2_with fail
  clear u0 u1 u2 u3
  go_loopg [2, 3, 10] N (fun g _ _ i wr => ∃ k : Nat, k ≤ N ∧ g = N - k ∧ i = .int .i64 k ∧ Hid (As w B T R N capT (rmK x (fun i => cls (x i)) ft k) (rmK x (fun _ => -1) fl k) wr))
  case atStart => exact ⟨0, Nat.zero_le _, rfl, rfl, HST⟩
  case round =>
    clear HST
    obtain ⟨k, hk, rfl, rfl, HA⟩ := hrel
    by_cases hkn : k < N
    · have hkz : (k : Int) < (N : Int) := by omega
      obtain ⟨u0, u1, u2, u3⟩ := HC.out _ HA.out.kept
      obtain ⟨_, u4⟩ := (HI.out _ HA.out.kept).get hkn
      rw [Nat.zero_add] at u4
      have hmem := cls_rem (HOK.out k hkn)
      have HAA := Lib.hid (fun o => HA.out.alloc o)
      have hh := heap_alloc_new wr (.cells #[.int .u64 18, .int .u64 19, .int .u64 16, .int .u64 17, .int .u64 20, .int .u64 11] 67)
      have HH := Lib.hid hh
      clear hh
      obtain ⟨C, hC⟩ : ∃ C, C = cls (x k) := ⟨_, rfl⟩
      have HCE := Lib.hid hC
      rw [← hC] at u4 hmem
      clear hC
      cases hr : remN (x k) with
      | false =>
        rw [hr] at hmem
        have HR1 := Lib.hid (fun i => rmK_same (v := fun i => cls (x i)) (f := ft) hr i)
        have HR2 := Lib.hid (fun i => rmK_same (v := fun _ => -1) (f := fl) hr i)
        go_wp2_with fail
        refine (in_any [18, 19, 16, 17, 20, 11] C _ (by decide) HH.out).mono ?_
        rintro e w3 ⟨rfl, rfl⟩
        rw [hmem]
        go_wp2_with fail
        go_roundg (N - (k + 1))
        case rel => exact ⟨k + 1, by omega, rfl, by go_num, (HAA.out _).congr (fun i _ => (HR1.out i).symm) (fun i _ => (HR2.out i).symm)⟩
        case measure => omega
      | true =>
        rw [hr] at hmem
        have HR1 := Lib.hid (fun i => rmK_step (v := fun i => cls (x i)) (f := ft) hr i)
        have HR2 := Lib.hid (fun i => rmK_step (v := fun _ => -1) (f := fl) hr i)
        go_wp2_with fail
        refine (in_any [18, 19, 16, 17, 20, 11] C _ (by decide) HH.out).mono ?_
        rintro e w3 ⟨rfl, rfl⟩
        rw [hmem]
        have hA3 := HAA.out (.cells #[.int .u64 18, .int .u64 19, .int .u64 16, .int .u64 17, .int .u64 20, .int .u64 11] 67)
        clear HH HAA u0 u1 u2 u3 u4
        generalize World.alloc _ _ = wz at hA3 ⊢
        obtain ⟨u0, u1, u2, u3⟩ := HC.out _ hA3.kept
        have z1 := hA3.types.frozen k
        have y1 := hA3.types.cell hkn
        have hA4 := hA3.setT d3 k C (F' := rmK x (fun i => cls (x i)) ft (k + 1)) (fun i => by rw [HR1.out i, HCE.out])
        obtain ⟨t0, t1, t2, t3⟩ := HC.out _ hA4.kept
        have z2 := hA4.levels.frozen k
        have y2 := hA4.levels.cell hkn
        have HA5 := Lib.hid (hA4.setR d3 k (-1) (L' := rmK x (fun _ => -1) fl (k + 1)) (fun i => HR2.out i))
        clear hA3 hA4
        go_wp2_with fail
        go_roundg (N - (k + 1))
        case rel => exact ⟨k + 1, by omega, rfl, by go_num, HA5⟩
        case measure => omega
    · obtain rfl : k = N := by omega
      have HA1 := Lib.hid (show As w B T R k capT (fun i => if remN (x i) = true then cls (x i) else ft i) (rmK x (fun _ => -1) fl k) _ from HA.out.congr (fun i hi => by
        unfold rmK
        by_cases q : remN (x i) = true
        · rw [if_pos ⟨hi, q⟩, if_pos q]
        · rw [if_neg (fun r => q r.2), if_neg q]) (fun _ _ => rfl))
      clear HA
      have key0 : As w B T R k capT (fun i => if remN (x i) = true then cls (x i) else ft i) (flK x fl base k 0) _ := HA1.out.congr (fun _ _ => rfl) (fun i hi => by unfold flK; rw [if_neg (Nat.not_lt_zero _)])
      have HRM := Lib.hid (show ∀ i, i < k → (remN (x i) = true → rmK x (fun _ => -1) fl k i = -1) ∧ (remN (x i) = false → rmK x (fun _ => -1) fl k i = fl i ∧ 0 ≤ fl i) from fun i hi => ⟨fun q => by unfold rmK; rw [if_pos ⟨hi, q⟩], fun q => ⟨by unfold rmK; rw [if_neg (fun r => by rw [q] at r; exact absurd r.2 (by decide))], HFL.out i hi q⟩⟩)
      obtain ⟨u0, u1, u2, u3⟩ := HC.out _ HA1.out.kept
      have y1 := HA1.out.levels.cell h0
      have z1 := HA1.out.levels.frozen 0
      obtain ⟨V, hV⟩ : ∃ V, V = rmK x (fun _ => -1) fl k 0 := ⟨_, rfl⟩
      rw [← hV] at y1
      have hVb : (V == -1) = remN (x 0) := by
        rw [hV]
        cases hr0 : remN (x 0) with
        | true => rw [(HRM.out 0 h0).1 hr0]; rfl
        | false =>
          have := (HRM.out 0 h0).2 hr0
          rw [this.1]
          exact beq_eq_false_iff_ne.2 (by omega)
      have HK0 := Lib.hid key0
      have HVV := Lib.hid hV
      have HVB := Lib.hid hVb
      clear key0 hV hVb HA1
      go_upto_if 38 with fail
      go_cut [] (fun wx => Hid (As w B T R k capT (fun i => if remN (x i) = true then cls (x i) else ft i) (flK x fl base k 1) wx))
      case first =>
        have hVb := HVB.out
        cases hr0 : remN (x 0) with
        | true =>
          rw [hr0] at hVb
          have HA5 := Lib.hid (HK0.out.setR d3 0 base (L' := flK x fl base k 1) (fun i => flK_step base (by show (if remN (x 0) = true then base else fl 0) = base; rw [if_pos hr0]) i)).drew
          clear HK0 HVV
          go_wp2_with fail
          go_region
          go_wp2_with fail
          go_meet
          exact HA5
        | false =>
          rw [hr0] at hVb
          have HA5 := Lib.hid (HK0.out.congr (F' := fun i => if remN (x i) = true then cls (x i) else ft i) (L' := flK x fl base k 1) (fun _ _ => rfl) (fun i _ => (flK_same (by show (if remN (x 0) = true then base else fl 0) = _; rw [if_neg (by rw [hr0]; decide), ((HRM.out 0 h0).2 hr0).1]) i).symm))
          clear HK0 HVV
          go_wp2_with fail
          go_meet
          exact HA5
      case rest =>
        clear u0 u1 u2 u3 y1 z1 HK0 HVV HVB
        have HA2 : Hid (As w B T R k capT (fun i => if remN (x i) = true then cls (x i) else ft i) (flK x fl base k 1) wc) := hcut
        go_wp2_with fail
        go_loopg [4] (k - 1) (fun g i wr => ∃ m : Nat, m + 1 ≤ k ∧ g = k - (m + 1) ∧ i = .int .i64 ((m : Int) + 1) ∧ Hid (As w B T R k capT (fun i => if remN (x i) = true then cls (x i) else ft i) (flK x fl base k (m + 1)) wr))
        case atStart => exact ⟨0, by omega, by simp, rfl, HA2⟩
        case round =>
          clear hcut HA2
          rename World => wo
          obtain ⟨m, hm, rfl, rfl, HA⟩ := hrel
          obtain ⟨u0, u1, u2, u3⟩ := HC.out _ HA.out.kept
          by_cases hmn : m + 1 < k
          · have hmz : (m : Int) + 1 < (k : Int) := by omega
            have y1 := HA.out.levels.cell hmn
            have y2 := HA.out.levels.cell (show m < k by omega)
            have z1 := HA.out.levels.frozen (m + 1)
            rw [show flK x fl base k (m + 1) (m + 1) = rmK x (fun _ => -1) fl k (m + 1) from if_neg (by omega)] at y1
            rw [show flK x fl base k (m + 1) m = fillL x fl base m from if_pos (by omega)] at y2
            obtain ⟨V, hV⟩ : ∃ V, V = rmK x (fun _ => -1) fl k (m + 1) := ⟨_, rfl⟩
            obtain ⟨P, hP⟩ : ∃ P, P = fillL x fl base m := ⟨_, rfl⟩
            rw [← hV] at y1
            rw [← hP] at y2
            have hwm : IntKind.i64.wrap ((m : Int) + 1 - 1) = (m : Int) := by rw [Int.add_sub_cancel]; simp [IntKind.wrap, IntKind.bits, IntKind.signed]; omega
            have hml : m < k := by omega
            cases hr : remN (x (m + 1)) with
            | true =>
              have hVb : (V == -1) = true := by rw [hV, (HRM.out _ hmn).1 hr]; rfl
              have HA5 := Lib.hid (HA.out.setR d3 (m + 1) P (L' := flK x fl base k (m + 1 + 1)) (fun i => flK_step P (by show (if remN (x (m + 1)) = true then fillL x fl base m else fl (m + 1)) = P; rw [if_pos hr, hP]) i)).drew
              clear hV hP HA
              go_wp2_with fail
              go_region
              go_wp2_with fail
              go_roundg (k - (m + 2))
              case rel => exact ⟨m + 1, by omega, by omega, by go_num, HA5⟩
              case measure => omega
            | false =>
              have h1 := (HRM.out _ hmn).2 hr
              have hVb : (V == -1) = false := by rw [hV, h1.1]; exact beq_eq_false_iff_ne.2 (by omega)
              have HA5 := Lib.hid (HA.out.congr (F' := fun i => if remN (x i) = true then cls (x i) else ft i) (L' := flK x fl base k (m + 1 + 1)) (fun _ _ => rfl) (fun i _ => (flK_same (by show (if remN (x (m + 1)) = true then fillL x fl base m else fl (m + 1)) = _; rw [if_neg (by rw [hr]; decide), h1.1]) i).symm))
              clear hV hP HA h1
              go_wp2_with fail
              go_roundg (k - (m + 2))
              case rel => exact ⟨m + 1, by omega, by omega, by go_num, HA5⟩
              case measure => omega
          · obtain rfl : k = m + 1 := by omega
            go_wp2_with fail
            go_end0
            exact ⟨rfl, HA.out.congr (fun _ _ => rfl) (fun i hi => if_pos hi)⟩
end Go.Proofs.YtkocpijloiamcaaDoor
