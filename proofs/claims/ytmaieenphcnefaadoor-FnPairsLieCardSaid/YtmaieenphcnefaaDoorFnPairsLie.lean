/- The law FnPairsLie, its tied card: for every input the call returns true, and each argument and the table of classes read afterwards as before. The row's one condition, that the table starts as the program's text lays it, is tied to the text by the given tie. -/
import Derived.Test.YtmaieenphcnefaaDoorCards
import Derived.Test.YtmaieenphcnefaaDoorTie
import Derived.Test.YtmaieenphcnefaaDoorLieP
import Derived.WalkKit
import Derived.ProofKit
import Derived.OpenShut
import Derived.ShutString
import Derived.ChangeOld
import Derived.ChangeVars
import Derived.WalkSmall
import Derived.Below
import Derived.Deep.DeepHandedRow
import Derived.Lib.LaidTab
namespace Go.Proofs.YtmaieenphcnefaaDoor.fnPairsLie
open Go.ChangeShapes Go.WideShapes Go.ChangeAt Go.RowKit
open Go.ChangeMaps (open_string shut_string)
set_option linter.unusedVariables false

theorem own : ownKnob Tryd.prog.godebug = none := by kernel_rfl
theorem laidOut : laidOutB Tryd.prog = true := by kernel_rfl
/-- The table's name. -/
def tabName : String := Rows.fnPairsLieSpec.vars.headD ""
theorem gTab : Tryd.prog.globalNamed tabName = some 0 := by kernel_rfl
theorem gTabType : (Tryd.prog.globals[0]?).map (·.type) = some 81 := by kernel_rfl
theorem cellsT : Tryd.prog.cellsOf 81 = 23 := by kernel_rfl
theorem cellsC : Tryd.prog.cellsOf 56 = 1 := by kernel_rfl
def tabZ : List Int := [0, 1, 2, 3, 4, 5, 6, 7, 8, 9, 10, 11, 12, 13, 16, 17, 18, 19, 20, 21, 22, 23, 24]

/-- What the row's list gives. -/
theorem table {W : World} (h : laidMetH Tryd.prog Rows.fnPairsLieRow.laid W) : Lib.TabIs Tryd.prog W tabName .u64 tabZ :=
  Lib.tabIs_of_head (rest := []) gTab gTabType Tryd.underlying81 Tryd.underlying56 cellsC cellsT h
theorem tab {W : World} (h : laidMetH Tryd.prog Rows.fnPairsLieRow.laid W) : Tab W := fun i hi => by
  have h1 := (table h).cell gTab i (by simpa [tabZ] using hi)
  rw [h1]
  congr 2
  have : ∀ j : Fin 23, tabZ.getD j.val 0 = cls (j.val : Int) := by decide
  exact this ⟨i, hi⟩

/-- What the walk is told of a slice of integers that came in. -/
def IsRow (k : IntKind) (w : World) (a : Option Addr) (len cap : Nat) (zs : List Int) : Prop :=
  (a = none ∧ len = 0 ∧ cap = 0 ∧ zs = []) ∨
  ∃ x, a = some x ∧ len ≤ cap ∧ cap ≤ maxLen ∧ zs.length = cap ∧ (∀ i, i < zs.length → w.cell? (x.add i) = some (.int k (zs.getD i 0))) ∧ ∀ n ∈ zs, (Lit.int k n).wf = true

set_option maxHeartbeats 4000000 in
set_option maxRecDepth 100000 in
theorem walk (a0 : Option Addr) (len0 cap0 : Nat) (z0 : List Int) (a1 : Option Addr) (len1 cap1 : Nat) (z1 : List Int) (a2 : Option Addr) (len2 cap2 : Nat) (z2 : List Int) (w : World) (w0 : IsRow .i64 w a0 len0 cap0 z0) (w1 : IsRow .i64 w a1 len1 cap1 z1) (w2 : IsRow .i64 w a2 len2 cap2 z2) (ht : Tab w) :
    Calls Tryd.prog 5 #[.slice a0 len0 cap0, .slice a1 len1 cap1, .slice a2 len2 cap2] w fun e w' => e = .returned (.bool true) ∧ Below w.heap.size w w' := by
  obtain ⟨b0, o0, hx0⟩ := sees_of_row w0
  obtain ⟨b1, o1, hk0⟩ := sees_of_row w1
  obtain ⟨b2, o2, hv0⟩ := sees_of_row w2
  obtain ⟨x, hx⟩ : ∃ x : Nat → Int, Sees w a0 b0 o0 len0 cap0 (fun i => .int .i64 (x i)) := ⟨_, hx0⟩
  obtain ⟨kd, hk⟩ : ∃ x : Nat → Int, Sees w a1 b1 o1 len1 cap1 (fun i => .int .i64 (x i)) := ⟨_, hk0⟩
  obtain ⟨vl, hv⟩ : ∃ x : Nat → Int, Sees w a2 b2 o2 len2 cap2 (fun i => .int .i64 (x i)) := ⟨_, hv0⟩
  clear hx0 hk0 hv0 w0 w1 w2
  by_cases hn0 : len0 ≤ 2147483647
  case neg =>
    have hb : (2147483647 : Int) < (len0 : Int) := by omega
    go_enter Tryd.func5, Tryd.ntmps5
    go_wp2_with fail
    go_ret
    exact ⟨rfl, Below.refl _ _⟩
  by_cases hn1 : len1 ≤ 2147483647
  case neg =>
    have hb : (2147483647 : Int) < (len1 : Int) := by omega
    go_enter Tryd.func5, Tryd.ntmps5
    go_wp2_with fail
    go_ret
    exact ⟨rfl, Below.refl _ _⟩
  by_cases hn2 : len2 ≤ 2147483647
  case neg =>
    have hb : (2147483647 : Int) < (len2 : Int) := by omega
    go_enter Tryd.func5, Tryd.ntmps5
    go_wp2_with fail
    go_ret
    exact ⟨rfl, Below.refl _ _⟩
  by_cases h0 : len0 = 0
  case pos =>
    subst h0
    go_enter Tryd.func5, Tryd.ntmps5
    go_wp2_with fail
    go_ret
    exact ⟨rfl, Below.refl _ _⟩
  have hpos : 0 < len0 := by omega
  have hb0 : ((len0 : Int) == 0) = false := beq_eq_false_iff_ne.2 (by omega)
  clear h0
  go_enter Tryd.func5, Tryd.ntmps5
  go_wp2_with fail
  refine (areClasses_any _ (by omega) hx).mono ?_
  rintro e w1 ⟨rfl, rfl⟩
  by_cases hc : clsB len0 x = true
  case neg =>
    have hc' : clsB len0 x = false := by simpa using hc
    rw [hc']
    clear hc hc'
    go_wp2_with fail
    go_ret
    exact ⟨rfl, Below.refl _ _⟩
  rw [hc]
  have HC := Lib.hid (of_decide_eq_true hc : ∀ i, i < len0 → 0 ≤ x i ∧ x i < 23)
  clear hc
  go_wp2_with fail
  refine (areBrackets_any _ (by omega) (by omega) (by omega) hk hv).mono ?_
  rintro e w1 ⟨rfl, rfl⟩
  by_cases hb : brB len0 len1 len2 kd vl = true
  case neg =>
    have hb' : brB len0 len1 len2 kd vl = false := by simpa using hb
    rw [hb']
    clear hb hb'
    go_wp2_with fail
    go_ret
    exact ⟨rfl, Below.refl _ _⟩
  rw [hb]
  obtain ⟨rfl, rfl, hbr⟩ := (of_decide_eq_true hb : len1 = len0 ∧ len2 = len0 ∧ ∀ i, i < len1 → brOk (kd i) (vl i))
  have HKD := Lib.hid (show ∀ j, j < len2 → kd j = 0 ∨ kd j = 1 ∨ kd j = 2 from fun j hj => brOk_kd (hbr j hj))
  have HVL := Lib.hid (show ∀ j, j < len2 → 0 ≤ vl j ∧ vl j ≤ 1114111 from fun j hj => brOk_vl (hbr j hj))
  have HVK := Lib.hid (show ∀ j, j < len2 → vl j ≤ 1114111 ∧ (kd j ≠ 0 → 1 ≤ vl j) from fun j hj => brOk_vk (hbr j hj))
  clear hb hbr
  go_wp2_with fail
  refine (openings_any _ (by omega) hk).mono ?_
  rintro e w1 ⟨rfl, rfl⟩
  by_cases ho : ops kd len2 ≤ 63
  case neg =>
    have ho' : (63 : Int) < ((ops kd len2 : Nat) : Int) := by omega
    obtain ⟨P, hP⟩ : ∃ P, P = ops kd len2 := ⟨_, rfl⟩
    rw [← hP] at ho'
    rw [← hP]
    clear hP ho
    go_wp2_with fail
    go_ret
    exact ⟨rfl, Below.refl _ _⟩
  have HOP := Lib.hid ho
  have ho' : ¬ ((63 : Int) < ((ops kd len2 : Nat) : Int)) := by omega
  obtain ⟨P, hP⟩ : ∃ P, P = ops kd len2 := ⟨_, rfl⟩
  rw [← hP] at ho'
  rw [← hP]
  clear hP ho
  go_wp2_with fail
  refine (implPairs_any _ ht hn0 hpos hx hk hv HKD.out HVL.out).mono ?_
  rintro e w1 ⟨v1, rfl, hl1, hsi1⟩
  have hx1 := hx.since hsi1
  have hk1 := hk.since hsi1
  have hv1 := hv.since hsi1
  obtain ⟨P0, P1, hPO⟩ := pairs_ok HC.out HKD.out HOP.out
  obtain ⟨R, hR⟩ : ∃ R, R = pairLists (pairsOf kd vl (fun i => cls (x i)) len2) := ⟨_, rfl⟩
  rw [← hR] at hl1 hPO
  have HPO := Lib.hid hPO
  have hRn := hPO.len
  obtain ⟨ao1, c1, rfl⟩ := hl1.form
  obtain ⟨_, bb, _, hll⟩ := hl1.sees
  have HLL := Lib.hid hll
  have HX := Lib.hid hx1
  have HK := Lib.hid hk1
  have HV := Lib.hid hv1
  have HSI := Lib.hid hsi1
  have hlast : ∀ k, k < R.length → -1 ≤ lastP P0 k ∧ lastP P0 k < (P0 k : Int) := fun k hk => by
    match k, hk with
    | 0, hk => exact ⟨by show (-1 : Int) ≤ -1; omega, by show (-1 : Int) < (P0 0 : Int); omega⟩
    | k + 1, hk =>
      have := (HPO.out.two k (k + 1) (by omega) hk).1
      exact ⟨by show (-1 : Int) ≤ (P0 k : Int); omega, by show (P0 k : Int) < (P0 (k + 1) : Int); omega⟩
  have HLAST := Lib.hid hlast
  clear ht hx hk hv hR hl1 hll hx1 hk1 hv1 hsi1 hPO hlast HC HKD HVL HVK HOP
  go_wp2_with fail
  go_loopg [9, 10, 11, 13, 55] R.length (fun g s9 _ _ _ i wr => ∃ k : Nat, k ≤ R.length ∧ g = R.length - k ∧ i = .int .i64 k ∧ s9 = .int .i64 (lastP P0 k) ∧ Hid (Drawn w1 wr))
  case atStart => exact ⟨0, Nat.zero_le _, rfl, rfl, rfl, Drawn.refl _⟩
  case round =>
    obtain ⟨k, hk, rfl, rfl, rfl, HD⟩ := hrel
    by_cases hkn : k < R.length
    · have hkz : (k : Int) < (R.length : Int) := by omega
      obtain ⟨f1, q1, r1⟩ := HLL.out
      have hRc := q1.le
      obtain ⟨rfl, hc⟩ := q1.get hkn
      obtain ⟨a3, b3, o3, c3, e3, s3⟩ := r1 k hkn
      have hp := HPO.out.row k hkn
      rw [e3] at hc
      rw [hp] at s3 hc
      obtain ⟨rfl, d0⟩ := s3.get (i := 0) (by simp)
      obtain ⟨_, d1⟩ := s3.get (i := 1) (by simp)
      have hle : 2 ≤ c3 := s3.le
      obtain ⟨hlt0, hlt1⟩ := HPO.out.lt k hkn
      obtain ⟨hx0, hx1⟩ := HPO.out.x0 k hkn
      obtain ⟨hk0, hk1⟩ := HPO.out.kds k hkn
      have hv0 := HPO.out.vls k hkn
      obtain ⟨rfl, g0⟩ := HX.out.get (show P0 k < len2 by omega)
      obtain ⟨_, g1⟩ := HX.out.get (show P1 k < len2 by omega)
      obtain ⟨rfl, g2⟩ := HK.out.get (show P0 k < len2 by omega)
      obtain ⟨_, g3⟩ := HK.out.get (show P1 k < len2 by omega)
      obtain ⟨rfl, g4⟩ := HV.out.get (show P0 k < len2 by omega)
      obtain ⟨_, g5⟩ := HV.out.get (show P1 k < len2 by omega)
      (try dsimp only at g0 g1 g2 g3 g4 g5)
      rw [hx0] at g0
      rw [hx1] at g1
      rw [hk0] at g2
      rw [hk1] at g3
      rw [hv0] at g4
      obtain ⟨V, hV⟩ : ∃ V, V = vl (P1 k) := ⟨_, rfl⟩
      rw [← hV] at g4 g5
      have HLK := Lib.hid (show lastP P0 (k + 1) = (P0 k : Int) from rfl)
      have hLA := HLAST.out k hkn
      have HTWO := Lib.hid (fun j (hj : j < k) => HPO.out.two j k hj hkn)
      change _ = some (Value.int .i64 ((P0 k : Nat) : Int)) at d0
      change _ = some (Value.int .i64 ((P1 k : Nat) : Int)) at d1
      change _ = some (Value.slice (some ⟨b3, o3, none⟩) 2 c3) at hc
      rw [Nat.add_zero] at d0
      obtain ⟨p0, h0⟩ : ∃ p0, p0 = P0 k := ⟨_, rfl⟩
      obtain ⟨p1, h1⟩ : ∃ p1, p1 = P1 k := ⟨_, rfl⟩
      obtain ⟨LA, hA⟩ : ∃ LA, LA = lastP P0 k := ⟨_, rfl⟩
      rw [← h0] at d0 hlt0 g0 g2 g4 HLK hLA HTWO
      rw [← h1] at d1 hlt0 hlt1 g1 g3 g5 HTWO
      rw [← hA] at hLA
      rw [← hA]
      have hn1 : ¬ ((p0 : Int) ≤ LA) := by omega
      have hn2 : ¬ ((p1 : Int) ≤ (p0 : Int)) := by omega
      have hn3 : ¬ ((len2 : Int) ≤ (p1 : Int)) := by omega
      have hm2 : ¬ (p1 ≤ p0) := by omega
      have hm3 : ¬ (len2 ≤ p1) := by omega
      have hp0n : p0 < len2 := by omega
      have HCELL := Lib.hid (show ∀ wx, Drawn w1 wx → wx.cell? ⟨bb, 0 + k, none⟩ = some (Value.slice (some ⟨b3, o3, none⟩) 2 c3) ∧ wx.cell? ⟨b3, o3, none⟩ = some (Value.int .i64 ((p0 : Nat) : Int)) ∧ wx.cell? ⟨b3, o3 + 1, none⟩ = some (Value.int .i64 ((p1 : Nat) : Int)) ∧
        wx.cell? ⟨b0, o0 + p0, none⟩ = some (.int .i64 10) ∧ wx.cell? ⟨b0, o0 + p1, none⟩ = some (.int .i64 10) ∧ wx.cell? ⟨b1, o1 + p0, none⟩ = some (.int .i64 1) ∧ wx.cell? ⟨b1, o1 + p1, none⟩ = some (.int .i64 2) ∧ wx.cell? ⟨b2, o2 + p0, none⟩ = some (.int .i64 V) ∧ wx.cell? ⟨b2, o2 + p1, none⟩ = some (.int .i64 V) from fun wx h =>
          ⟨(h.cell _).trans hc, (h.cell _).trans d0, (h.cell _).trans d1, (h.cell _).trans g0, (h.cell _).trans g1, (h.cell _).trans g2, (h.cell _).trans g3, (h.cell _).trans g4, (h.cell _).trans g5⟩)
      have HR1 := Lib.hid r1
      have HQ1 := Lib.hid q1
      clear hc d0 d1 g0 g1 g2 g3 g4 g5 r1 q1 e3 s3 hp hx0 hx1 hk0 hk1 hv0 hV h0 h1 hA hLA
      obtain ⟨u0, u1, u2, u3, u4, u5, u6, u7, u8⟩ := HCELL.out wr HD.out
      rw [Nat.zero_add] at u0
      go_wp2_with fail
      go_quiet (fail)
      go_wp2_with fail
      obtain ⟨wa, hwa⟩ : ∃ wa, wa = wr.drewN nq := ⟨_, rfl⟩
      rw [← hwa]
      have HDA := Lib.hid (show Drawn w1 wa by rw [hwa]; exact HD.out.drewN nq)
      clear u0 u1 u2 u3 u4 u5 u6 u7 u8 hwa HD
      obtain ⟨u0, u1, u2, u3, u4, u5, u6, u7, u8⟩ := HCELL.out wa HDA.out
      rw [Nat.zero_add] at u0
      go_quiet (fail)
      obtain ⟨wb, hwb⟩ : ∃ wb, wb = wa.drewN nq := ⟨_, rfl⟩
      rw [← hwb]
      have HDB := Lib.hid (show Drawn w1 wb by rw [hwb]; exact HDA.out.drewN nq)
      clear u0 u1 u2 u3 u4 u5 u6 u7 u8 hwb HDA
      have hkc : (k : Int) ≤ (c1 : Int) := by omega
      go_wp2_with fail
      go_loopg [13, 139] k (fun g _ i wr2 => ∃ j : Nat, j ≤ k ∧ g = k - j ∧ i = .int .i64 j ∧ Hid (Drawn w1 wr2))
      case atStart => exact ⟨0, Nat.zero_le _, rfl, rfl, HDB⟩
      case round =>
        rename World => wo
        clear HDB
        obtain ⟨j, hj, rfl, rfl, HD⟩ := hrel
        obtain ⟨u0, u1, u2, u3, u4, u5, u6, u7, u8⟩ := HCELL.out wo HD.out
        rw [Nat.zero_add] at u0
        by_cases hjk : j < k
        · have hjz : (j : Int) < (k : Int) := by omega
          obtain ⟨_, hc⟩ := HQ1.out.get (show j < R.length by omega)
          obtain ⟨a4, b4, o4, c4, e4, s4⟩ := HR1.out j (by omega)
          have hp := HPO.out.row j (by omega)
          rw [e4] at hc
          rw [hp] at s4 hc
          obtain ⟨rfl, d0⟩ := s4.get (i := 0) (by simp)
          obtain ⟨_, d1⟩ := s4.get (i := 1) (by simp)
          have hle4 : 2 ≤ c4 := s4.le
          change _ = some (Value.int .i64 ((P1 j : Nat) : Int)) at d1
          change _ = some (Value.slice (some ⟨b4, o4, none⟩) 2 c4) at hc
          obtain ⟨t1, t2, t3⟩ := HTWO.out j hjk
          obtain ⟨y1, h1⟩ : ∃ y1, y1 = P1 j := ⟨_, rfl⟩
          rw [← h1] at d1 t2 t3
          have v0 : wo.cell? ⟨bb, j, none⟩ = some (Value.slice (some ⟨b4, o4, none⟩) 2 c4) := by rw [HD.out.cell]; rw [Nat.zero_add] at hc; exact hc
          have v1 : wo.cell? ⟨b4, o4 + 1, none⟩ = some (Value.int .i64 ((y1 : Nat) : Int)) := by rw [HD.out.cell]; exact d1
          have t2b : ((y1 : Int) == (p1 : Int)) = false := by simp; omega
          clear hc d0 d1 e4 s4 hp t1 t2 h1 u0 u3 u4 u5 u6 u7 u8
          go_wp2_with fail
          by_cases t4 : p0 < y1
          · have t4z : (p0 : Int) < (y1 : Int) := by omega
            have t5 : ¬ ((y1 : Int) < (p1 : Int)) := by have := t3 t4; omega
            clear t3 t4
            go_quiet (fail)
            obtain ⟨wc, hwc⟩ : ∃ wc, wc = wo.drewN nq := ⟨_, rfl⟩
            rw [← hwc]
            have HDC := Lib.hid (show Drawn w1 wc by rw [hwc]; exact HD.out.drewN nq)
            clear hwc
            go_wp2_with fail
            go_roundg (k - (j + 1))
            case rel => exact ⟨j + 1, by omega, rfl, by go_num, HDC⟩
            case measure => omega
          · have t4z : ¬ ((p0 : Int) < (y1 : Int)) := by omega
            clear t3 t4
            go_quiet (fail)
            obtain ⟨wc, hwc⟩ : ∃ wc, wc = wo.drewN nq := ⟨_, rfl⟩
            rw [← hwc]
            have HDC := Lib.hid (show Drawn w1 wc by rw [hwc]; exact HD.out.drewN nq)
            clear hwc
            go_wp2_with fail
            go_roundg (k - (j + 1))
            case rel => exact ⟨j + 1, by omega, rfl, by go_num, HDC⟩
            case measure => omega
        · obtain rfl : j = k := by omega
          clear u0 u3 u4 u5 u6 u7 u8
          go_wp2_with fail
          go_roundg (R.length - (j + 1))
          case rel => exact ⟨j + 1, by omega, rfl, by go_num, by rw [HLK.out], HD⟩
          case measure => omega
    · obtain rfl : k = R.length := by omega
      have h1n : (1 : Int) ≤ (len2 : Int) := by omega
      go_wp2_with fail
      go_loopg [14] (len2 - 1) (fun g i wr => ∃ m : Nat, m + 1 ≤ len2 ∧ g = len2 - (m + 1) ∧ i = .int .i64 ((m : Int) + 1) ∧ Hid (Drawn w1 wr))
      case atStart => exact ⟨0, hpos, by simp, rfl, HD⟩
      case round =>
        rename World => wo
        clear HD
        obtain ⟨m, hm, rfl, rfl, HD⟩ := hrel
        by_cases hmn : m + 1 < len2
        · have hmz : (m : Int) + 1 < (len2 : Int) := by omega
          obtain ⟨rfl, g0⟩ := HX.out.get (show m < len2 by omega)
          obtain ⟨_, g1⟩ := HX.out.get hmn
          obtain ⟨rfl, g2⟩ := HK.out.get (show m < len2 by omega)
          obtain ⟨_, g3⟩ := HK.out.get hmn
          obtain ⟨rfl, g4⟩ := HV.out.get (show m < len2 by omega)
          obtain ⟨_, g5⟩ := HV.out.get hmn
          have HSD := Lib.hid (HPO.out.side m hmn)
          rw [← HD.out.cell] at g0 g1 g2 g3 g4 g5
          have HSEE : Hid (SeesLL wo ao1 bb 0 c1 R) := HLL.out.kept' HD.out
          have HHP := Lib.hid (show x m = 10 → x (m + 1) = 10 → kd m = 1 → kd (m + 1) = 2 → vl m = vl (m + 1) → ∀ q, Calls Tryd.prog 15 #[.slice ao1 R.length c1, .int .i64 (m : Nat), .int .i64 ((m + 1 : Nat) : Int)] (wo.drewN q) fun e w' => e = .returned (.bool true) ∧ wo.drewN q = w' from fun z0 z1 z2 z3 z4 q => hasPair_any (wo.drewN q) hRn hn0 (HSEE.out.kept' ((Drawn.refl wo).drewN q)) (fun k hk => ⟨HPO.out.row k hk, by have := HPO.out.lt k hk; omega, (HPO.out.lt k hk).2⟩) (show m < len2 by omega) hmn (HSD.out z0 z1 z2 z3 z4))
          have HDN := Lib.hid (fun q => HD.out.drewN q)
          obtain ⟨X0, e0⟩ : ∃ X, X = x m := ⟨_, rfl⟩
          obtain ⟨X1, e1⟩ : ∃ X, X = x (m + 1) := ⟨_, rfl⟩
          obtain ⟨K0, e2⟩ : ∃ X, X = kd m := ⟨_, rfl⟩
          obtain ⟨K1, e3⟩ : ∃ X, X = kd (m + 1) := ⟨_, rfl⟩
          obtain ⟨V0, e4⟩ : ∃ X, X = vl m := ⟨_, rfl⟩
          obtain ⟨V1, e5⟩ : ∃ X, X = vl (m + 1) := ⟨_, rfl⟩
          rw [← e0] at g0 HHP
          rw [← e1] at g1 HHP
          rw [← e2] at g2 HHP
          rw [← e3] at g3 HHP
          rw [← e4] at g4 HHP
          rw [← e5] at g5 HHP
          have hml : m < len2 := by omega
          have hwm : IntKind.i64.wrap ((m : Int) + 1 - 1) = (m : Int) := by rw [Int.add_sub_cancel]; exact wrap_mid (by omega) (by omega)
          clear e0 e1 e2 e3 e4 e5 HSD
          go_wp2_with fail
          by_cases q0 : X0 = 10
          case neg =>
            have q0b : (X0 == 10) = false := beq_eq_false_iff_ne.2 q0
            clear q0
            go_big_quiet (fail)
            go_wp2_with fail
            go_roundg (len2 - (m + 2))
            case rel => exact ⟨m + 1, by omega, rfl, by go_num, HDN.out _⟩
            case measure => omega
          subst q0
          by_cases q1 : X1 = 10
          case neg =>
            have q1b : (X1 == 10) = false := beq_eq_false_iff_ne.2 q1
            clear q1
            go_big_quiet (fail)
            go_wp2_with fail
            go_roundg (len2 - (m + 2))
            case rel => exact ⟨m + 1, by omega, rfl, by go_num, HDN.out _⟩
            case measure => omega
          subst q1
          by_cases q2 : K0 = 1
          case neg =>
            have q2b : (K0 == 1) = false := beq_eq_false_iff_ne.2 q2
            clear q2
            go_big_quiet (fail)
            go_wp2_with fail
            go_roundg (len2 - (m + 2))
            case rel => exact ⟨m + 1, by omega, rfl, by go_num, HDN.out _⟩
            case measure => omega
          subst q2
          by_cases q3 : K1 = 2
          case neg =>
            have q3b : (K1 == 2) = false := beq_eq_false_iff_ne.2 q3
            clear q3
            go_big_quiet (fail)
            go_wp2_with fail
            go_roundg (len2 - (m + 2))
            case rel => exact ⟨m + 1, by omega, rfl, by go_num, HDN.out _⟩
            case measure => omega
          subst q3
          by_cases q4 : V0 = V1
          case neg =>
            have q4b : (V0 == V1) = false := beq_eq_false_iff_ne.2 q4
            clear q4
            go_big_quiet (fail)
            go_wp2_with fail
            go_roundg (len2 - (m + 2))
            case rel => exact ⟨m + 1, by omega, rfl, by go_num, HDN.out _⟩
            case measure => omega
          subst q4
          have HHQ := Lib.hid (HHP.out rfl rfl rfl rfl rfl)
          go_big_quiet ((go_at_call 15; exact quiet_same rfl (HHQ.out _)))
          go_wp2_with fail
          go_roundg (len2 - (m + 2))
          case rel => exact ⟨m + 1, by omega, rfl, by go_num, HDN.out _⟩
          case measure => omega
        · obtain rfl : len2 = m + 1 := by omega
          go_wp2_with fail
          go_ret
          obtain ⟨q, hq⟩ := HD.out
          exact ⟨rfl, by rw [hq]; exact below_of_since (since_drewN HSI.out q)⟩

/-! ### THE ROW's STEP -/
set_option maxRecDepth 100000 in
theorem contract (H : Type) (enc : TypeId × Value → H) (W : World) (base : Nat) (args : Array Value) (ds gs : List (DataW H)) (before : List MemPlace)
    (hval : ∀ (j : Nat) t v, Tryd.f5.params[j]? = some t → args[j]? = some v → Value.okWide Tryd.prog W .any base t v)
    (hW : DataW.Whole enc Tryd.prog Tryd.f5.params.toList Rows.fnPairsLieSpec.vars false W args.toList ds gs before) (hL : laidMetH Tryd.prog Rows.fnPairsLieRow.laid W) :
    Calls Tryd.prog 5 args W fun e W' => ∃ v, e = .returned v ∧ Rows.fnPairsLieSpec.post enc Tryd.prog Tryd.f5 false true false false W args v W' := by
  have hW' := hW
  obtain ⟨p, q, hA0, hV, rfl, hfz, hnd⟩ := hW
  have hA : DataW.TrodAll enc Tryd.prog W 0 (fun _ => true) true Tryd.f5.params.toList args.toList ds p := hA0
  rw [Tryd.params5] at hA hval
  obtain ⟨v0, vs0, d0, ds0, p0, q0, hargs, rfl, rfl, h0, r0⟩ := trodAll_cons hA
  obtain ⟨v1, vs1, d1, ds1, p1, q1, rfl, rfl, rfl, h1, r1⟩ := trodAll_cons r0
  obtain ⟨v2, vs2, d2, ds2, p2, q2, rfl, rfl, rfl, h2, r2⟩ := trodAll_cons r1
  obtain ⟨rfl, rfl, rfl⟩ := trodAll_nil r2
  obtain rfl : args = #[v0, v1, v2] := by cases args; simp_all
  obtain ⟨a0, len0, cap0, rfl⟩ := okWide_slice Tryd.underlying22 (hval 0 22 v0 rfl rfl)
  have k0 := h0
  have lt0 : ∀ x ∈ p0, x.block < W.heap.size := by obtain ⟨m, hm⟩ := k0; exact DataW.trod_lt m _ _ _ hm
  obtain ⟨z0, w0⟩ : ∃ zs, IsRow .i64 W a0 len0 cap0 zs := by
    obtain ⟨fuel, hf⟩ := h0
    rcases open_ints Tryd.underlying22 Tryd.underlying3 (by kernel_rfl) hf with ⟨hcs, _⟩ | ⟨x, l, c, zs, hcs, _, hl, hm, hz, _, hcell, hwz⟩
    · simp [Value.cells] at hcs
      obtain ⟨rfl, rfl, rfl⟩ := hcs
      exact ⟨[], .inl ⟨rfl, rfl, rfl, rfl⟩⟩
    · simp [Value.cells] at hcs
      obtain ⟨rfl, rfl, rfl⟩ := hcs
      exact ⟨zs, .inr ⟨_, rfl, hl, hm, by simpa using hz, hcell, hwz⟩⟩
  obtain ⟨a1, len1, cap1, rfl⟩ := okWide_slice Tryd.underlying22 (hval 1 22 v1 rfl rfl)
  have k1 := h1
  have lt1 : ∀ x ∈ p1, x.block < W.heap.size := by obtain ⟨m, hm⟩ := k1; exact DataW.trod_lt m _ _ _ hm
  obtain ⟨z1, w1⟩ : ∃ zs, IsRow .i64 W a1 len1 cap1 zs := by
    obtain ⟨fuel, hf⟩ := h1
    rcases open_ints Tryd.underlying22 Tryd.underlying3 (by kernel_rfl) hf with ⟨hcs, _⟩ | ⟨x, l, c, zs, hcs, _, hl, hm, hz, _, hcell, hwz⟩
    · simp [Value.cells] at hcs
      obtain ⟨rfl, rfl, rfl⟩ := hcs
      exact ⟨[], .inl ⟨rfl, rfl, rfl, rfl⟩⟩
    · simp [Value.cells] at hcs
      obtain ⟨rfl, rfl, rfl⟩ := hcs
      exact ⟨zs, .inr ⟨_, rfl, hl, hm, by simpa using hz, hcell, hwz⟩⟩
  obtain ⟨a2, len2, cap2, rfl⟩ := okWide_slice Tryd.underlying22 (hval 2 22 v2 rfl rfl)
  have k2 := h2
  have lt2 : ∀ x ∈ p2, x.block < W.heap.size := by obtain ⟨m, hm⟩ := k2; exact DataW.trod_lt m _ _ _ hm
  obtain ⟨z2, w2⟩ : ∃ zs, IsRow .i64 W a2 len2 cap2 zs := by
    obtain ⟨fuel, hf⟩ := h2
    rcases open_ints Tryd.underlying22 Tryd.underlying3 (by kernel_rfl) hf with ⟨hcs, _⟩ | ⟨x, l, c, zs, hcs, _, hl, hm, hz, _, hcell, hwz⟩
    · simp [Value.cells] at hcs
      obtain ⟨rfl, rfl, rfl⟩ := hcs
      exact ⟨[], .inl ⟨rfl, rfl, rfl, rfl⟩⟩
    · simp [Value.cells] at hcs
      obtain ⟨rfl, rfl, rfl⟩ := hcs
      exact ⟨zs, .inr ⟨_, rfl, hl, hm, by simpa using hz, hcell, hwz⟩⟩
  obtain ⟨g, tv, cs, fuel, dv, pv, rfl, hg1, hg2, hg3, hg4, rfl⟩ := trodVars_one hV
  obtain rfl : g = 0 := Option.some.inj (hg1.symm.trans gTab)
  obtain rfl : tv = 81 := Option.some.inj (hg2.symm.trans gTabType)
  have ltv : ∀ x ∈ pv, x.block < W.heap.size := DataW.trod_lt fuel _ _ _ hg4
  have hT := tab hL
  clear hA0
  refine (walk a0 len0 cap0 z0 a1 len1 cap1 z1 a2 len2 cap2 z2 W w0 w1 w2 hT).mono fun e W' ⟨he, bel⟩ => ?_
  subst he
  have hg4' := DataW.trod_stays (sp' := fun b => decide (b < W.heap.size)) (w' := W') (kids_book laidOut (by kernel_rfl)) (book_sized (by kernel_rfl)) (fun h => by cases h) ⟨of_decide_eq_true (by kernel_rfl), book_self 81⟩ hg4 (fun x hx => bel.same (ltv x hx)) (fun x hx => by simpa using ltv x hx)
  exact ⟨_, rfl, _, _, _, [], _, _, hW', trodAll_mk1 (shut_bool Tryd.underlying4 _), (trodAll_cons_mk (Below.trod laidOut (by kernel_rfl) (of_decide_eq_true (by kernel_rfl)) k0 bel lt0) (trodAll_cons_mk (Below.trod laidOut (by kernel_rfl) (of_decide_eq_true (by kernel_rfl)) k1 bel lt1) (trodAll_cons_mk (Below.trod laidOut (by kernel_rfl) (of_decide_eq_true (by kernel_rfl)) k2 bel lt2) trodAll_mk0))), trodVars_mk1 hg1 hg2 (var?_below bel hg1 hT.lt hg3) hg4', bel.frame _, fun h => by cases h⟩

/-- A world for the witness: the table holding what its initialiser lays. -/
noncomputable def laidWorld (os : Os) : World :=
  { World.holding Tryd.prog os ⟨#[], #[], []⟩ with heap := (World.holding Tryd.prog os ⟨#[], #[], []⟩).heap.modify 0 fun
      | .cells _ t frozen => .cells (tabZ.map fun z => Value.int .u64 z).toArray t frozen
      | o => o }
theorem laid_met (os : Os) : laidMet Tryd.prog Rows.fnPairsLieRow.laid ((laidWorld os).forCall (fun _ _ => 0) ⟨#[], #[.slice none 0 0, .slice none 0 0, .slice none 0 0], []⟩).memory :=
  laidMet_of_run' 8 (by kernel_rfl) (by kernel_rfl)
theorem reads (os : Os) {H : Type} (enc : TypeId × Value → H) : ∃ places, DataW.whole enc Tryd.prog ((laidWorld os).forCall (fun _ _ => 0) ⟨#[], #[.slice none 0 0, .slice none 0 0, .slice none 0 0], []⟩).memory Tryd.f5.params.toList Rows.fnPairsLieSpec.vars false (#[.slice none 0 0, .slice none 0 0, .slice none 0 0] : Array Value).toList 8 = some ([.nil, .nil, .nil], [Rows.laid_loop_example_pub_g01449_impl_classes], places) :=
  ⟨MemPlace.row ⟨0, 0, none⟩ 23, by kernel_rfl⟩

set_option maxRecDepth 100000 in
theorem lifted (os : Os) (started : os.Started) (H : Type) (enc : TypeId × Value → H) (F : Stop.Interp) :
    ReturnsInHanded {} Tryd.checked os 5 .any ((OpenSpec.ofChange Rows.fnPairsLieSpec).preRow enc Tryd.prog Tryd.f5 Rows.fnPairsLieRow.domain false Rows.fnPairsLieRow.laid) (((OpenSpec.ofChange Rows.fnPairsLieSpec).at F).post enc Tryd.prog Tryd.f5 false true false false) := by
  obtain ⟨places, hx⟩ := reads os enc
  refine returnsInHanded_of_row (C := Tryd.checked) (s := OpenSpec.ofChange Rows.fnPairsLieSpec) own started (by kernel_rfl) Tryd.func5
    (witness_row_at (enc := enc) (C := Tryd.checked) false (laidWorld os) #[.slice none 0 0, .slice none 0 0, .slice none 0 0] rfl (by kernel_rfl) (by kernel_rfl) (by kernel_rfl)
      (OpenSpec.preRow_of_cond 8 hx (by kernel_rfl) (fun k hk => by cases hk) (by kernel_rfl) (laid_met os))) ?_
  intro W base args ds gs before hval hW _ _ _ hL _ _
  exact contract H enc W base args ds gs before hval hW hL

theorem said : Rows.FnPairsLieSaid :=
  OpenClaim.holds_of_cond 5 Tryd.f5 rfl rfl rfl rfl rfl rfl rfl ⟨rfl, rfl, rfl, rfl, rfl⟩ rfl rfl rfl rfl rfl (by kernel_rfl) Tryd.func5 (by kernel_rfl)
    (of_decide_eq_true (by kernel_rfl)) (by unfold Func.isWrapper; first | (rw [if_pos (by decide +kernel)]; kernel_rfl) | (rw [if_neg (by decide +kernel)]; exact ⟨rfl, rfl⟩))
    (fun os started H enc _ F => by rw [OpenClaim.pre_eq_preRow]; exact lifted os started H enc F)

theorem plain (f : FuncId) (fn : Func) (hf : Tryd.pinned.checked.prog.funcNamed Rows.fnPairsLieRow.func = some f) (hfn : Tryd.pinned.checked.prog.funcs[f]? = some fn) :
    true = Tryd.pinned.checked.prog.looks [] ∧ ∀ (j : Nat) t, fn.params[j]? = some t → Tryd.pinned.checked.prog.wantsStandIn t = false := by
  obtain rfl : f = 5 := Option.some.inj ((show Tryd.prog.funcNamed Rows.fnPairsLieRow.func = some 5 by kernel_rfl).symm.trans hf) |>.symm
  obtain rfl : fn = Tryd.f5 := (Option.some.inj (Tryd.func5.symm.trans hfn)).symm
  refine ⟨by kernel_rfl, fun j t ht => ?_⟩
  rw [Tryd.params5] at ht
  obtain rfl : t = 22 := by simpa using Array.mem_of_getElem? ht
  exact (show Tryd.prog.wantsStandIn 22 = false by kernel_rfl)

/-- THE CARD. -/
theorem proved : Rows.FnPairsLieCardSaid :=
  Claim7.holds_tied_plain_at .later [] _ _ _ _ said (fun _ h => by cases h) (by kernel_rfl) (fun _ h => by cases h) fnPairsLie_row_tie rfl ⟨rfl, rfl⟩ (by kernel_rfl) rfl plain (by kernel_rfl)
#print axioms proved
end Go.Proofs.YtmaieenphcnefaaDoor.fnPairsLie
