/- (*paragraph).Len, bidi.bare, (*paragraph).determineMatchingIsolates. -/
import Derived.Test.YtkocpijloiamcaaDoorGC
import Derived.Test.YtkocpijloiamcaaDoorGB
import Derived.StillTailTactics
import Derived.Deep.RegionWith
import Derived.Deep.DeepCutAuto
import Derived.Outline
namespace Go.Proofs.YtkocpijloiamcaaDoor
open Go.RowKit

/-- Initiators and PDIs of a text of classes. -/
def iniC (c : Nat → Int) (i : Nat) : Bool := memB [21, 22, 23] (c i)
def pdiC (c : Nat → Int) (i : Nat) : Bool := c i == 24

theorem len_any {p : Nat} {a0 : Option Addr} {n c0 : Nat} (w : World) (hc : w.cell? ⟨p, 0, none⟩ = some (.slice a0 n c0)) :
    Calls Tryd.prog 48 #[.pointer (some ⟨p, 0, none⟩)] w fun e w' => e = .returned (.int .i64 n) ∧ w = w' := by
  go_enter Tryd.func48, Tryd.ntmps48
  go_wp2
  go_ret
  exact ⟨rfl, rfl⟩

/-- What determineMatchingIsolates leaves. -/
structure Matched (w : World) (p n : Nat) (f0 f1 f2 f3 f4 f5 : Value) (c : Nat → Int) (w' : World) : Prop where
  para : w'.rowIs p 70 8 (pf f0 f1 f2 f3 f4 f5 (.slice (some ⟨w.heap.size, 0, none⟩) n n) (.slice (some ⟨w.heap.size + 1, 0, none⟩) n n))
  ends : w'.rowIs w.heap.size 3 n (fun i => .int .i64 (mt (iniC c) (pdiC c) n i))
  begins : w'.rowIs (w.heap.size + 1) 3 n (fun i => .int .i64 (bg (iniC c) (pdiC c) n n i))
  kept : Kp (fun k => k = p) w w'

/-- .. and what holds in its loops. -/
structure Dm (w : World) (p n : Nat) (f0 f1 f2 f3 f4 f5 : Value) (c : Nat → Int) (ao : Option Addr) (b o cc : Nat) (A B : Nat → Int) (w' : World) : Prop where
  para : w'.rowIs p 70 8 (pf f0 f1 f2 f3 f4 f5 (.slice (some ⟨w.heap.size, 0, none⟩) n n) (.slice (some ⟨w.heap.size + 1, 0, none⟩) n n))
  ends : w'.rowIs w.heap.size 3 n (fun i => .int .i64 (A i))
  begins : w'.rowIs (w.heap.size + 1) 3 n (fun i => .int .i64 (B i))
  sees : Sees w' ao b o n cc (fun i => .int .u64 (c i))
  kept : Kp (fun k => k = p) w w'

variable {w : World} {p n : Nat} {f0 f1 f2 f3 f4 f5 : Value} {c : Nat → Int} {ao : Option Addr} {b o cc : Nat} {A B : Nat → Int} {w' : World}

theorem Dm.alloc (h : Dm w p n f0 f1 f2 f3 f4 f5 c ao b o cc A B w') (x : Obj) : Dm w p n f0 f1 f2 f3 f4 f5 c ao b o cc A B (w'.alloc x) :=
  ⟨h.para.alloc x, h.ends.alloc x, h.begins.alloc x, h.sees.since ((World.Since.refl _ _).alloc (Nat.le_refl _) _), h.kept.alloc x⟩

theorem Dm.setEnd (h : Dm w p n f0 f1 f2 f3 f4 f5 c ao b o cc A B w') (hp : p < w.heap.size) (hb : 0 < n → b < w.heap.size) (i : Nat) (v : Int) {A' : Nat → Int} (hA : ∀ j, A' j = if j = i then v else A j) :
    Dm w p n f0 f1 f2 f3 f4 f5 c ao b o cc A' B (w'.setCell ⟨w.heap.size, i, none⟩ (.int .i64 v)) :=
  ⟨h.para.setOther (by show p ≠ w.heap.size; omega) _, (h.ends.set i _).congr (fun j _ => by rw [hA]; split <;> rfl), h.begins.setOther (by show w.heap.size + 1 ≠ w.heap.size; omega) _,
    h.sees.kept (fun h0 => Go.Deep.blk_setCell_other _ _ _ _ (by have := hb h0; show b ≠ w.heap.size; omega)), h.kept.setCell (.inr (Nat.le_refl _)) _⟩

theorem Dm.setBegin (h : Dm w p n f0 f1 f2 f3 f4 f5 c ao b o cc A B w') (hp : p < w.heap.size) (hb : 0 < n → b < w.heap.size) (i : Nat) (v : Int) {B' : Nat → Int} (hB : ∀ j, B' j = if j = i then v else B j) :
    Dm w p n f0 f1 f2 f3 f4 f5 c ao b o cc A B' (w'.setCell ⟨w.heap.size + 1, i, none⟩ (.int .i64 v)) :=
  ⟨h.para.setOther (by show p ≠ w.heap.size + 1; omega) _, h.ends.setOther (by show w.heap.size ≠ w.heap.size + 1; omega) _, (h.begins.set i _).congr (fun j _ => by rw [hB]; split <;> rfl),
    h.sees.kept (fun h0 => Go.Deep.blk_setCell_other _ _ _ _ (by have := hb h0; show b ≠ w.heap.size + 1; omega)), h.kept.setCell (.inr (Nat.le_succ _)) _⟩

theorem Dm.drew (h : Dm w p n f0 f1 f2 f3 f4 f5 c ao b o cc A B w') : Dm w p n f0 f1 f2 f3 f4 f5 c ao b o cc A B w'.drew :=
  ⟨h.para.drew, h.ends.drew, h.begins.drew, h.sees, h.kept.drew⟩

theorem Dm.congr (h : Dm w p n f0 f1 f2 f3 f4 f5 c ao b o cc A B w') {A' B' : Nat → Int} (hA : ∀ j, j < n → A j = A' j) (hB : ∀ j, j < n → B j = B' j) : Dm w p n f0 f1 f2 f3 f4 f5 c ao b o cc A' B' w' :=
  ⟨h.para, h.ends.congr (fun j hj => by rw [hA j hj]), h.begins.congr (fun j hj => by rw [hB j hj]), h.sees, h.kept⟩

/-- Behind the first k places; the others as yet 0. -/
def endsTo (c : Nat → Int) (n k i : Nat) : Int := if i < k then mt (iniC c) (pdiC c) n i else 0

theorem endsTo_step (c : Nat → Int) (n k : Nat) (v : Int) (hv : mt (iniC c) (pdiC c) n k = v) (j : Nat) : endsTo c n (k + 1) j = if j = k then v else endsTo c n k j := by
  unfold endsTo
  by_cases e : j = k
  · subst e; rw [if_pos (by omega), if_pos rfl, hv]
  · rw [if_neg e]
    by_cases h : j < k
    · rw [if_pos h, if_pos (by omega)]
    · rw [if_neg h, if_neg (by omega)]

theorem ite_over (j m : Nat) (a b x : Int) : (if j = m then a else x) = if j = m then a else (if j = m then b else x) := by
  by_cases e : j = m
  · rw [if_pos e, if_pos e]
  · rw [if_neg e, if_neg e, if_neg e]

set_option maxHeartbeats 4000000 in
set_option maxRecDepth 100000 in
theorem dmi_any {a0 : Option Addr} {c0 : Nat} {f6 f7 : Value} (w : World) (hn : n ≤ 8589934592) (hp : w.rowIs p 70 8 (pf (.slice a0 n c0) f1 f2 f3 (.slice ao n cc) f5 f6 f7))
    (hx : Sees w ao b o n cc (fun i => .int .u64 (c i))) (hb : 0 < n → b ≠ p) :
    Calls Tryd.prog 46 #[.pointer (some ⟨p, 0, none⟩)] w fun e w' => e = .returned (.tuple #[]) ∧ Matched w p n (.slice a0 n c0) f1 f2 f3 (.slice ao n cc) f5 c w' := by
  have hmk := run_make_row' (P := Tryd.prog) 22 3 (.int .i64 0) 8 Tryd.underlying22 Tryd.infoInt rfl .i64 .i64 n (by omega) (by omega)
  have hplt := hp.lt
  have hblt : 0 < n → b < w.heap.size := fun h => hx.lt h
  have k0 : w.cell? ⟨p, 0, none⟩ = some (.slice a0 n c0) := hp.cell (by omega)
  go_enter Tryd.func46, Tryd.ntmps46
  go_upto_region 0 with fail
  go_cut [] (fun wx => wx.heap.size = w.heap.size + 1 ∧ wx.rowIs p 70 8 (pf (.slice a0 n c0) f1 f2 f3 (.slice ao n cc) f5 (.slice (some ⟨w.heap.size, 0, none⟩) n n) f7) ∧
    wx.rowIs w.heap.size 3 n (fun _ => .int .i64 0) ∧ Sees wx ao b o n cc (fun i => .int .u64 (c i)) ∧ Kp (fun k => k = p) w wx)
  case first =>
    go_wp2_with fail
    refine (len_any _ k0).mono ?_
    rintro e w1 ⟨rfl, rfl⟩
    have k6 : (w.alloc (.cells (madeCells #[.int .i64 0] n) 3)).cell? ⟨p, 6, none⟩ = some f6 := (hp.alloc _).cell (by omega)
    have z6 := (hp.alloc (.cells (madeCells #[.int .i64 0] n) 3)).frozen 6
    go_wp2_with fail
    go_meet
    have r1 := World.rowIs_made (w.setCell ⟨p, 6, none⟩ (.slice (some ⟨w.heap.size, 0, none⟩) n n)) (.int .i64 0) n 3
    rw [World.size_setCell] at r1
    exact ⟨by simp, (pf_set6 hp _).alloc _, r1, ((hx.kept (fun h0 => Go.Deep.blk_setCell_other _ _ _ _ (hb h0))).since ((World.Since.refl _ _).alloc (Nat.le_refl _) _)), ((Kp.refl (fun k => k = p) w).setCell (a := ⟨p, 6, none⟩) (.inl rfl) _).alloc _⟩
  case rest =>
    obtain ⟨hz1, hp1, hr1, hx1, hk1⟩ := hcut
    have Hz1 := Lib.hid hz1
    clear hz1 hp hx k0 hmk
    go_upto_region 1 with fail
    go_cut [] (fun wx => Dm w p n (.slice a0 n c0) f1 f2 f3 (.slice ao n cc) f5 c ao b o cc (fun _ => 0) (fun _ => 0) wx)
    case first =>
      have hmk := run_make_row' (P := Tryd.prog) 22 3 (.int .i64 0) 8 Tryd.underlying22 Tryd.infoInt rfl .i64 .i64 n (by omega) (by omega)
      have k0 : wc.cell? ⟨p, 0, none⟩ = some (.slice a0 n c0) := hp1.cell (by omega)
      go_wp2_with fail
      refine (len_any _ k0).mono ?_
      rintro e w1 ⟨rfl, rfl⟩
      have k7 : (wc.alloc (.cells (madeCells #[.int .i64 0] n) 3)).cell? ⟨p, 7, none⟩ = some f7 := (hp1.alloc _).cell (by omega)
      have z7 := (hp1.alloc (.cells (madeCells #[.int .i64 0] n) 3)).frozen 7
      have hpc : p < wc.heap.size := hp1.lt
      go_wp2_with fail
      go_meet
      have r1 := World.rowIs_made (wc.setCell ⟨p, 7, none⟩ (.slice (some ⟨wc.heap.size, 0, none⟩) n n)) (.int .i64 0) n 3
      have p1 := (pf_set7 hp1 (.slice (some ⟨wc.heap.size, 0, none⟩) n n)).alloc (.cells (madeCells #[.int .i64 0] n) 3)
      rw [World.size_setCell, Hz1.out] at r1
      rw [Hz1.out] at p1
      rw [Hz1.out]
      exact ⟨p1, (hr1.setOther (by show w.heap.size ≠ p; omega) _).alloc _, r1, ((hx1.kept (fun h0 => Go.Deep.blk_setCell_other _ _ _ _ (hb h0))).since ((World.Since.refl _ _).alloc (Nat.le_refl _) _)), (hk1.setCell (a := ⟨p, 7, none⟩) (.inl rfl) _).alloc _⟩
    case rest =>
      clear hp1 hr1 hx1 hk1 Hz1
      have k7 : wc.cell? ⟨p, 7, none⟩ = some (.slice (some ⟨w.heap.size + 1, 0, none⟩) n n) := hcut.para.cell (by omega)
      go_wp2
      -- all begins are -1
      go_loopg [2, 25] n (fun g _ i wr => ∃ k : Nat, k ≤ n ∧ g = n - k ∧ i = .int .i64 k ∧ Dm w p n (.slice a0 n c0) f1 f2 f3 (.slice ao n cc) f5 c ao b o cc (fun _ => 0) (fun j => if j < k then -1 else 0) wr)
      case atStart => exact ⟨0, by omega, rfl, rfl, hcut.congr (fun _ _ => rfl) (fun j _ => by simp)⟩
      case round =>
        obtain ⟨k, hk, rfl, rfl, hD⟩ := hrel
        clear hcut k7
        have k7 : wr.cell? ⟨p, 7, none⟩ = some (.slice (some ⟨w.heap.size + 1, 0, none⟩) n n) := hD.para.cell (by omega)
        by_cases hlt : k < n
        · have g1 := hD.begins.cell hlt
          have g2 := hD.begins.frozen k
          have R := hD.setBegin hplt hblt k (-1) (B' := fun j => if j < k + 1 then -1 else 0) (fun j => by
            by_cases e : j = k
            · subst e; simp
            · by_cases h1 : j < k
              · rw [if_neg e, if_pos h1, if_pos (by omega)]
              · rw [if_neg e, if_neg h1, if_neg (by omega)])
          rw [if_neg (by omega)] at g1
          clear hD
          go_wp2
          go_roundg (n - (k + 1))
          case rel => exact ⟨k + 1, by omega, rfl, by go_num, R⟩
          case measure => omega
        · obtain rfl : k = n := by omega
          have hD2 := hD.congr (A' := endsTo c k 0) (B' := bg (iniC c) (pdiC c) k 0) (fun j _ => by simp [endsTo]) (fun j hj => by rw [if_pos hj]; rfl)
          have k6 : wr.cell? ⟨p, 6, none⟩ = some (.slice (some ⟨w.heap.size, 0, none⟩) k k) := hD.para.cell (by omega)
          clear hD k7
          go_wp2
          clear k6
          go_loopg [3, 4, 5, 6, 7, 40] k (fun g _ _ _ _ _ i wr => ∃ m : Nat, m ≤ k ∧ g = k - m ∧ i = .int .i64 m ∧ Dm w p k (.slice a0 k c0) f1 f2 f3 (.slice ao k cc) f5 c ao b o cc (endsTo c k m) (bg (iniC c) (pdiC c) k m) wr)
          case atStart => exact ⟨0, by omega, rfl, rfl, hD2⟩
          case round =>
            obtain ⟨m, hm, rfl, rfl, hD⟩ := hrel
            clear hD2
            by_cases hmk : m < k
            · have hmz : (m : Int) < (k : Int) := by omega
              -- ends[m] = -1, the class
              have k6 : wr.cell? ⟨p, 6, none⟩ = some (.slice (some ⟨w.heap.size, 0, none⟩) k k) := hD.para.cell (by omega)
              have g1 := hD.ends.cell hmk
              have g2 := hD.ends.frozen m
              have D1 := hD.setEnd hplt hblt m (-1) (A' := fun j => if j = m then -1 else endsTo c k m j) (fun j => rfl)
              go_upto_region 10 with fail
              go_cut [] (fun wx => Dm w p k (.slice a0 k c0) f1 f2 f3 (.slice ao k cc) f5 c ao b o cc (fun j => if j = m then -1 else endsTo c k m j) (bg (iniC c) (pdiC c) k m) wx)
              case first =>
                go_wp2_with fail
                go_meet
                exact D1
              case rest =>
                clear D1 g1 g2 k6 hD
                have k4 : wc.cell? ⟨p, 4, none⟩ = some (.slice ao k cc) := hcut.para.cell (by omega)
                obtain ⟨rfl, hcm⟩ := hcut.sees.get hmk
                have D2 := hcut.alloc (.cells #[.int .u64 21, .int .u64 22, .int .u64 23] 67)
                have hh := heap_alloc_new wc (.cells #[.int .u64 21, .int .u64 22, .int .u64 23] 67)
                go_wp2_with fail
                refine (in_any [21, 22, 23] (c m) _ (by decide) hh).mono ?_
                rintro e w2 ⟨rfl, rfl⟩
                clear hh hcm k4 hcut
                by_cases hini : memB [21, 22, 23] (c m) = true
                · -- an initiator: scan
                  have HI := Lib.hid hini
                  go_wp2_with fail
                  clear hini
                  go_loopg [5, 6, 7] (k - (m + 1)) (fun g d j _ wr => ∃ q e : Nat, m + 1 ≤ q ∧ q ≤ k ∧ g = k - q ∧ 1 ≤ e ∧ e ≤ q ∧ d = .int .i64 e ∧ j = .int .i64 q ∧ Hid (mat (iniC c) (pdiC c) k m = scan (iniC c) (pdiC c) k (k - q) q e) ∧
                    Dm w p k (.slice a0 k c0) f1 f2 f3 (.slice (some ⟨b, o, none⟩) k cc) f5 c (some ⟨b, o, none⟩) b o cc (fun j => if j = m then -1 else endsTo c k m j) (bg (iniC c) (pdiC c) k m) wr)
                  case atStart => exact ⟨m + 1, 1, by omega, by omega, rfl, by omega, by omega, rfl, by go_num, rfl, D2⟩
                  case round =>
                    obtain ⟨q, e, hq1, hq2, rfl, he1, he2, rfl, rfl, hmat, hD⟩ := hrel
                    clear D2
                    have k0 : wr.cell? ⟨p, 0, none⟩ = some (.slice a0 k c0) := hD.para.cell (by omega)
                    by_cases hqk : q < k
                    · have hqz : (q : Int) < (k : Int) := by omega
                      have k4 : wr.cell? ⟨p, 4, none⟩ = some (.slice (some ⟨b, o, none⟩) k cc) := hD.para.cell (by omega)
                      obtain ⟨_, hcq⟩ := hD.sees.get hqk
                      go_wp2_with fail
                      refine (len_any _ k0).mono ?_
                      rintro ee w2 ⟨rfl, rfl⟩
                      have D3 := hD.alloc (.cells #[.int .u64 21, .int .u64 22, .int .u64 23] 67)
                      have hh := heap_alloc_new wr (.cells #[.int .u64 21, .int .u64 22, .int .u64 23] 67)
                      go_wp2_with fail
                      refine (in_any [21, 22, 23] (c q) _ (by decide) hh).mono ?_
                      rintro ee w2 ⟨rfl, rfl⟩
                      have hf : k - q = (k - (q + 1)) + 1 := by omega
                      have hm2 := hmat.out
                      rw [hf] at hm2
                      clear hh hcq k4 k0 hD hf hmat
                      by_cases hi : memB [21, 22, 23] (c q) = true
                      · have hm3 := hm2.trans (scan_ini (ini := iniC c) hi)
                        have HM3 := Lib.hid hm3
                        clear hm2 hm3
                        go_wp2_with fail
                        go_roundg (k - (q + 1))
                        case rel => exact ⟨q + 1, e + 1, by omega, by omega, rfl, by omega, by omega, by go_num, by go_num, HM3, D3⟩
                        case measure => omega
                      · have hi' : memB [21, 22, 23] (c q) = false := by simpa using hi
                        clear hi
                        by_cases hpd : (c q == 24) = true
                        · by_cases he : e = 1
                          · -- found
                            subst he
                            have hm3 : mat (iniC c) (pdiC c) k m = q := hm2.trans (scan_hit (ini := iniC c) hi' hpd)
                            have HM3 := Lib.hid hm3
                            clear hm2 hm3
                            have k6 : (wr.alloc (.cells #[.int .u64 21, .int .u64 22, .int .u64 23] 67)).cell? ⟨p, 6, none⟩ = some (.slice (some ⟨w.heap.size, 0, none⟩) k k) := D3.para.cell (by omega)
                            have g1 := D3.ends.cell (show m < k by omega)
                            have g2 := D3.ends.frozen m
                            go_upto_region 23 with fail
                            go_cut [] (fun wx => Dm w p k (.slice a0 k c0) f1 f2 f3 (.slice (some ⟨b, o, none⟩) k cc) f5 c (some ⟨b, o, none⟩) b o cc (fun j => if j = m then (q : Int) else endsTo c k m j) (bg (iniC c) (pdiC c) k m) wx)
                            case first =>
                              have D4 := D3.setEnd hplt hblt m (q : Int) (A' := fun j => if j = m then (q : Int) else endsTo c k m j) (fun j => ite_over _ _ _ _ _)
                              go_wp2_with fail
                              go_meet
                              exact D4
                            case rest =>
                              clear D3 k6 g1 g2
                              have hc1 := hcut
                              clear hcut
                              have k7 : wc.cell? ⟨p, 7, none⟩ = some (.slice (some ⟨w.heap.size + 1, 0, none⟩) k k) := hc1.para.cell (by omega)
                              have g1 := hc1.begins.cell hqk
                              have g2 := hc1.begins.frozen q
                              have D5 := (hc1.setBegin hplt hblt q (m : Int) (B' := bg (iniC c) (pdiC c) k (m + 1)) (fun j => bg_hit HI.out HM3.out hqk j)).congr (A' := endsTo c k (m + 1)) (B' := bg (iniC c) (pdiC c) k (m + 1)) (fun j _ => by rw [endsTo_step c k m (q : Int) (by rw [mt_ini HI.out, HM3.out])]) (fun _ _ => rfl)
                              obtain ⟨old, hold⟩ : ∃ old : Int, wc.cell? ⟨w.heap.size + 1, q, none⟩ = some (.int .i64 old) := ⟨_, g1⟩
                              go_upto_region 24 with fail
                              go_cut [] (fun wx => Dm w p k (.slice a0 k c0) f1 f2 f3 (.slice (some ⟨b, o, none⟩) k cc) f5 c (some ⟨b, o, none⟩) b o cc (endsTo c k (m + 1)) (bg (iniC c) (pdiC c) k (m + 1)) wx)
                              case first =>
                                clear g1
                                go_wp2_with fail
                                go_meet
                                exact D5
                              case rest =>
                                clear D5 hc1 k7 g1 g2 hold
                                have k6 : wc.cell? ⟨p, 6, none⟩ = some (.slice (some ⟨w.heap.size, 0, none⟩) k k) := hcut.para.cell (by omega)
                                have g1 := hcut.ends.cell hmk
                                rw [endsTo_step c k m (q : Int) (by rw [mt_ini HI.out, HM3.out]), if_pos rfl] at g1
                                have hz : ((q : Int) == -1) = false := beq_eq_false_iff_ne.2 (by omega)
                                go_wp2_with fail
                                go_roundg (k - (m + 1))
                                case rel => exact ⟨m + 1, by omega, rfl, by go_num, hcut⟩
                                case measure => omega
                          · have hm3 := hm2.trans (scan_pdi (ini := iniC c) hi' hpd he)
                            have HM3 := Lib.hid hm3
                            have hz : ((e : Int) - 1 == 0) = false := by simp; omega
                            clear hm2 hm3
                            go_wp2_with fail
                            go_roundg (k - (q + 1))
                            case rel => exact ⟨q + 1, e - 1, by omega, by omega, rfl, by omega, by omega, by go_num, by go_num, HM3, D3⟩
                            case measure => omega
                        · have hpd' : (c q == 24) = false := by simpa using hpd
                          have hm3 := hm2.trans (scan_other (ini := iniC c) hi' hpd')
                          have HM3 := Lib.hid hm3
                          clear hm2 hm3 hpd
                          go_wp2_with fail
                          go_roundg (k - (q + 1))
                          case rel => exact ⟨q + 1, e, by omega, by omega, rfl, by omega, by omega, rfl, by go_num, HM3, D3⟩
                          case measure => omega
                    · obtain rfl : q = k := by omega
                      have hm2 := hmat.out
                      rw [Nat.sub_self] at hm2
                      have hm3 : mat (iniC c) (pdiC c) q m = q := hm2
                      have HM3 := Lib.hid hm3
                      clear hm2 hm3 hmat
                      have k6 : wr.cell? ⟨p, 6, none⟩ = some (.slice (some ⟨w.heap.size, 0, none⟩) q q) := hD.para.cell (by omega)
                      have g1 := hD.ends.cell (show m < q by omega)
                      have g2 := hD.ends.frozen m
                      rw [if_pos rfl] at g1
                      have R := (hD.setEnd hplt hblt m (q : Int) (A' := endsTo c q (m + 1)) (fun j => by rw [endsTo_step c q m (q : Int) (by rw [mt_ini HI.out, HM3.out])]; exact ite_over _ _ _ _ _)).congr (A' := endsTo c q (m + 1)) (B' := bg (iniC c) (pdiC c) q (m + 1)) (fun _ _ => rfl) (fun j _ => by rw [bg_none HM3.out])
                      go_wp2_with fail
                      refine (len_any _ k0).mono ?_
                      rintro ee w2 ⟨rfl, rfl⟩
                      go_wp2_with fail
                      go_region_with (go_at_call 48; refine (len_any _ (by exact k0)).mono ?_; rintro ee w2 ⟨rfl, rfl⟩)
                      all_goals
                        go_wp2_with fail
                        go_roundg (q - (m + 1))
                        case rel => exact ⟨m + 1, by omega, rfl, by go_num, R.drew⟩
                        case measure => omega
                · have hini' : memB [21, 22, 23] (c m) = false := by simpa using hini
                  clear hini
                  have R := D2.congr (A' := endsTo c k (m + 1)) (B' := bg (iniC c) (pdiC c) k (m + 1)) (fun j _ => by rw [endsTo_step c k m (-1) (mt_not hini')]) (fun j _ => by rw [bg_not hini'])
                  clear D2
                  go_wp2_with fail
                  go_roundg (k - (m + 1))
                  case rel => exact ⟨m + 1, by omega, rfl, by go_num, R⟩
                  case measure => omega
            · obtain rfl : m = k := by omega
              have R := hD.congr (A' := mt (iniC c) (pdiC c) m) (B' := bg (iniC c) (pdiC c) m m) (fun j hj => by unfold endsTo; rw [if_pos hj]) (fun _ _ => rfl)
              clear hD
              go_wp2_with fail
              go_end0
              exact ⟨rfl, R.para, R.ends, R.begins, R.kept⟩
end Go.Proofs.YtkocpijloiamcaaDoor
