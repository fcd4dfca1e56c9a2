/- impl.Resolve, whose levels can be written to. -/
import Derived.Test.YtkocpijloiamcaaGreatDoorRsv
import Derived.Deep.LoopGhost
namespace Go.Proofs.YtkocpijloiamcaaGreatDoor
open Go.RowKit
set_option linter.unusedVariables false
set_option linter.unusedSimpArgs false

def RetW (w : World) (N : Nat) (f h : Nat → Value) (lv : Value) (e : Ending) (w' : World) : Prop :=
  ∃ a b o c a2 c2, e = .returned (.tuple #[.slice a N c, .slice a2 N c2, lv, .bool true]) ∧ Sees w' a b o N c f ∧ Gr w' w.heap.size 3 (.slice a2 N c2) N h ∧ w.Since w.heap.size w'

set_option maxHeartbeats 400000 in
/-- int8 as int. -/
theorem largeOf_gr {ao : Option Addr} {b o n c : Nat} {x : Nat → Int} (w : World) (hn : n ≤ 8589934592) (hx : Sees w ao b o n c (fun i => .int .i8 (x i))) (hr : ∀ i, i < n → -128 ≤ x i ∧ x i ≤ 127) :
    Calls Tryz.prog 23 #[.slice ao n c] w (RetGr 3 w n (fun i => .int .i64 (x i))) := by
  have HR := Lib.hid hr
  clear hr
  go_enter Tryz.func23, Tryz.ntmps23
  go_wp2_with (at_make; refine wpList_make0 _ rfl _ _ 22 rfl w.heap.size 3 (.int .i64 0) 8 Tryz.underlying22 Tryz.infoInt (fun i => .int .i64 (x i)) n rfl rfl (by omega) hn (Nat.le_refl _) ?_)
  intro w1 hg1 hgr1
  have hs1 : w.Since w.heap.size w1 := (World.Since.refl _ _).grown hgr1 (Nat.le_refl _) (by simp)
  clear hgr1
  go_wp2
  go_loopg [3, 5, 11] n (fun g v _ i wr => ∃ k : Nat, k ≤ n ∧ g = n - k ∧ i = .int .i64 k ∧ Gr wr w.heap.size 3 v k (fun i => .int .i64 (x i)) ∧ w.Since w.heap.size wr)
  case atStart => exact ⟨0, by omega, rfl, rfl, hg1, hs1⟩
  case round =>
    obtain ⟨k, hk, rfl, rfl, hg, hs⟩ := hrel
    clear hg1 hs1
    by_cases hlt : k < n
    · obtain ⟨rfl, hc⟩ := hx.get hlt
      have hc' : wr.cell? ⟨b, o + k, none⟩ = some (.int .i8 (x k)) := by rw [hs.cell (World.block_lt_of_cell? _ _ hc)]; exact hc
      have hsz : w.heap.size ≤ wr.heap.size := hs.size
      obtain ⟨r0, r1⟩ := HR.out k hlt
      clear hc
      go_wp2_with (at_builtin; go_must (refine wpList_push wr rfl _ _ 22 rfl w.heap.size 3 (.int .i64 0) 8 Tryz.underlying22 Tryz.infoInt rfl _ _ _ _ (by rfl) hg (by rfl) rfl (by omega) (by omega) hsz ?_))
      intro v' w2 hg2 hgr2 hat
      have hs2 : w.Since w.heap.size w2 := (hs.alloc hsz _).grown hgr2 (by simp; omega) (fun k hk => (hg.ge k hk).1)
      have hg3 := hg2.congr (g := fun i => .int .i64 (x i)) (fun i _ => by split <;> simp_all)
      clear hg hs hc' hg2 hgr2 hat hx
      go_wp2
      go_roundg (n - (k + 1))
      case rel => exact ⟨k + 1, by omega, rfl, by go_num, hg3, hs2⟩
      case measure => omega
    · obtain rfl : k = n := by omega
      go_wp2
      go_ret
      exact hg.ret' hs

set_option maxHeartbeats 8000000 in
set_option maxRecDepth 100000 in
theorem implResolve_gr {ao ak av : Option Addr} {b o c bk' ok ck bv ov cv N : Nat} {g : Int} {x kd vl : Nat → Int} (w : World) (ht : Tab w) (hN : N ≤ 8589934592) (hNB : N ≤ 2147483647 ∨ ∀ j, j < N → kd j = 0) (h0 : 0 < N) (hg : g = -1 ∨ g = 0 ∨ g = 1) (hok : ∀ i, i < N → clsOk (x i)) (hB7 : ∀ i, i < N → x i = 7 → N ≤ i + 1)
    (hkd : ∀ j, j < N → kd j = 0 ∨ kd j = 1 ∨ kd j = 2) (hvl : ∀ j, j < N → 0 ≤ vl j ∧ vl j ≤ 1114111) (hx : Sees w ao b o N c (fun i => .int .i64 (x i))) (hk : Sees w ak bk' ok N ck (fun i => .int .i64 (kd i))) (hv : Sees w av bv ov N cv (fun i => .int .i64 (vl i))) :
    Calls Tryz.prog 10 #[.slice ao N c, .slice ak N ck, .slice av N cv, .int .i64 g] w fun e w' => ∃ ft fl, Done x kd vl (baseP x N g) N ft fl ∧ RetW w N (fun i => .int .i64 (nmb (ft i))) (fun i => .int .i64 (fl i)) (.int .i64 (baseP x N g)) e w' := by
  have HOK := Lib.hid hok
  have HB7 := Lib.hid hB7
  have HKD := Lib.hid hkd
  have HVL := Lib.hid hvl
  have HG := Lib.hid hg
  have hgw : IntKind.i8.wrap g = g := by rcases hg with rfl | rfl | rfl <;> decide
  have HNB := Lib.hid hNB
  clear hok hB7 hkd hvl hg hNB
  go_enter Tryz.func10, Tryz.ntmps10
  go_wp2_with fail
  refine (classesOf_any _ ht (by omega) hx).mono ?_
  rintro e w1 ⟨a1, b1, o1, c1, rfl, hx1, hb1, hs1⟩
  have ht1 := ht.since hs1
  have hk1 := hk.since hs1
  have hv1 := hv.since hs1
  have HS1 := Lib.hid hs1
  clear ht hx hk hv hs1
  go_wp2_with fail
  refine (bytesOf_any _ (by omega) hk1).mono ?_
  rintro e w2 ⟨a2, b2, o2, c2, rfl, hk2, hb2, hs2⟩
  have ht2 := ht1.since hs2
  have hx2 := hx1.since hs2
  have hv2 := hv1.since hs2
  have hk2' : Sees w2 a2 b2 o2 N c2 (fun i => .int .u8 (kd i)) := hk2.congr (fun i hi => by rw [wrap_u8 (HKD.out i hi)])
  have HS2 := Lib.hid (since2 HS1.out hs2)
  clear ht1 hx1 hk1 hv1 hs2 hk2
  go_wp2_with fail
  refine (runesOf_any _ (by omega) hv2).mono ?_
  rintro e w3 ⟨a3, b3, o3, c3, rfl, hv3, hb3, hs3⟩
  have ht3 := ht2.since hs3
  have hx3 := hx2.since hs3
  have hk3 := hk2'.since hs3
  have hv3' : Sees w3 a3 b3 o3 N c3 (fun i => .int .i32 (vl i)) := hv3.congr (fun i hi => by rw [wrap_i32 (HVL.out i hi).1 (HVL.out i hi).2])
  have HS3 := Lib.hid (since2 HS2.out hs3)
  have HRS := Lib.hid (bidiResolve_any (x := x) (kd := kd) (vl := vl) w3 hN HNB.out h0 HG.out HOK.out HB7.out HKD.out hx3 hk3 hv3')
  clear ht2 hx2 hv2 hk2' hs3 hv3 hx3 hk3 hv3'
  go_wp2_with fail
  refine HRS.out.mono ?_
  rintro e w4 ⟨ft, fl, hD, a4, b4, o4, c4, a5, b5, o5, c5, rfl, hT, hL, hb4, hb5, hs4⟩
  have ht4 := ht3.since hs4
  have hrg := hD.range (baseP_or HG.out) HB7.out HOK.out
  have HT : Sees w4 a4 b4 o4 N c4 (fun i => .int .u64 (cls (nmb (ft i)))) := hT.congr (fun i hi => by
    obtain ⟨⟨y, hy, e⟩, _⟩ := hrg i hi
    rw [e, nmb_cls hy])
  have hokn : ∀ i, i < N → clsOk (nmb (ft i)) := fun i hi => by
    obtain ⟨⟨y, hy, e⟩, _⟩ := hrg i hi
    rw [e, nmb_cls hy]; exact hy
  have hfr : ∀ i, i < N → -128 ≤ fl i ∧ fl i ≤ 127 := fun i hi => by
    have := (hrg i hi).2
    have := baseP_or (x := x) (N := N) HG.out
    omega
  have HS4 := Lib.hid (since2 HS3.out hs4)
  have HD := Lib.hid hD
  have HBO := Lib.hid (baseP_or (x := x) (N := N) HG.out)
  obtain ⟨BV, hBV⟩ : ∃ BV, BV = baseP x N g := ⟨_, rfl⟩
  have HBV := Lib.hid hBV
  rw [← hBV]
  rw [← hBV] at HBO
  have hbw : IntKind.i64.wrap BV = BV := by rcases HBO.out with h | h <;> rw [h] <;> decide
  clear ht3 hs4 hD hrg hT HRS hBV
  go_wp2_with fail
  refine (numbersOf_any _ ht4 (by omega) hokn HT).mono ?_
  rintro e w5 ⟨a6, b6, o6, c6, rfl, hn5, hb6, hs5⟩
  have hL5 := hL.since hs5
  have HS5 := Lib.hid (since2 HS4.out hs5)
  clear ht4 hL hs5 HT hokn
  go_wp2_with fail
  refine (largeOf_gr _ (by omega) hL5 hfr).mono ?_
  rintro e w6 ⟨a7, c7, rfl, hn6, hs6⟩
  have HN := Lib.hid (hn5.since hs6)
  have HS6 := Lib.hid (since2 HS5.out hs6)
  have HZ4 := HS4.out.size
  have HZ5 := HS5.out.size
  clear hL5 hn5 hs6 hfr
  go_wp2_with fail
  (try simp only [Exit.inBlock, Exit.then])
  refine bodyPost_ret (results_tmp4 rfl _ _ _) rfl ?_
  rw [← HBV.out]
  exact ⟨ft, fl, by rw [HBV.out]; exact HD.out, a6, b6, o6, c6, a7, c7, rfl, HN.out, hn6.base (by omega), HS6.out⟩

end Go.Proofs.YtkocpijloiamcaaGreatDoor
