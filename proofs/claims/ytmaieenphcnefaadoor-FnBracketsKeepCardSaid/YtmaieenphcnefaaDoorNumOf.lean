/- impl.numberOf, impl.numbersOf: classes back to their numbers. -/
import Derived.Test.YtmaieenphcnefaaDoorClsA
namespace Go.Proofs.YtmaieenphcnefaaDoor
open Go.RowKit

theorem wpList_load_as {P : Program} {ops : Array Oper} {rest : List Oper} {o : Oper} {a : Act} {w : World} {Q : Exit → Act → World → Prop} (hgd : o.guard = none) (ty : TypeId) (x : Operand) (ho : o.op = .load ty x)
    (p : Addr) (hx : a.eval x = .pointer (some p)) (v : Value) (hr : (loadVar ty p).run P w = .ok v w)
    (h : wpList P ops Q rest (a.put o.dst v) w) : wpList P ops Q (o :: rest) a w :=
  wpList_plain hgd fun _ hK => by
    unfold Oper.wp execOp
    simp only [ho, hx, Instr.loadAt, Instr.sureAddr, Sem.run_bind, Sem.run_pure, Result.andThen_ok, hr]
    exact hK _ _ h

/-- The table as one value. -/
def tabV : Array Value := ((List.range 23).map (fun i : Nat => Value.int .u64 (cls i))).toArray

theorem tabV_at {i : Nat} (hi : i < 23) : tabV[i]? = some (.int .u64 (cls i)) := by
  unfold tabV; simp [hi]

theorem tab_load {w : World} (ht : Tab w) : (loadVar 81 ⟨0, 0, none⟩).run Tryd.prog w = .ok (.agg tabV) w := by
  have hl : (loadCells ⟨0, 0, none⟩ ((List.range 23).map (fun i : Nat => Value.int .u64 (cls i))).length).run Tryd.prog w = .ok ((List.range 23).map (fun i : Nat => Value.int .u64 (cls i))).toArray w :=
    run_loadCells_list (P := Tryd.prog) w ⟨0, 0, none⟩ _ (fun j v hv => by
      have hadd : (⟨0, 0, none⟩ : Addr).add j = ⟨0, j, none⟩ := by unfold Addr.add; split <;> simp_all
      have hj : j < 23 := by
        rcases Nat.lt_or_ge j 23 with h | h
        · exact h
        · rw [List.getElem?_eq_none (by simpa using h)] at hv; cases hv
      have : v = .int .u64 (cls j) := by simpa [hj] using hv.symm
      rw [hadd, ht j hj, this])
  have hs : (Tryd.prog.info? 81).map (·.size) = some 23 := by kernel_rfl
  cases hq : Tryd.prog.info? 81 with
  | none => simp [hq] at hs
  | some i =>
    have hs' : i.size = 23 := by simpa [hq] using hs
    have hagg : (isAgg 81).run Tryd.prog w = .ok true w := by
      unfold isAgg
      rw [Sem.run_bind, run_underlying Tryd.underlying81 w]
      simp
    rw [List.length_map, List.length_range] at hl
    simp [loadVar, Sem.run_bind, hagg, sizeOf, typeInfo, hq, hs', hl, tabV]

theorem cls_inj {i j : Nat} (hi : i < 23) (hj : j < 23) (h : cls i = cls j) : i = j := by
  have key : ∀ m : Nat, m < 23 → cls m = if m ≤ 13 then (m : Int) else m + 2 := fun m hm => by
    unfold cls
    rw [if_neg (by omega)]
    by_cases h : m ≤ 13
    · rw [if_pos h, if_pos (by omega)]
    · rw [if_neg h, if_neg (by omega)]
  rw [key i hi, key j hj] at h
  split at h <;> split at h <;> omega

theorem index_at {T : Array Value} {q : Nat} {v : Value} (hq : q < 23) (hT : T[q]? = some v) (hs : (Tryd.prog.info? 56).map (fun i => (i.zero, i.size, i.bytes)) = some (some (.int .u64 0), 1, 8)) (hv : ∃ x, v = .int .u64 x) (w : World) :
    (Instr.index 81 (.agg T) (.int .i64 q)).run Tryd.prog w = .ok v w := by
  obtain ⟨x, rfl⟩ := hv
  obtain ⟨i, hi, h1, h2, h3⟩ := info_parts hs
  have hlt : (0 : Int) ≤ (q : Int) ∧ (q : Int) < 23 := by omega
  have hl2 : q < T.size := by
    rcases Nat.lt_or_ge q T.size with h | h
    · exact h
    · rw [Array.getElem?_eq_none h] at hT; cases hT
  simp [Instr.index, run_underlying Tryd.underlying81, asIntOf, hlt, go_sem, sizeOf, typeInfo, hi, h2, hT]
  intro h; omega

set_option maxHeartbeats 1000000 in
theorem numberOf_any (k : Nat) (hk : k < 23) (w : World) (ht : Tab w) : Calls Tryd.prog 42 #[.int .u64 (cls k)] w fun e w' => e = .returned (.int .i64 k) ∧ w = w' := by
  have hld := tab_load ht
  obtain ⟨v, hv⟩ : ∃ v, v = cls (k : Int) := ⟨_, rfl⟩
  rw [← hv]
  have HV := Lib.hid hv
  clear hv
  have hT : ∀ i, i < 23 → tabV[i]? = some (.int .u64 (cls i)) := fun i hi => tabV_at hi
  have hTs : tabV.size = 23 := rfl
  obtain ⟨T, hTe⟩ : ∃ T, T = tabV := ⟨_, rfl⟩
  rw [← hTe] at hld hT hTs
  have HT := Lib.hid hT
  clear hTe hT
  go_enter Tryd.func42, Tryd.ntmps42
  go_wp2_with (refine wpList_load_as rfl _ _ rfl ⟨0, 0, none⟩ rfl _ hld ?_)
  clear hld
  go_loop [3, 4, 6] (fun _ _ i => ∃ q : Nat, q ≤ k ∧ i = .int .i64 q) (fun _ _ i => 23 - (intOf i).toNat)
  case atStart => exact ⟨0, by omega, rfl⟩
  case round =>
    obtain ⟨q, hq, rfl⟩ := hrel
    have hq3 : (q : Int) < 23 := by omega
    have hcell := index_at (by omega) (HT.out q (by omega)) Tryd.infoClass ⟨_, rfl⟩
    by_cases e : q = k
    · subst e
      rw [← HV.out] at hcell
      go_wp2
      go_ret
      exact ⟨rfl, rfl⟩
    · have hne : (cls (q : Int) == v) = false := beq_eq_false_iff_ne.2 (fun h => e (cls_inj (by omega) hk (h.trans HV.out)))
      obtain ⟨u, hu⟩ : ∃ u, u = cls (q : Int) := ⟨_, rfl⟩
      rw [← hu] at hne hcell
      go_wp2
      go_round
      case rel => exact ⟨q + 1, by omega, by go_num⟩
      case measure => simp [intOf]; omega

set_option maxHeartbeats 400000 in
theorem numbersOf_any {ao : Option Addr} {b o n c : Nat} {x : Nat → Int} (w : World) (ht : Tab w) (hn : n ≤ 4294967296) (hok : ∀ i, i < n → clsOk (x i)) (hx : Sees w ao b o n c (fun i => .int .u64 (cls (x i)))) :
    Calls Tryd.prog 32 #[.slice ao n c] w (RetSees w n (fun i => .int .i64 (x i))) := by
  have HOK := Lib.hid hok
  clear hok
  go_enter Tryd.func32, Tryd.ntmps32
  go_wp2_with (at_make; refine wpList_make0 _ rfl _ _ 22 rfl w.heap.size 3 (.int .i64 0) 8 Tryd.underlying22 Tryd.infoInt (fun i => .int .i64 (x i)) n rfl rfl (by omega) hn (Nat.le_refl _) ?_)
  intro w1 hg1 hgr1
  have hs1 : w.Since w.heap.size w1 := (World.Since.refl _ _).grown hgr1 (Nat.le_refl _) (by simp)
  clear hgr1
  go_wp2
  go_loopg [3, 5, 11] n (fun g v _ i wr => ∃ k : Nat, k ≤ n ∧ g = n - k ∧ i = .int .i64 k ∧ Gr wr w.heap.size 3 v k (fun i => .int .i64 (x i)) ∧ w.Since w.heap.size wr)
  case atStart => exact ⟨0, by omega, rfl, rfl, hg1, hs1⟩
  case round =>
    obtain ⟨k, hk, rfl, rfl, hg, hs⟩ := hrel
    clear hg1 hs1
    by_cases hlt : k < n
    · obtain ⟨rfl, hc⟩ := hx.get hlt
      have hc' : wr.cell? ⟨b, o + k, none⟩ = some (.int .u64 (cls (x k))) := by rw [hs.cell (World.block_lt_of_cell? _ _ hc)]; exact hc
      have hsz : w.heap.size ≤ wr.heap.size := hs.size
      have htr := ht.since hs
      obtain ⟨o1, o2⟩ := HOK.out k hlt
      obtain ⟨m, hm⟩ := Int.eq_ofNat_of_zero_le o1
      have hm23 : m < 23 := by omega
      have HM := Lib.hid hm
      rw [hm] at hc'
      clear hc hm o1 o2
      go_wp2_with fail
      refine (numberOf_any m hm23 _ htr).mono ?_
      rintro e w3 ⟨rfl, rfl⟩
      go_wp2_with (at_builtin; refine wpList_push wr rfl _ _ 22 rfl w.heap.size 3 (.int .i64 0) 8 Tryd.underlying22 Tryd.infoInt rfl _ _ _ _ (by rfl) hg (by rfl) rfl (by omega) (by omega) hsz ?_)
      intro v' w2 hg2 hgr2 hat
      have hs2 : w.Since w.heap.size w2 := (hs.alloc hsz _).grown hgr2 (by simp; omega) (fun k hk => (hg.ge k hk).1)
      have hg3 := hg2.congr (g := fun i => .int .i64 (x i)) (fun i _ => by
        by_cases e : i = k
        · rw [if_pos e, e, HM.out]
        · rw [if_neg e])
      clear hg hs hc' hg2 hgr2 hat htr
      go_wp2
      go_roundg (n - (k + 1))
      case rel => exact ⟨k + 1, by omega, rfl, by go_num, hg3, hs2⟩
      case measure => omega
    · obtain rfl : k = n := by omega
      go_wp2
      go_ret
      exact hg.ret hs (Nat.le_refl _)

end Go.Proofs.YtmaieenphcnefaaDoor
