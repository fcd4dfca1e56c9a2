/- spec.IsRemoved, bidi.isRemovedByX9. -/
import Derived.Test.YtkocpijloiamcaaDoorGA
import Derived.Test.YtkocpijloiamcaaDoorGB
import Derived.Lib.Hide
import Derived.Deep.LoopGhost
import Derived.Deep.QuietTactic
import Derived.BigQuiet
namespace Go.Proofs.YtkocpijloiamcaaDoor
open Go.RowKit

theorem isRemoved_any (n : Int) (w : World) : Calls Tryd.prog 17 #[.int .i64 n] w fun e w' => e = .returned (.bool (remN n)) ∧ w = w' := by
  by_cases h0 : n = 14
  · subst h0
    go_enter Tryd.func17, Tryd.ntmps17
    go_wp2
    go_ret
    exact ⟨rfl, rfl⟩
  have b0 : (n == 14) = false := beq_eq_false_iff_ne.2 h0
  by_cases h1 : n = 15
  · subst h1
    go_enter Tryd.func17, Tryd.ntmps17
    go_wp2
    go_ret
    exact ⟨rfl, rfl⟩
  have b1 : (n == 15) = false := beq_eq_false_iff_ne.2 h1
  by_cases h2 : n = 16
  · subst h2
    go_enter Tryd.func17, Tryd.ntmps17
    go_wp2
    go_ret
    exact ⟨rfl, rfl⟩
  have b2 : (n == 16) = false := beq_eq_false_iff_ne.2 h2
  by_cases h3 : n = 17
  · subst h3
    go_enter Tryd.func17, Tryd.ntmps17
    go_wp2
    go_ret
    exact ⟨rfl, rfl⟩
  have b3 : (n == 17) = false := beq_eq_false_iff_ne.2 h3
  by_cases h4 : n = 18
  · subst h4
    go_enter Tryd.func17, Tryd.ntmps17
    go_wp2
    go_ret
    exact ⟨rfl, rfl⟩
  have b4 : (n == 18) = false := beq_eq_false_iff_ne.2 h4
  by_cases h5 : n = 11
  · subst h5
    go_enter Tryd.func17, Tryd.ntmps17
    go_wp2
    go_ret
    exact ⟨rfl, rfl⟩
  have b5 : (n == 11) = false := beq_eq_false_iff_ne.2 h5
  have HN := Lib.hid (show remN n = false by unfold remN; rw [decide_eq_false_iff_not]; omega)
  clear h0 h1 h2 h3 h4 h5
  go_enter Tryd.func17, Tryd.ntmps17
  go_wp2
  go_ret
  exact ⟨ret_bool HN.out.symm, rfl⟩

/-- Of a class's value. -/
def remC (c : Int) : Bool := decide (c = 16 ∨ c = 17 ∨ c = 18 ∨ c = 19 ∨ c = 20 ∨ c = 11)
theorem remC_cls {t : Int} (h : clsOk t) : remC (cls t) = remN t := by
  unfold clsOk at h
  have : cls t = if t ≤ 13 then t else t + 2 := by unfold cls; rw [if_neg (by omega)]
  rw [this]
  unfold remC remN
  rw [Bool.eq_iff_iff, decide_eq_true_eq, decide_eq_true_eq]
  split <;> omega

theorem isRemovedC_any (n : Int) (w : World) : Calls Tryd.prog 86 #[.int .u64 n] w fun e w' => e = .returned (.bool (remC n)) ∧ w = w' := by
  by_cases h0 : n = 18
  · subst h0
    go_enter Tryd.func86, Tryd.ntmps86
    go_wp2
    go_ret
    exact ⟨rfl, rfl⟩
  have b0 : (n == 18) = false := beq_eq_false_iff_ne.2 h0
  by_cases h1 : n = 19
  · subst h1
    go_enter Tryd.func86, Tryd.ntmps86
    go_wp2
    go_ret
    exact ⟨rfl, rfl⟩
  have b1 : (n == 19) = false := beq_eq_false_iff_ne.2 h1
  by_cases h2 : n = 16
  · subst h2
    go_enter Tryd.func86, Tryd.ntmps86
    go_wp2
    go_ret
    exact ⟨rfl, rfl⟩
  have b2 : (n == 16) = false := beq_eq_false_iff_ne.2 h2
  by_cases h3 : n = 17
  · subst h3
    go_enter Tryd.func86, Tryd.ntmps86
    go_wp2
    go_ret
    exact ⟨rfl, rfl⟩
  have b3 : (n == 17) = false := beq_eq_false_iff_ne.2 h3
  by_cases h4 : n = 20
  · subst h4
    go_enter Tryd.func86, Tryd.ntmps86
    go_wp2
    go_ret
    exact ⟨rfl, rfl⟩
  have b4 : (n == 20) = false := beq_eq_false_iff_ne.2 h4
  by_cases h5 : n = 11
  · subst h5
    go_enter Tryd.func86, Tryd.ntmps86
    go_wp2
    go_ret
    exact ⟨rfl, rfl⟩
  have b5 : (n == 11) = false := beq_eq_false_iff_ne.2 h5
  have HN := Lib.hid (show remC n = false by unfold remC; rw [decide_eq_false_iff_not]; omega)
  clear h0 h1 h2 h3 h4 h5
  go_enter Tryd.func86, Tryd.ntmps86
  go_wp2
  go_ret
  exact ⟨ret_bool HN.out.symm, rfl⟩

end Go.Proofs.YtkocpijloiamcaaDoor

/- An isolating run sequence's seven fields. No program in sight. -/
namespace Go.Proofs.YtkocpijloiamcaaDoor
open Go.RowKit

/-- Seven fields. -/
def sf (f0 f1 f2 f3 f4 f5 f6 : Value) : Nat → Value
  | 0 => f0 | 1 => f1 | 2 => f2 | 3 => f3 | 4 => f4 | 5 => f5 | 6 => f6 | _ => f6

theorem sf_set3 {w : World} {p : Nat} {t : TypeId} {f0 f1 f2 f3 f4 f5 f6 : Value} (h : w.rowIs p t 7 (sf f0 f1 f2 f3 f4 f5 f6)) (v : Value) : (w.setCell ⟨p, 3, none⟩ v).rowIs p t 7 (sf f0 f1 f2 v f4 f5 f6) :=
  (h.set 3 v).congr fun i hi => match i, hi with | 0, _ => rfl | 1, _ => rfl | 2, _ => rfl | 3, _ => rfl | 4, _ => rfl | 5, _ => rfl | 6, _ => rfl

end Go.Proofs.YtkocpijloiamcaaDoor

/- impl.classOf, impl.classesOf: classes by their numbers. -/
namespace Go.Proofs.YtkocpijloiamcaaDoor
open Go.RowKit

/-- The table of classes lies as the text lays it. -/
def Tab (w : World) : Prop := ∀ i : Nat, i < 23 → w.cell? ⟨0, i, none⟩ = some (.int .u64 (cls i))

theorem Tab.since {w w' : World} (h : Tab w) (s : w.Since w.heap.size w') : Tab w' := fun i hi => by
  rw [s.cell (a := ⟨0, i, none⟩) (World.block_lt_of_cell? _ _ (h i hi))]; exact h i hi

theorem Tab.kp {S : Nat → Prop} {w w' : World} (h : Tab w) (s : Kp S w w') (hs : ¬ S 0) : Tab w' := fun i hi => s.cell (h i hi) hs

theorem Tab.lt {w : World} (h : Tab w) : 0 < w.heap.size := World.block_lt_of_cell? _ _ (h 0 (by omega))

theorem classOf_any (n : Int) (w : World) (ht : Tab w) : Calls Tryd.prog 43 #[.int .i64 n] w fun e w' => e = .returned (.int .u64 (cls n)) ∧ w = w' := by
  by_cases h1 : n < 0
  · have e : cls n = 10 := by unfold cls; rw [if_pos (by omega)]
    rw [e]
    go_enter Tryd.func43, Tryd.ntmps43
    go_wp2
    go_ret
    exact ⟨rfl, rfl⟩
  · by_cases h2 : 23 ≤ n
    · have e : cls n = 10 := by unfold cls; rw [if_pos (by omega)]
      rw [e]
      go_enter Tryd.func43, Tryd.ntmps43
      go_wp2
      go_ret
      exact ⟨rfl, rfl⟩
    · obtain ⟨k, rfl⟩ := Int.eq_ofNat_of_zero_le (show 0 ≤ n by omega)
      have hk : k < 23 := by omega
      have hc := ht k hk
      obtain ⟨c, hce⟩ : ∃ c, c = cls (k : Int) := ⟨_, rfl⟩
      rw [← hce] at hc
      rw [← hce]
      clear hce ht
      go_enter Tryd.func43, Tryd.ntmps43
      go_wp2
      go_ret
      exact ⟨rfl, rfl⟩

set_option maxHeartbeats 400000 in
theorem classesOf_any {ao : Option Addr} {b o n c : Nat} {x : Nat → Int} (w : World) (ht : Tab w) (hn : n ≤ 8589934592) (hx : Sees w ao b o n c (fun i => .int .i64 (x i))) :
    Calls Tryd.prog 27 #[.slice ao n c] w (RetSees w n (fun i => .int .u64 (cls (x i)))) := by
  go_enter Tryd.func27, Tryd.ntmps27
  go_wp2_with (at_make; refine wpList_make0 _ rfl _ _ 43 rfl w.heap.size 67 (.int .u64 0) 8 Tryd.underlying43 Tryd.infoClass (fun i => .int .u64 (cls (x i))) n rfl rfl (by omega) hn (Nat.le_refl _) ?_)
  intro w1 hg1 hgr1
  have hs1 : w.Since w.heap.size w1 := (World.Since.refl _ _).grown hgr1 (Nat.le_refl _) (by simp)
  clear hgr1
  go_wp2
  go_loopg [3, 5, 11] n (fun g v _ i wr => ∃ k : Nat, k ≤ n ∧ g = n - k ∧ i = .int .i64 k ∧ Gr wr w.heap.size 67 v k (fun i => .int .u64 (cls (x i))) ∧ w.Since w.heap.size wr)
  case atStart => exact ⟨0, by omega, rfl, rfl, hg1, hs1⟩
  case round =>
    obtain ⟨k, hk, rfl, rfl, hg, hs⟩ := hrel
    clear hg1 hs1
    by_cases hlt : k < n
    · obtain ⟨rfl, hc⟩ := hx.get hlt
      have hc' : wr.cell? ⟨b, o + k, none⟩ = some (.int .i64 (x k)) := by rw [hs.cell (World.block_lt_of_cell? _ _ hc)]; exact hc
      have hsz : w.heap.size ≤ wr.heap.size := hs.size
      have htr := ht.since hs
      clear hc
      go_wp2_with fail
      refine (classOf_any _ _ htr).mono ?_
      rintro e w3 ⟨rfl, rfl⟩
      go_wp2_with (at_builtin; refine wpList_push wr rfl _ _ 43 rfl w.heap.size 67 (.int .u64 0) 8 Tryd.underlying43 Tryd.infoClass rfl _ _ _ _ (by rfl) hg (by rfl) rfl (by omega) (by omega) hsz ?_)
      intro v' w2 hg2 hgr2 hat
      have hs2 : w.Since w.heap.size w2 := (hs.alloc hsz _).grown hgr2 (by simp; omega) (fun k hk => (hg.ge k hk).1)
      have hg3 := hg2.congr (g := fun i => .int .u64 (cls (x i))) (fun i _ => by split <;> simp_all)
      clear hg hs hc' hg2 hgr2 hat htr
      go_wp2
      go_roundg (n - (k + 1))
      case rel => exact ⟨k + 1, by omega, rfl, by go_num, hg3, hs2⟩
      case measure => omega
    · obtain rfl : k = n := by omega
      go_wp2
      go_ret
      exact hg.ret hs (Nat.le_refl _)

end Go.Proofs.YtkocpijloiamcaaDoor

/- (bidi.Class).in: a class among others. -/
namespace Go.Proofs.YtkocpijloiamcaaDoor
open Go.RowKit

theorem lits_cell {w : World} {b : Nat} {t : TypeId} {l : List Int} (h : w.heap[b]? = some (.cells (l.map (Value.int .u64)).toArray t (0, 0))) {i : Nat} (hi : i < l.length) : w.cell? ⟨b, i, none⟩ = some (.int .u64 l[i]) := by
  simp [World.cell?, h, hi]

set_option maxHeartbeats 400000 in
/-- 'c.in(set...)', the set written out at the call. -/
theorem in_any (l : List Int) (c : Int) (w : World) {b : Nat} (hl : l.length ≤ 1000) (h : w.heap[b]? = some (.cells (l.map (Value.int .u64)).toArray 67 (0, 0))) :
    Calls Tryd.prog 55 #[.int .u64 c, .slice (some ⟨b, 0, none⟩) l.length l.length] w fun e w' => e = .returned (.bool (memB l c)) ∧ w = w' := by
  have HC : ∀ i, i < l.length → w.cell? ⟨b, i, none⟩ = some (.int .u64 (l.getD i 0)) := fun i hi => by rw [lits_cell h hi]; simp [hi]
  have HH := Lib.hid HC
  clear HC h
  obtain ⟨m, hm⟩ : ∃ m, m = l.length := ⟨_, rfl⟩
  rw [← hm]
  rw [← hm] at hl
  have HM := Lib.hid hm
  clear hm
  go_enter Tryd.func55, Tryd.ntmps55
  go_wp2
  go_loop [6, 9] (fun _ i => ∃ k : Nat, k ≤ m ∧ i = .int .i64 k ∧ (∀ j, j < k → l.getD j 0 ≠ c)) (fun _ i => m - (intOf i).toNat)
  case atStart => exact ⟨0, by omega, rfl, fun j hj => absurd hj (Nat.not_lt_zero _)⟩
  case round =>
    obtain ⟨k, hk, rfl, hall⟩ := hrel
    have HA := Lib.hid hall
    clear hall
    by_cases hlt : k < m
    · have hc := HH.out k (by rw [← HM.out]; exact hlt)
      have hlz : (k : Int) < (m : Int) := by omega
      obtain ⟨u, hu⟩ : ∃ u, u = l.getD k 0 := ⟨_, rfl⟩
      rw [← hu] at hc
      have HU := Lib.hid hu
      clear hu
      by_cases he : c = u
      · have hb : (c == u) = true := by simp [he]
        have HE := Lib.hid he
        clear he
        go_wp2
        go_ret
        exact ⟨ret_bool (by
          symm; rw [memB_iff, HE.out, HU.out]
          have hk2 : k < l.length := by rw [← HM.out]; exact hlt
          simp [hk2]), rfl⟩
      · have hb : (c == u) = false := by simp [he]
        go_wp2
        go_round
        case rel => exact ⟨k + 1, by omega, by go_num, fun j hj => by
          rcases Nat.lt_succ_iff_lt_or_eq.1 hj with h | h
          · exact HA.out j h
          · subst h; rw [← HU.out]; exact fun e => he e.symm⟩
        case measure => simp [intOf]; omega
    · obtain rfl : k = m := by omega
      go_wp2
      go_ret
      exact ⟨ret_bool (by
        symm; rw [memB_not]; intro hmem
        obtain ⟨i, hi, e⟩ := List.getElem_of_mem hmem
        exact HA.out i (by rw [HM.out]; exact hi) (by simp [hi, e])), rfl⟩

end Go.Proofs.YtkocpijloiamcaaDoor

/- impl.copyOf: a copy of a list. -/
namespace Go.Proofs.YtkocpijloiamcaaDoor
open Go.RowKit

set_option maxHeartbeats 400000 in
/-- A copy of a list. -/
theorem copyOf_gr {ao : Option Addr} {b o n c : Nat} {x : Nat → Int} (w : World) (hn : n ≤ 8589934592) (hx : Sees w ao b o n c (fun i => .int .i64 (x i))) :
    Calls Tryd.prog 30 #[.slice ao n c] w (RetGr 3 w n (fun i => .int .i64 (x i))) := by
  go_enter Tryd.func30, Tryd.ntmps30
  have h1 := Gr.empty w w.heap.size 3 (fun _ => .int .i64 0) (Nat.le_refl _)
  have hx1 : Sees (w.alloc (.cells #[] 3)) ao b o n c (fun i => .int .i64 (x i)) := hx.since ((World.Since.refl _ _).alloc (Nat.le_refl _) _)
  have hs1 : w.Since w.heap.size (w.alloc (.cells #[] 3)) := (World.Since.refl _ _).alloc (Nat.le_refl _) _
  go_wp2_with (at_builtin; refine wpList_cat _ rfl _ _ 22 rfl w.heap.size 3 (.int .i64 0) 8 Tryd.underlying22 Tryd.infoInt rfl _ _ _ rfl h1 rfl hx1 (fun _ _ => rfl) (by omega) (by omega) (by simp) ?_)
  intro v' w1 hg hgr hat
  have hs : w.Since w.heap.size w1 := hs1.grown hgr (by simp) (by simp [Value.ownBlock])
  have hg' : Gr w1 w.heap.size 3 v' n (fun i => .int .i64 (x i)) := by
    first | exact hg | (rw [Nat.zero_add] at hg; exact hg.congr fun i _ => by simp)
  clear hg hgr hat h1 hx1 hs1
  go_wp2
  go_ret
  exact hg'.ret' hs

theorem copyOf_any {ao : Option Addr} {b o n c : Nat} {x : Nat → Int} (w : World) (hn : n ≤ 8589934592) (hx : Sees w ao b o n c (fun i => .int .i64 (x i))) :
    Calls Tryd.prog 30 #[.slice ao n c] w (RetSees w n (fun i => .int .i64 (x i))) := (copyOf_gr w hn hx).mono fun _ _ h => h.sees

end Go.Proofs.YtkocpijloiamcaaDoor

/- bidi.setLevels. -/
namespace Go.Proofs.YtkocpijloiamcaaDoor
open Go.RowKit

set_option maxHeartbeats 400000 in
theorem setLevels_any {r n : Nat} {f : Nat → Value} {v : Int} (w : World) (hn : n ≤ 8589934592) (hr : w.rowIs r 62 n f) :
    Calls Tryd.prog 59 #[.slice (some ⟨r, 0, none⟩) n n, .int .i8 v] w fun e w' => e = .returned (.tuple #[]) ∧ w'.rowIs r 62 n (fun _ => .int .i8 v) ∧ Kp (fun k => k = r) w w' := by
  go_enter Tryd.func59, Tryd.ntmps59
  go_wp2
  go_loopg [4, 7] n (fun g _ i wr => ∃ k : Nat, k ≤ n ∧ g = n - k ∧ i = .int .i64 k ∧ wr.rowIs r 62 n (fun j => if j < k then .int .i8 v else f j) ∧ Kp (fun k => k = r) w wr)
  case atStart => exact ⟨0, by omega, rfl, rfl, hr.congr (fun j _ => by simp), Kp.refl _ _⟩
  case round =>
    clear hr
    obtain ⟨k, hk, rfl, rfl, hr, hs⟩ := hrel
    by_cases hkn : k < n
    · have hkz : (k : Int) < (n : Int) := by omega
      have g1 := hr.cell hkn
      rw [if_neg (by omega)] at g1
      have g2 := hr.frozen k
      have R := (hr.set k (.int .i8 v)).congr (g := fun j => if j < k + 1 then .int .i8 v else f j) (fun j _ => by
        by_cases e : j = k
        · subst e; rw [if_pos rfl, if_pos (by omega)]
        · rw [if_neg e]
          by_cases h : j < k
          · rw [if_pos h, if_pos (by omega)]
          · rw [if_neg h, if_neg (by omega)])
      have S := hs.setCell (a := ⟨r, k, none⟩) (.inl rfl) (.int .i8 v)
      clear hr hs
      go_wp2
      go_roundg (n - (k + 1))
      case rel => exact ⟨k + 1, by omega, rfl, by go_num, R, S⟩
      case measure => omega
    · obtain rfl : k = n := by omega
      go_wp2
      go_end0
      exact ⟨rfl, hr.congr (fun j hj => by rw [if_pos hj]), hs⟩

end Go.Proofs.YtkocpijloiamcaaDoor

/- bidi.numbers, impl.largeOf. -/
namespace Go.Proofs.YtkocpijloiamcaaDoor
open Go.RowKit

set_option maxHeartbeats 400000 in
/-- Levels as int8. -/
theorem numbers_any {ao : Option Addr} {b o n cc : Nat} {x : Nat → Int} (w : World) (hn : n ≤ 8589934592) (hx : Sees w ao b o n cc (fun i => .int .i8 (x i))) :
    Calls Tryd.prog 40 #[.slice ao n cc] w (RetSees w n (fun i => .int .i8 (x i))) := by
  have hmk := run_make_row' (P := Tryd.prog) 38 49 (.int .i8 0) 1 Tryd.underlying38 Tryd.infoInt8 rfl .i64 .i64 n (by omega) (by omega)
  go_enter Tryd.func40, Tryd.ntmps40
  go_wp2
  clear hmk
  go_loopg [4, 5, 11] n (fun g _ _ i wr => ∃ k : Nat, k ≤ n ∧ g = n - k ∧ i = .int .i64 k ∧ wr.rowIs w.heap.size 49 n (fun j => .int .i8 (if j < k then x j else 0)) ∧ w.Since w.heap.size wr)
  case atStart => exact ⟨0, by omega, rfl, rfl, (World.rowIs_made w _ n 49).congr (fun j _ => by simp), (World.Since.refl _ _).alloc (Nat.le_refl _) _⟩
  case round =>
    obtain ⟨k, hk, rfl, rfl, hr, hs⟩ := hrel
    by_cases hkn : k < n
    · have hkz : (k : Int) < (n : Int) := by omega
      obtain ⟨rfl, hc0⟩ := hx.get hkn
      have hc : wr.cell? ⟨b, o + k, none⟩ = some (.int .i8 (x k)) := by rw [hs.cell (World.block_lt_of_cell? _ _ hc0)]; exact hc0
      have g1 := hr.cell hkn
      have g2 := hr.frozen k
      have R := (hr.set k (.int .i8 (x k))).congr (g := fun j => .int .i8 (if j < k + 1 then x j else 0)) (fun j _ => by
        by_cases e : j = k
        · subst e; rw [if_pos rfl, if_pos (by omega)]
        · rw [if_neg e]
          by_cases h : j < k
          · rw [if_pos h, if_pos (by omega)]
          · rw [if_neg h, if_neg (by omega)])
      have S := hs.setCell (a := ⟨w.heap.size, k, none⟩) (Nat.le_refl _) (.int .i8 (x k))
      clear hr hs hc0
      go_wp2
      go_roundg (n - (k + 1))
      case rel => exact ⟨k + 1, by omega, rfl, by go_num, R, S⟩
      case measure => omega
    · obtain rfl : k = n := by omega
      go_wp2
      go_ret
      exact ⟨_, _, _, _, rfl, (Sees.ofRow hr).congr (fun j hj => by rw [if_pos hj]), Nat.le_refl _, hs⟩

set_option maxHeartbeats 400000 in
/-- int8 as int. -/
theorem largeOf_any {ao : Option Addr} {b o n c : Nat} {x : Nat → Int} (w : World) (hn : n ≤ 8589934592) (hx : Sees w ao b o n c (fun i => .int .i8 (x i))) (hr : ∀ i, i < n → -128 ≤ x i ∧ x i ≤ 127) :
    Calls Tryd.prog 31 #[.slice ao n c] w (RetSees w n (fun i => .int .i64 (x i))) := by
  have HR := Lib.hid hr
  clear hr
  go_enter Tryd.func31, Tryd.ntmps31
  go_wp2_with (at_make; refine wpList_make0 _ rfl _ _ 22 rfl w.heap.size 3 (.int .i64 0) 8 Tryd.underlying22 Tryd.infoInt (fun i => .int .i64 (x i)) n rfl rfl (by omega) hn (Nat.le_refl _) ?_)
  intro w1 hg1 hgr1
  have hs1 : w.Since w.heap.size w1 := (World.Since.refl _ _).grown hgr1 (Nat.le_refl _) (by simp)
  clear hgr1
  go_wp2
  go_loopg [3, 5, 11] n (fun g v _ i wr => ∃ k : Nat, k ≤ n ∧ g = n - k ∧ i = .int .i64 k ∧ Gr wr w.heap.size 3 v k (fun i => .int .i64 (x i)) ∧ w.Since w.heap.size wr)
  case atStart => exact ⟨0, by omega, rfl, rfl, hg1, hs1⟩
  case round =>
    obtain ⟨k, hk, rfl, rfl, hg, hs⟩ := hrel
    clear hg1 hs1
    by_cases hlt : k < n
    · obtain ⟨rfl, hc⟩ := hx.get hlt
      have hc' : wr.cell? ⟨b, o + k, none⟩ = some (.int .i8 (x k)) := by rw [hs.cell (World.block_lt_of_cell? _ _ hc)]; exact hc
      have hsz : w.heap.size ≤ wr.heap.size := hs.size
      obtain ⟨r0, r1⟩ := HR.out k hlt
      clear hc
      go_wp2_with (at_builtin; go_must (refine wpList_push wr rfl _ _ 22 rfl w.heap.size 3 (.int .i64 0) 8 Tryd.underlying22 Tryd.infoInt rfl _ _ _ _ (by rfl) hg (by rfl) rfl (by omega) (by omega) hsz ?_))
      intro v' w2 hg2 hgr2 hat
      have hs2 : w.Since w.heap.size w2 := (hs.alloc hsz _).grown hgr2 (by simp; omega) (fun k hk => (hg.ge k hk).1)
      have hg3 := hg2.congr (g := fun i => .int .i64 (x i)) (fun i _ => by split <;> simp_all)
      clear hg hs hc' hg2 hgr2 hat hx
      go_wp2
      go_roundg (n - (k + 1))
      case rel => exact ⟨k + 1, by omega, rfl, by go_num, hg3, hs2⟩
      case measure => omega
    · obtain rfl : k = n := by omega
      go_wp2
      go_ret
      exact hg.ret hs (Nat.le_refl _)

set_option maxHeartbeats 400000 in
/-- Whatever the levels are. -/
theorem largeOfW_any {ao : Option Addr} {b o n c : Nat} {x : Nat → Int} (w : World) (hn : n ≤ 8589934592) (hx : Sees w ao b o n c (fun i => .int .i8 (x i))) :
    Calls Tryd.prog 31 #[.slice ao n c] w (RetSees w n (fun i => .int .i64 (wrap64 (x i)))) := by
  go_enter Tryd.func31, Tryd.ntmps31
  go_wp2_with (at_make; refine wpList_make0 _ rfl _ _ 22 rfl w.heap.size 3 (.int .i64 0) 8 Tryd.underlying22 Tryd.infoInt (fun i => .int .i64 (wrap64 (x i))) n rfl rfl (by omega) hn (Nat.le_refl _) ?_)
  intro w1 hg1 hgr1
  have hs1 : w.Since w.heap.size w1 := (World.Since.refl _ _).grown hgr1 (Nat.le_refl _) (by simp)
  clear hgr1
  go_wp2
  go_loopg [3, 5, 11] n (fun g v _ i wr => ∃ k : Nat, k ≤ n ∧ g = n - k ∧ i = .int .i64 k ∧ Gr wr w.heap.size 3 v k (fun i => .int .i64 (wrap64 (x i))) ∧ w.Since w.heap.size wr)
  case atStart => exact ⟨0, by omega, rfl, rfl, hg1, hs1⟩
  case round =>
    obtain ⟨k, hk, rfl, rfl, hg, hs⟩ := hrel
    clear hg1 hs1
    by_cases hlt : k < n
    · obtain ⟨rfl, hc⟩ := hx.get hlt
      have hc' : wr.cell? ⟨b, o + k, none⟩ = some (.int .i8 (x k)) := by rw [hs.cell (World.block_lt_of_cell? _ _ hc)]; exact hc
      have hsz : w.heap.size ≤ wr.heap.size := hs.size
      clear hc
      go_wp2_with (at_builtin; go_must (refine wpList_push wr rfl _ _ 22 rfl w.heap.size 3 (.int .i64 0) 8 Tryd.underlying22 Tryd.infoInt rfl _ _ _ _ (by rfl) hg (by rfl) rfl (by omega) (by omega) hsz ?_))
      intro v' w2 hg2 hgr2 hat
      have hs2 : w.Since w.heap.size w2 := (hs.alloc hsz _).grown hgr2 (by simp; omega) (fun k hk => (hg.ge k hk).1)
      have hg3 := hg2.congr (g := fun i => .int .i64 (wrap64 (x i))) (fun i _ => by
        by_cases e : i = k
        · rw [if_pos e, e]
        · rw [if_neg e])
      clear hg hs hc' hg2 hgr2 hat hx
      go_wp2
      go_roundg (n - (k + 1))
      case rel => exact ⟨k + 1, by omega, rfl, by go_num, hg3, hs2⟩
      case measure => omega
    · obtain rfl : k = n := by omega
      go_wp2
      go_ret
      exact hg.ret hs (Nat.le_refl _)

end Go.Proofs.YtkocpijloiamcaaDoor

/- impl.numberOf, impl.numbersOf: classes back to their numbers. -/
namespace Go.Proofs.YtkocpijloiamcaaDoor
open Go.RowKit

theorem wpList_load_as {P : Program} {ops : Array Oper} {rest : List Oper} {o : Oper} {a : Act} {w : World} {Q : Exit → Act → World → Prop} (hgd : o.guard = none) (ty : TypeId) (x : Operand) (ho : o.op = .load ty x)
    (p : Addr) (hx : a.eval x = .pointer (some p)) (v : Value) (hr : (loadVar ty p).run P w = .ok v w)
    (h : wpList P ops Q rest (a.put o.dst v) w) : wpList P ops Q (o :: rest) a w :=
  wpList_plain hgd fun _ hK => by
    unfold Oper.wp execOp
    simp only [ho, hx, Instr.loadAt, Instr.sureAddr, Sem.run_bind, Sem.run_pure, Result.andThen_ok, hr]
    exact hK _ _ h

/-- The table as one value. -/
def tabV : Array Value := ((List.range 23).map (fun i : Nat => Value.int .u64 (cls i))).toArray

theorem tabV_at {i : Nat} (hi : i < 23) : tabV[i]? = some (.int .u64 (cls i)) := by
  unfold tabV; simp [hi]

theorem tab_load {w : World} (ht : Tab w) : (loadVar 84 ⟨0, 0, none⟩).run Tryd.prog w = .ok (.agg tabV) w := by
  have hl : (loadCells ⟨0, 0, none⟩ ((List.range 23).map (fun i : Nat => Value.int .u64 (cls i))).length).run Tryd.prog w = .ok ((List.range 23).map (fun i : Nat => Value.int .u64 (cls i))).toArray w :=
    run_loadCells_list (P := Tryd.prog) w ⟨0, 0, none⟩ _ (fun j v hv => by
      have hadd : (⟨0, 0, none⟩ : Addr).add j = ⟨0, j, none⟩ := by unfold Addr.add; split <;> simp_all
      have hj : j < 23 := by
        rcases Nat.lt_or_ge j 23 with h | h
        · exact h
        · rw [List.getElem?_eq_none (by simpa using h)] at hv; cases hv
      have : v = .int .u64 (cls j) := by simpa [hj] using hv.symm
      rw [hadd, ht j hj, this])
  have hs : (Tryd.prog.info? 84).map (·.size) = some 23 := by kernel_rfl
  cases hq : Tryd.prog.info? 84 with
  | none => simp [hq] at hs
  | some i =>
    have hs' : i.size = 23 := by simpa [hq] using hs
    have hagg : (isAgg 84).run Tryd.prog w = .ok true w := by
      unfold isAgg
      rw [Sem.run_bind, run_underlying Tryd.underlying84 w]
      simp
    rw [List.length_map, List.length_range] at hl
    simp [loadVar, Sem.run_bind, hagg, sizeOf, typeInfo, hq, hs', hl, tabV]

theorem cls_inj {i j : Nat} (hi : i < 23) (hj : j < 23) (h : cls i = cls j) : i = j := by
  have key : ∀ m : Nat, m < 23 → cls m = if m ≤ 13 then (m : Int) else m + 2 := fun m hm => by
    unfold cls
    rw [if_neg (by omega)]
    by_cases h : m ≤ 13
    · rw [if_pos h, if_pos (by omega)]
    · rw [if_neg h, if_neg (by omega)]
  rw [key i hi, key j hj] at h
  split at h <;> split at h <;> omega

theorem index_at {T : Array Value} {q : Nat} {v : Value} (hq : q < 23) (hT : T[q]? = some v) (hs : (Tryd.prog.info? 67).map (fun i => (i.zero, i.size, i.bytes)) = some (some (.int .u64 0), 1, 8)) (hv : ∃ x, v = .int .u64 x) (w : World) :
    (Instr.index 84 (.agg T) (.int .i64 q)).run Tryd.prog w = .ok v w := by
  obtain ⟨x, rfl⟩ := hv
  obtain ⟨i, hi, h1, h2, h3⟩ := info_parts hs
  have hlt : (0 : Int) ≤ (q : Int) ∧ (q : Int) < 23 := by omega
  have hl2 : q < T.size := by
    rcases Nat.lt_or_ge q T.size with h | h
    · exact h
    · rw [Array.getElem?_eq_none h] at hT; cases hT
  simp [Instr.index, run_underlying Tryd.underlying84, asIntOf, hlt, go_sem, sizeOf, typeInfo, hi, h2, hT]
  intro h; omega

set_option maxHeartbeats 1000000 in
theorem numberOf_any (k : Nat) (hk : k < 23) (w : World) (ht : Tab w) : Calls Tryd.prog 44 #[.int .u64 (cls k)] w fun e w' => e = .returned (.int .i64 k) ∧ w = w' := by
  have hld := tab_load ht
  obtain ⟨v, hv⟩ : ∃ v, v = cls (k : Int) := ⟨_, rfl⟩
  rw [← hv]
  have HV := Lib.hid hv
  clear hv
  have hT : ∀ i, i < 23 → tabV[i]? = some (.int .u64 (cls i)) := fun i hi => tabV_at hi
  have hTs : tabV.size = 23 := rfl
  obtain ⟨T, hTe⟩ : ∃ T, T = tabV := ⟨_, rfl⟩
  rw [← hTe] at hld hT hTs
  have HT := Lib.hid hT
  clear hTe hT
  go_enter Tryd.func44, Tryd.ntmps44
  go_wp2_with (refine wpList_load_as rfl _ _ rfl ⟨0, 0, none⟩ rfl _ hld ?_)
  clear hld
  go_loop [3, 4, 6] (fun _ _ i => ∃ q : Nat, q ≤ k ∧ i = .int .i64 q) (fun _ _ i => 23 - (intOf i).toNat)
  case atStart => exact ⟨0, by omega, rfl⟩
  case round =>
    obtain ⟨q, hq, rfl⟩ := hrel
    have hq3 : (q : Int) < 23 := by omega
    have hcell := index_at (by omega) (HT.out q (by omega)) Tryd.infoClass ⟨_, rfl⟩
    by_cases e : q = k
    · subst e
      rw [← HV.out] at hcell
      go_wp2
      go_ret
      exact ⟨rfl, rfl⟩
    · have hne : (cls (q : Int) == v) = false := beq_eq_false_iff_ne.2 (fun h => e (cls_inj (by omega) hk (h.trans HV.out)))
      obtain ⟨u, hu⟩ : ∃ u, u = cls (q : Int) := ⟨_, rfl⟩
      rw [← hu] at hne hcell
      go_wp2
      go_round
      case rel => exact ⟨q + 1, by omega, by go_num⟩
      case measure => simp [intOf]; omega

set_option maxHeartbeats 400000 in
theorem numbersOf_any {ao : Option Addr} {b o n c : Nat} {x : Nat → Int} (w : World) (ht : Tab w) (hn : n ≤ 8589934592) (hok : ∀ i, i < n → clsOk (x i)) (hx : Sees w ao b o n c (fun i => .int .u64 (cls (x i)))) :
    Calls Tryd.prog 36 #[.slice ao n c] w (RetSees w n (fun i => .int .i64 (x i))) := by
  have HOK := Lib.hid hok
  clear hok
  go_enter Tryd.func36, Tryd.ntmps36
  go_wp2_with (at_make; refine wpList_make0 _ rfl _ _ 22 rfl w.heap.size 3 (.int .i64 0) 8 Tryd.underlying22 Tryd.infoInt (fun i => .int .i64 (x i)) n rfl rfl (by omega) hn (Nat.le_refl _) ?_)
  intro w1 hg1 hgr1
  have hs1 : w.Since w.heap.size w1 := (World.Since.refl _ _).grown hgr1 (Nat.le_refl _) (by simp)
  clear hgr1
  go_wp2
  go_loopg [3, 5, 11] n (fun g v _ i wr => ∃ k : Nat, k ≤ n ∧ g = n - k ∧ i = .int .i64 k ∧ Gr wr w.heap.size 3 v k (fun i => .int .i64 (x i)) ∧ w.Since w.heap.size wr)
  case atStart => exact ⟨0, by omega, rfl, rfl, hg1, hs1⟩
  case round =>
    obtain ⟨k, hk, rfl, rfl, hg, hs⟩ := hrel
    clear hg1 hs1
    by_cases hlt : k < n
    · obtain ⟨rfl, hc⟩ := hx.get hlt
      have hc' : wr.cell? ⟨b, o + k, none⟩ = some (.int .u64 (cls (x k))) := by rw [hs.cell (World.block_lt_of_cell? _ _ hc)]; exact hc
      have hsz : w.heap.size ≤ wr.heap.size := hs.size
      have htr := ht.since hs
      obtain ⟨o1, o2⟩ := HOK.out k hlt
      obtain ⟨m, hm⟩ := Int.eq_ofNat_of_zero_le o1
      have hm23 : m < 23 := by omega
      have HM := Lib.hid hm
      rw [hm] at hc'
      clear hc hm o1 o2
      go_wp2_with fail
      refine (numberOf_any m hm23 _ htr).mono ?_
      rintro e w3 ⟨rfl, rfl⟩
      go_wp2_with (at_builtin; refine wpList_push wr rfl _ _ 22 rfl w.heap.size 3 (.int .i64 0) 8 Tryd.underlying22 Tryd.infoInt rfl _ _ _ _ (by rfl) hg (by rfl) rfl (by omega) (by omega) hsz ?_)
      intro v' w2 hg2 hgr2 hat
      have hs2 : w.Since w.heap.size w2 := (hs.alloc hsz _).grown hgr2 (by simp; omega) (fun k hk => (hg.ge k hk).1)
      have hg3 := hg2.congr (g := fun i => .int .i64 (x i)) (fun i _ => by
        by_cases e : i = k
        · rw [if_pos e, e, HM.out]
        · rw [if_neg e])
      clear hg hs hc' hg2 hgr2 hat htr
      go_wp2
      go_roundg (n - (k + 1))
      case rel => exact ⟨k + 1, by omega, rfl, by go_num, hg3, hs2⟩
      case measure => omega
    · obtain rfl : k = n := by omega
      go_wp2
      go_ret
      exact hg.ret hs (Nat.le_refl _)

end Go.Proofs.YtkocpijloiamcaaDoor

/- spec.Same: whether two lists have the same numbers. -/
namespace Go.Proofs.YtkocpijloiamcaaDoor
open Go.RowKit

def sameB (n m : Nat) (x y : Nat → Int) : Bool := decide (n = m ∧ ∀ i, i < n → x i = y i)

set_option maxHeartbeats 400000 in
theorem same_any {ao : Option Addr} {b o n c : Nat} {x : Nat → Int} {ao' : Option Addr} {b' o' n' c' : Nat} {y : Nat → Int} (w : World) (hn : n ≤ 17179869184) (hn' : n' ≤ 17179869184)
    (hx : Sees w ao b o n c (fun i => .int .i64 (x i))) (hy : Sees w ao' b' o' n' c' (fun i => .int .i64 (y i))) :
    Calls Tryd.prog 25 #[.slice ao n c, .slice ao' n' c'] w fun e w' => e = .returned (.bool (sameB n n' x y)) ∧ w.Since w.heap.size w' := by
  by_cases hne : n = n'
  · subst hne
    go_enter Tryd.func25, Tryd.ntmps25
    go_wp2
    go_loopg [5, 13] n (fun g _ i wr => ∃ k : Nat, k ≤ n ∧ g = n - k ∧ i = .int .i64 k ∧ (∀ j, j < k → x j = y j) ∧ w.Since w.heap.size wr)
    case atStart => exact ⟨0, by omega, rfl, rfl, fun j hj => absurd hj (Nat.not_lt_zero _), World.Since.refl _ _⟩
    case round =>
      obtain ⟨k, hk, rfl, rfl, hall, hs⟩ := hrel
      have HA := Lib.hid hall
      clear hall
      by_cases hlt : k < n
      · obtain ⟨rfl, hc⟩ := hx.get hlt
        obtain ⟨rfl, hd⟩ := hy.get hlt
        have hc' : wr.cell? ⟨b, o + k, none⟩ = some (.int .i64 (x k)) := by rw [hs.cell (World.block_lt_of_cell? _ _ hc)]; exact hc
        have hd' : wr.cell? ⟨b', o' + k, none⟩ = some (.int .i64 (y k)) := by rw [hs.cell (World.block_lt_of_cell? _ _ hd)]; exact hd
        have hlz : (k : Int) < (n : Int) := by omega
        clear hc hd
        by_cases hxy : x k = y k
        · have hb1 : (x k != y k) = false := by simp [hxy]
          have HX := Lib.hid hxy
          clear hxy
          go_wp2
          go_quiet (fail)
          go_wp2
          go_roundg (n - (k + 1))
          case rel => exact ⟨k + 1, by omega, rfl, by go_num, fun j hj => by rcases Nat.lt_succ_iff_lt_or_eq.1 hj with h | h; exact HA.out j h; subst h; exact HX.out, since_drewN hs _⟩
          case measure => omega
        · have hb1 : (x k != y k) = true := by simp [hxy]
          go_wp2
          go_quiet (fail)
          go_wp2
          go_ret
          exact ⟨ret_bool (by unfold sameB; symm; rw [decide_eq_false_iff_not]; exact fun h => hxy (h.2 k hlt)), since_drewN hs _⟩
      · obtain rfl : k = n := by omega
        go_wp2
        go_ret
        exact ⟨ret_bool (by unfold sameB; symm; rw [decide_eq_true_eq]; exact ⟨rfl, HA.out⟩), hs⟩
  · have hb0 : ((n : Int) != (n' : Int)) = true := by simp; omega
    go_enter Tryd.func25, Tryd.ntmps25
    go_wp2
    go_ret
    exact ⟨ret_bool (by unfold sameB; symm; rw [decide_eq_false_iff_not]; exact fun h => hne h.1), World.Since.refl _ _⟩

end Go.Proofs.YtkocpijloiamcaaDoor

/- impl.bytesOf, impl.runesOf, bidi.brackets: kinds and values of brackets. -/
namespace Go.Proofs.YtkocpijloiamcaaDoor
set_option linter.unusedVariables false
set_option linter.unusedSimpArgs false
open Go.RowKit

set_option maxHeartbeats 400000 in
/-- The numbers as bytes. -/
theorem bytesOf_any {ao : Option Addr} {b o n c : Nat} {x : Nat → Int} (w : World) (hn : n ≤ 8589934592) (hx : Sees w ao b o n c (fun i => .int .i64 (x i))) :
    Calls Tryd.prog 28 #[.slice ao n c] w (RetSees w n (fun i => .int .u8 (IntKind.u8.wrap (x i)))) := by
  go_enter Tryd.func28, Tryd.ntmps28
  go_wp2_with (at_make; refine wpList_make0 _ rfl _ _ 45 rfl w.heap.size 5 (.int .u8 0) 1 Tryd.underlying45 Tryd.infoByte (fun i => .int .u8 (IntKind.u8.wrap (x i))) n rfl rfl (by omega) hn (Nat.le_refl _) ?_)
  intro w1 hg1 hgr1
  have hs1 : w.Since w.heap.size w1 := (World.Since.refl _ _).grown hgr1 (Nat.le_refl _) (by simp)
  clear hgr1
  go_wp2
  go_loopg [3, 5, 11] n (fun g v _ i wr => ∃ k : Nat, k ≤ n ∧ g = n - k ∧ i = .int .i64 k ∧ Gr wr w.heap.size 5 v k (fun i => .int .u8 (IntKind.u8.wrap (x i))) ∧ w.Since w.heap.size wr)
  case atStart => exact ⟨0, by omega, rfl, rfl, hg1, hs1⟩
  case round =>
    obtain ⟨k, hk, rfl, rfl, hg, hs⟩ := hrel
    clear hg1 hs1
    by_cases hlt : k < n
    · obtain ⟨rfl, hc⟩ := hx.get hlt
      have hc' : wr.cell? ⟨b, o + k, none⟩ = some (.int .i64 (x k)) := by rw [hs.cell (World.block_lt_of_cell? _ _ hc)]; exact hc
      have hsz : w.heap.size ≤ wr.heap.size := hs.size
      clear hc
      go_wp2_with (at_builtin; go_must (refine wpList_push wr rfl _ _ 45 rfl w.heap.size 5 (.int .u8 0) 1 Tryd.underlying45 Tryd.infoByte rfl _ _ _ _ (by rfl) hg (by rfl) rfl (by omega) (by omega) hsz ?_))
      intro v' w2 hg2 hgr2 hat
      have hs2 : w.Since w.heap.size w2 := (hs.alloc hsz _).grown hgr2 (by simp; omega) (fun k hk => (hg.ge k hk).1)
      have hg3 := hg2.congr (g := fun i => .int .u8 (IntKind.u8.wrap (x i))) (fun i _ => by split <;> simp_all <;> first | rfl | (simp [IntKind.wrap, IntKind.bits, IntKind.signed]; done) | (unfold wrap32; simp [IntKind.wrap, IntKind.bits, IntKind.signed]; split <;> omega))
      clear hg hs hc' hg2 hgr2 hat hx
      go_wp2
      go_roundg (n - (k + 1))
      case rel => exact ⟨k + 1, by omega, rfl, by go_num, hg3, hs2⟩
      case measure => omega
    · obtain rfl : k = n := by omega
      go_wp2
      go_ret
      exact hg.ret hs (Nat.le_refl _)

set_option maxHeartbeats 400000 in
/-- The numbers as int32. -/
theorem runesOf_any {ao : Option Addr} {b o n c : Nat} {x : Nat → Int} (w : World) (hn : n ≤ 8589934592) (hx : Sees w ao b o n c (fun i => .int .i64 (x i))) :
    Calls Tryd.prog 29 #[.slice ao n c] w (RetSees w n (fun i => .int .i32 (IntKind.i32.wrap (x i)))) := by
  go_enter Tryd.func29, Tryd.ntmps29
  go_wp2_with (at_make; refine wpList_make0 _ rfl _ _ 47 rfl w.heap.size 21 (.int .i32 0) 4 Tryd.underlying47 Tryd.infoRune (fun i => .int .i32 (IntKind.i32.wrap (x i))) n rfl rfl (by omega) hn (Nat.le_refl _) ?_)
  intro w1 hg1 hgr1
  have hs1 : w.Since w.heap.size w1 := (World.Since.refl _ _).grown hgr1 (Nat.le_refl _) (by simp)
  clear hgr1
  go_wp2
  go_loopg [3, 5, 11] n (fun g v _ i wr => ∃ k : Nat, k ≤ n ∧ g = n - k ∧ i = .int .i64 k ∧ Gr wr w.heap.size 21 v k (fun i => .int .i32 (IntKind.i32.wrap (x i))) ∧ w.Since w.heap.size wr)
  case atStart => exact ⟨0, by omega, rfl, rfl, hg1, hs1⟩
  case round =>
    obtain ⟨k, hk, rfl, rfl, hg, hs⟩ := hrel
    clear hg1 hs1
    by_cases hlt : k < n
    · obtain ⟨rfl, hc⟩ := hx.get hlt
      have hc' : wr.cell? ⟨b, o + k, none⟩ = some (.int .i64 (x k)) := by rw [hs.cell (World.block_lt_of_cell? _ _ hc)]; exact hc
      have hsz : w.heap.size ≤ wr.heap.size := hs.size
      clear hc
      go_wp2_with (at_builtin; go_must (refine wpList_push wr rfl _ _ 47 rfl w.heap.size 21 (.int .i32 0) 4 Tryd.underlying47 Tryd.infoRune rfl _ _ _ _ (by rfl) hg (by rfl) rfl (by omega) (by omega) hsz ?_))
      intro v' w2 hg2 hgr2 hat
      have hs2 : w.Since w.heap.size w2 := (hs.alloc hsz _).grown hgr2 (by simp; omega) (fun k hk => (hg.ge k hk).1)
      have hg3 := hg2.congr (g := fun i => .int .i32 (IntKind.i32.wrap (x i))) (fun i _ => by split <;> simp_all <;> first | rfl | (simp [IntKind.wrap, IntKind.bits, IntKind.signed]; done) | (unfold wrap32; simp [IntKind.wrap, IntKind.bits, IntKind.signed]; split <;> omega))
      clear hg hs hc' hg2 hgr2 hat hx
      go_wp2
      go_roundg (n - (k + 1))
      case rel => exact ⟨k + 1, by omega, rfl, by go_num, hg3, hs2⟩
      case measure => omega
    · obtain rfl : k = n := by omega
      go_wp2
      go_ret
      exact hg.ret hs (Nat.le_refl _)

set_option maxHeartbeats 1000000 in
/-- 'brackets': a copy of the kinds. -/
theorem brackets_any {ao : Option Addr} {b o n c : Nat} {x : Nat → Int} (w : World) (hn : n ≤ 8589934592) (hx : Sees w ao b o n c (fun i => .int .u8 (x i))) :
    Calls Tryd.prog 39 #[.slice ao n c] w fun e w' => e = .returned (.slice (some ⟨w.heap.size, 0, none⟩) n n) ∧ w'.rowIs w.heap.size 79 n (fun i => .int .u8 (x i)) ∧ w.Since w.heap.size w' := by
  have hmk := run_make_row' (P := Tryd.prog) 60 79 (.int .u8 0) 1 Tryd.underlying60 Tryd.infoBrk rfl .i64 .i64 n (by omega) (by omega)
  go_enter Tryd.func39, Tryd.ntmps39
  go_wp2
  clear hmk
  go_loopg [4, 5, 11] n (fun g _ _ i wr => ∃ k : Nat, k ≤ n ∧ g = n - k ∧ i = .int .i64 k ∧ wr.rowIs w.heap.size 79 n (fun j => .int .u8 (if j < k then x j else 0)) ∧ w.Since w.heap.size wr)
  case atStart => exact ⟨0, by omega, rfl, rfl, (World.rowIs_made w _ n 79).congr (fun j _ => by simp), (World.Since.refl _ _).alloc (Nat.le_refl _) _⟩
  case round =>
    obtain ⟨k, hk, rfl, rfl, hr, hs⟩ := hrel
    by_cases hkn : k < n
    · have hkz : (k : Int) < (n : Int) := by omega
      obtain ⟨rfl, hc⟩ := hx.get hkn
      have hc' : wr.cell? ⟨b, o + k, none⟩ = some (.int .u8 (x k)) := by rw [hs.cell (World.block_lt_of_cell? _ _ hc)]; exact hc
      have g1 := hr.cell hkn
      have g2 := hr.frozen k
      have R := (hr.set k (.int .u8 (x k))).congr (g := fun j => .int .u8 (if j < k + 1 then x j else 0)) (fun j _ => by
        by_cases e : j = k
        · subst e; rw [if_pos rfl, if_pos (by omega)]
        · rw [if_neg e]
          by_cases h : j < k
          · rw [if_pos h, if_pos (by omega)]
          · rw [if_neg h, if_neg (by omega)])
      have S := hs.setCell (a := ⟨w.heap.size, k, none⟩) (Nat.le_refl _) (.int .u8 (x k))
      clear hr hs hc hx
      go_wp2
      go_roundg (n - (k + 1))
      case rel => exact ⟨k + 1, by omega, rfl, by go_num, R, S⟩
      case measure => omega
    · obtain rfl : k = n := by omega
      go_wp2
      go_ret
      exact ⟨rfl, hr.congr (fun j hj => by rw [if_pos hj]), hs⟩

end Go.Proofs.YtkocpijloiamcaaDoor
