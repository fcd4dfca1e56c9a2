/- The contracts of the small functions that copy, convert, compare and check lists: impl.copyOf, impl.smallOf, laws.raised, bidi.signs, spec.Same, spec.AreLevels. -/
import Derived.Test.YtlppmagjgodkjaaChecked
import Derived.Test.YtlppmagjgodkjaaBase
import Derived.Deep.LoopGhost
import Derived.Deep.QuietTactic
import Derived.BigQuiet
import Derived.Lib.Hide
namespace Go.Proofs.Ytlppmagjgodkjaa
open Go.RowKit

theorem Try.infoInt : (Try.prog.info? 3).map (fun i => (i.zero, i.size, i.bytes)) = some (some (.int .i64 0), 1, 8) := by kernel_rfl
theorem Try.infoBool : (Try.prog.info? 4).map (fun i => (i.zero, i.size, i.bytes)) = some (some (.bool false), 1, 1) := by kernel_rfl
theorem Try.infoInt8 : (Try.prog.info? 38).map (fun i => (i.zero, i.size, i.bytes)) = some (some (.int .i8 0), 1, 1) := by kernel_rfl
theorem Try.infoLevel : (Try.prog.info? 40).map (fun i => (i.zero, i.size, i.bytes)) = some (some (.int .i8 0), 1, 1) := by kernel_rfl

/-- A slice comes back that reads as f; nothing that was there has turned. -/
def RetSees (w : World) (n : Nat) (f : Nat → Value) (e : Ending) (w' : World) : Prop := ∃ ao b o c, e = .returned (.slice ao n c) ∧ Sees w' ao b o n c f ∧ w.heap.size ≤ b ∧ w.Since w.heap.size w'

theorem Gr.ret {w w' : World} {base : Nat} {e : TypeId} {v : Value} {n : Nat} {f : Nat → Value} (h : Gr w' base e v n f) (s : w.Since w.heap.size w') (hb : w.heap.size ≤ base) : RetSees w n f (.returned v) w' := by
  obtain ⟨ao, b, c, rfl, hb2, hs⟩ := h.sees
  exact ⟨ao, b, 0, c, rfl, hs, Nat.le_trans hb hb2, s⟩

/-- A slice comes back that the call has made, and that reads as f; nothing that was there has turned. -/
def RetGr (E : TypeId) (w : World) (n : Nat) (f : Nat → Value) (e : Ending) (w' : World) : Prop := ∃ ao c, e = .returned (.slice ao n c) ∧ Gr w' w.heap.size E (.slice ao n c) n f ∧ w.Since w.heap.size w'

theorem RetGr.sees {E : TypeId} {w : World} {n : Nat} {f : Nat → Value} {e : Ending} {w' : World} (h : RetGr E w n f e w') : RetSees w n f e w' := by
  obtain ⟨ao, c, rfl, hg, hs⟩ := h
  obtain ⟨b, hb, hs'⟩ := hg.see
  exact ⟨ao, b, 0, c, rfl, hs', hb, hs⟩

theorem Gr.ret' {w w' : World} {e : TypeId} {v : Value} {n : Nat} {f : Nat → Value} (h : Gr w' w.heap.size e v n f) (s : w.Since w.heap.size w') : RetGr e w n f (.returned v) w' := by
  obtain ⟨ao, b, c, rfl, hb2, hs⟩ := h.sees
  exact ⟨ao, c, rfl, h, s⟩

set_option maxHeartbeats 400000 in
/-- A copy of a list. -/
theorem copyOf_gr {ao : Option Addr} {b o n c : Nat} {x : Nat → Int} (w : World) (hn : n ≤ 4294967296) (hx : Sees w ao b o n c (fun i => .int .i64 (x i))) :
    Calls Try.prog 19 #[.slice ao n c] w (RetGr 3 w n (fun i => .int .i64 (x i))) := by
  go_enter Try.func19, Try.ntmps19
  have h1 := Gr.empty w w.heap.size 3 (fun _ => .int .i64 0) (Nat.le_refl _)
  have hx1 : Sees (w.alloc (.cells #[] 3)) ao b o n c (fun i => .int .i64 (x i)) := hx.since ((World.Since.refl _ _).alloc (Nat.le_refl _) _)
  have hs1 : w.Since w.heap.size (w.alloc (.cells #[] 3)) := (World.Since.refl _ _).alloc (Nat.le_refl _) _
  go_wp2_with (at_builtin; refine wpList_cat _ rfl _ _ 22 rfl w.heap.size 3 (.int .i64 0) 8 Try.underlying22 Try.infoInt rfl _ _ _ rfl h1 rfl hx1 (fun _ _ => rfl) (by omega) (by omega) (by simp) ?_)
  intro v' w1 hg hgr hat
  have hs : w.Since w.heap.size w1 := hs1.grown hgr (by simp) (by simp [Value.ownBlock])
  have hg' : Gr w1 w.heap.size 3 v' n (fun i => .int .i64 (x i)) := by
    first | exact hg | (rw [Nat.zero_add] at hg; exact hg.congr fun i _ => by simp)
  clear hg hgr hat h1 hx1 hs1
  go_wp2
  go_ret
  exact hg'.ret' hs

theorem copyOf_any {ao : Option Addr} {b o n c : Nat} {x : Nat → Int} (w : World) (hn : n ≤ 4294967296) (hx : Sees w ao b o n c (fun i => .int .i64 (x i))) :
    Calls Try.prog 19 #[.slice ao n c] w (RetSees w n (fun i => .int .i64 (x i))) := (copyOf_gr w hn hx).mono fun _ _ h => h.sees

set_option maxHeartbeats 400000 in
/-- The numbers as int8. -/
theorem smallOf_any {ao : Option Addr} {b o n c : Nat} {x : Nat → Int} (w : World) (hn : n ≤ 4294967296) (hx : Sees w ao b o n c (fun i => .int .i64 (x i))) :
    Calls Try.prog 21 #[.slice ao n c] w (RetSees w n (fun i => .int .i8 (IntKind.i8.wrap (x i)))) := by
  go_enter Try.func21, Try.ntmps21
  go_wp2_with (at_make; refine wpList_make0 _ rfl _ _ 32 rfl w.heap.size 38 (.int .i8 0) 1 Try.underlying32 Try.infoInt8 (fun i => .int .i8 (IntKind.i8.wrap (x i))) n rfl rfl (by omega) hn (Nat.le_refl _) ?_)
  intro w1 hg1 hgr1
  have hs1 : w.Since w.heap.size w1 := (World.Since.refl _ _).grown hgr1 (Nat.le_refl _) (by simp)
  clear hgr1
  go_wp2
  go_loopg [3, 5, 11] n (fun g v _ i wr => ∃ k : Nat, k ≤ n ∧ g = n - k ∧ i = .int .i64 k ∧ Gr wr w.heap.size 38 v k (fun i => .int .i8 (IntKind.i8.wrap (x i))) ∧ w.Since w.heap.size wr)
  case atStart => exact ⟨0, by omega, rfl, rfl, hg1, hs1⟩
  case round =>
    obtain ⟨k, hk, rfl, rfl, hg, hs⟩ := hrel
    clear hg1 hs1
    by_cases hlt : k < n
    · obtain ⟨rfl, hc⟩ := hx.get hlt
      have hc' : wr.cell? ⟨b, o + k, none⟩ = some (.int .i64 (x k)) := by rw [hs.cell (World.block_lt_of_cell? _ _ hc)]; exact hc
      have hsz : w.heap.size ≤ wr.heap.size := hs.size
      clear hc
      go_wp2_with (at_builtin; go_must (refine wpList_push wr rfl _ _ 32 rfl w.heap.size 38 (.int .i8 0) 1 Try.underlying32 Try.infoInt8 rfl _ _ _ _ (by rfl) hg (by rfl) rfl (by omega) (by omega) hsz ?_))
      intro v' w2 hg2 hgr2 hat
      have hs2 : w.Since w.heap.size w2 := (hs.alloc hsz _).grown hgr2 (by simp; omega) (fun k hk => (hg.ge k hk).1)
      have hg3 := hg2.congr (g := fun i => .int .i8 (IntKind.i8.wrap (x i))) (fun i _ => by split <;> simp_all)
      clear hg hs hc' hg2 hgr2 hat hx
      go_wp2
      go_roundg (n - (k + 1))
      case rel => exact ⟨k + 1, by omega, rfl, by go_num, hg3, hs2⟩
      case measure => omega
    · obtain rfl : k = n := by omega
      go_wp2
      go_ret
      exact hg.ret hs (Nat.le_refl _)

set_option maxHeartbeats 400000 in
/-- Numbers that are greater by a number. -/
theorem raised_gr {ao : Option Addr} {b o n c : Nat} {x : Nat → Int} (d : Int) (w : World) (hn : n ≤ 4294967296) (hx : Sees w ao b o n c (fun i => .int .i64 (x i))) (hd0 : 0 ≤ d) (hd1 : d ≤ 17179869184)
    (hb : ∀ i, i < n → 0 ≤ x i ∧ x i ≤ 17179869184) :
    Calls Try.prog 15 #[.slice ao n c, .int .i64 d] w (RetGr 3 w n (fun i => .int .i64 (x i + d))) := by
  have h1 := Gr.empty w w.heap.size 3 (fun i => .int .i64 (x i + d)) (Nat.le_refl _)
  have hs1 : w.Since w.heap.size (w.alloc (.cells #[] 3)) := (World.Since.refl _ _).alloc (Nat.le_refl _) _
  have HB := Lib.hid hb
  clear hb
  go_enter Try.func15, Try.ntmps15
  go_wp2
  go_loopg [5, 7, 11] n (fun g v _ i wr => ∃ k : Nat, k ≤ n ∧ g = n - k ∧ i = .int .i64 k ∧ Gr wr w.heap.size 3 v k (fun i => .int .i64 (x i + d)) ∧ w.Since w.heap.size wr)
  case atStart => exact ⟨0, by omega, rfl, rfl, h1, hs1⟩
  case round =>
    obtain ⟨k, hk, rfl, rfl, hg, hs⟩ := hrel
    clear h1 hs1
    by_cases hlt : k < n
    · obtain ⟨rfl, hc⟩ := hx.get hlt
      have hc' : wr.cell? ⟨b, o + k, none⟩ = some (.int .i64 (x k)) := by rw [hs.cell (World.block_lt_of_cell? _ _ hc)]; exact hc
      have hsz : w.heap.size ≤ wr.heap.size := hs.size
      obtain ⟨b1, b2⟩ := HB.out k hlt
      clear hc
      go_wp2_with (at_builtin; refine wpList_push wr rfl _ _ 22 rfl w.heap.size 3 (.int .i64 0) 8 Try.underlying22 Try.infoInt rfl _ _ _ _ (by rfl) hg (by rfl) rfl (by omega) (by omega) hsz ?_)
      intro v' w2 hg2 hgr2 hat
      have hs2 : w.Since w.heap.size w2 := (hs.alloc hsz _).grown hgr2 (by simp; omega) (fun k hk => (hg.ge k hk).1)
      have hg3 := hg2.congr (g := fun i => .int .i64 (x i + d)) (fun i _ => by split <;> simp_all)
      clear hg hs hc' hg2 hgr2 hat hx
      go_wp2
      go_roundg (n - (k + 1))
      case rel => exact ⟨k + 1, by omega, rfl, by go_num, hg3, hs2⟩
      case measure => omega
    · obtain rfl : k = n := by omega
      go_wp2
      go_ret
      exact hg.ret' hs

theorem raised_any {ao : Option Addr} {b o n c : Nat} {x : Nat → Int} (d : Int) (w : World) (hn : n ≤ 4294967296) (hx : Sees w ao b o n c (fun i => .int .i64 (x i))) (hd0 : 0 ≤ d) (hd1 : d ≤ 17179869184)
    (hb : ∀ i, i < n → 0 ≤ x i ∧ x i ≤ 17179869184) :
    Calls Try.prog 15 #[.slice ao n c, .int .i64 d] w (RetSees w n (fun i => .int .i64 (x i + d))) := (raised_gr d w hn hx hd0 hd1 hb).mono fun _ _ h => h.sees

theorem ret_bool {a b : Bool} (h : a = b) : Ending.returned (.bool a) = .returned (.bool b) := by rw [h]

def sameB (n m : Nat) (x y : Nat → Int) : Bool := decide (n = m ∧ ∀ i, i < n → x i = y i)

set_option maxHeartbeats 400000 in
theorem same_any {ao : Option Addr} {b o n c : Nat} {x : Nat → Int} {ao' : Option Addr} {b' o' n' c' : Nat} {y : Nat → Int} (w : World) (hn : n ≤ 17179869184) (hn' : n' ≤ 17179869184)
    (hx : Sees w ao b o n c (fun i => .int .i64 (x i))) (hy : Sees w ao' b' o' n' c' (fun i => .int .i64 (y i))) :
    Calls Try.prog 12 #[.slice ao n c, .slice ao' n' c'] w fun e w' => e = .returned (.bool (sameB n n' x y)) ∧ w.Since w.heap.size w' := by
  by_cases hne : n = n'
  · subst hne
    go_enter Try.func12, Try.ntmps12
    go_wp2
    go_loopg [5, 13] n (fun g _ i wr => ∃ k : Nat, k ≤ n ∧ g = n - k ∧ i = .int .i64 k ∧ (∀ j, j < k → x j = y j) ∧ w.Since w.heap.size wr)
    case atStart => exact ⟨0, by omega, rfl, rfl, fun j hj => absurd hj (Nat.not_lt_zero _), World.Since.refl _ _⟩
    case round =>
      obtain ⟨k, hk, rfl, rfl, hall, hs⟩ := hrel
      have HA := Lib.hid hall
      clear hall
      by_cases hlt : k < n
      · obtain ⟨rfl, hc⟩ := hx.get hlt
        obtain ⟨rfl, hd⟩ := hy.get hlt
        have hc' : wr.cell? ⟨b, o + k, none⟩ = some (.int .i64 (x k)) := by rw [hs.cell (World.block_lt_of_cell? _ _ hc)]; exact hc
        have hd' : wr.cell? ⟨b', o' + k, none⟩ = some (.int .i64 (y k)) := by rw [hs.cell (World.block_lt_of_cell? _ _ hd)]; exact hd
        have hlz : (k : Int) < (n : Int) := by omega
        clear hc hd
        by_cases hxy : x k = y k
        · have hb1 : (x k != y k) = false := by simp [hxy]
          have HX := Lib.hid hxy
          clear hxy
          go_wp2
          go_quiet (fail)
          go_wp2
          go_roundg (n - (k + 1))
          case rel => exact ⟨k + 1, by omega, rfl, by go_num, fun j hj => by rcases Nat.lt_succ_iff_lt_or_eq.1 hj with h | h; exact HA.out j h; subst h; exact HX.out, since_drewN hs _⟩
          case measure => omega
        · have hb1 : (x k != y k) = true := by simp [hxy]
          go_wp2
          go_quiet (fail)
          go_wp2
          go_ret
          exact ⟨ret_bool (by unfold sameB; symm; rw [decide_eq_false_iff_not]; exact fun h => hxy (h.2 k hlt)), since_drewN hs _⟩
      · obtain rfl : k = n := by omega
        go_wp2
        go_ret
        exact ⟨ret_bool (by unfold sameB; symm; rw [decide_eq_true_eq]; exact ⟨rfl, HA.out⟩), hs⟩
  · have hb0 : ((n : Int) != (n' : Int)) = true := by simp; omega
    go_enter Try.func12, Try.ntmps12
    go_wp2
    go_ret
    exact ⟨ret_bool (by unfold sameB; symm; rw [decide_eq_false_iff_not]; exact fun h => hne h.1), World.Since.refl _ _⟩

def levelsB (n : Nat) (x : Nat → Int) : Bool := decide (∀ i, i < n → 0 ≤ x i ∧ x i ≤ 126)

set_option maxHeartbeats 400000 in
theorem areLevels_any {ao : Option Addr} {b o n c : Nat} {x : Nat → Int} (w : World) (hn : n ≤ 17179869184) (hx : Sees w ao b o n c (fun i => .int .i64 (x i))) :
    Calls Try.prog 11 #[.slice ao n c] w fun e w' => e = .returned (.bool (levelsB n x)) ∧ w = w' := by
  go_enter Try.func11, Try.ntmps11
  go_wp2
  go_loop [4, 7] (fun _ i => ∃ k : Nat, k ≤ n ∧ i = .int .i64 k ∧ (∀ j, j < k → 0 ≤ x j ∧ x j ≤ 126)) (fun _ i => n - (intOf i).toNat)
  case atStart => exact ⟨0, by omega, rfl, fun j hj => absurd hj (Nat.not_lt_zero _)⟩
  case round =>
    obtain ⟨k, hk, rfl, hall⟩ := hrel
    have HA := Lib.hid hall
    clear hall
    by_cases hlt : k < n
    · obtain ⟨rfl, hc⟩ := hx.get hlt
      have hlz : (k : Int) < (n : Int) := by omega
      by_cases h1 : x k < 0
      · go_wp2
        go_ret
        exact ⟨ret_bool (by unfold levelsB; symm; rw [decide_eq_false_iff_not]; exact fun h => by have := h k hlt; omega), rfl⟩
      · by_cases h2 : 126 < x k
        · go_wp2
          go_ret
          exact ⟨ret_bool (by unfold levelsB; symm; rw [decide_eq_false_iff_not]; exact fun h => by have := h k hlt; omega), rfl⟩
        · go_wp2
          go_round
          case rel => exact ⟨k + 1, by omega, by go_num, fun j hj => by rcases Nat.lt_succ_iff_lt_or_eq.1 hj with h | h; exact HA.out j h; subst h; omega⟩
          case measure => simp [intOf]; omega
    · obtain rfl : k = n := by omega
      go_wp2
      go_ret
      exact ⟨ret_bool (by unfold levelsB; symm; rw [decide_eq_true_eq]; exact HA.out), rfl⟩

end Go.Proofs.Ytlppmagjgodkjaa
