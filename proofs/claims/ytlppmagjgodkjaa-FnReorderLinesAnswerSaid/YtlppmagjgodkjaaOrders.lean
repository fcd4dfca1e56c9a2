/- impl.Reorder over bidi.Reorder: the places of one line. -/
import Derived.Test.YtlppmagjgodkjaaReorder
namespace Go.Proofs.Ytlppmagjgodkjaa
open Go.RowKit

set_option maxHeartbeats 400000 in
theorem signs_any {ao : Option Addr} {b o n c : Nat} {x : Nat → Int} (w : World) (hn : n ≤ 4294967296) (hx : Sees w ao b o n c (fun i => .int .i8 (x i))) :
    Calls Try.prog 24 #[.slice ao n c] w (RetSees w n (fun i => .int .i8 (x i))) := by
  have hmk := run_make_row' (P := Try.prog) 36 40 (.int .i8 0) 1 Try.underlying36 Try.infoLevel rfl .i64 .i64 n (by omega) (by omega)
  go_enter Try.func24, Try.ntmps24
  go_wp2
  clear hmk
  go_loopg [4, 5, 11] n (fun g _ _ i wr => ∃ k : Nat, k ≤ n ∧ g = n - k ∧ i = .int .i64 k ∧ wr.rowIs w.heap.size 40 n (fun j => if j < k then .int .i8 (x j) else .int .i8 0) ∧ w.Since w.heap.size wr)
  case atStart => exact ⟨0, by omega, rfl, rfl, (World.rowIs_made w _ n 40).congr (fun j _ => by simp), (World.Since.refl _ _).alloc (Nat.le_refl _) _⟩
  case round =>
    obtain ⟨k, hk, rfl, rfl, hrow, hs⟩ := hrel
    by_cases hlt : k < n
    · obtain ⟨rfl, hc⟩ := hx.get hlt
      have hc' : wr.cell? ⟨b, o + k, none⟩ = some (.int .i8 (x k)) := by rw [hs.cell (World.block_lt_of_cell? _ _ hc)]; exact hc
      have g1 : wr.cell? ⟨w.heap.size, k, none⟩ = some (.int .i8 0) := by simpa using hrow.cell hlt
      have g2 := hrow.frozen k
      have R := (hrow.set k (.int .i8 (x k))).congr (g := fun j => if j < k + 1 then .int .i8 (x j) else .int .i8 0) (fun j _ => by
        by_cases e : j = k
        · subst e; simp
        · by_cases h1 : j < k
          · rw [if_neg e, if_pos h1, if_pos (by omega)]
          · rw [if_neg e, if_neg h1, if_neg (by omega)])
      have S := hs.setCell (a := ⟨w.heap.size, k, none⟩) (Nat.le_refl _) (.int .i8 (x k))
      clear hrow hs hc
      go_wp2
      go_roundg (n - (k+1))
      case rel => exact ⟨k + 1, by omega, rfl, by go_num, R, S⟩
      case measure => omega
    · obtain rfl : k = n := by omega
      go_wp2
      go_ret
      exact ⟨_, _, _, _, rfl, (Sees.ofRow hrow).congr (fun j hj => by simp [hj]), Nat.le_refl _, hs⟩

set_option maxHeartbeats 400000 in
theorem bidiReorder_any {ao : Option Addr} {b o n c : Nat} {x : Nat → Int} (w : World) (hn : n ≤ 4294967296) (hx : Sees w ao b o n c (fun i => .int .i8 (x i))) (hl : ∀ i, i < n → 0 ≤ x i ∧ x i ≤ 126) :
    Calls Try.prog 20 #[.slice ao n c] w (RetSees w n (ordVal (Ord.U x n 126))) := by
  have HL := Lib.hid hl
  clear hl
  go_enter Try.func20, Try.ntmps20
  go_wp2_with fail
  refine (signs_any _ hn hx).mono ?_
  rintro e w1 ⟨ao1, b1, o1, c1, rfl, hs1, hf1, hsi1⟩
  go_wp2_with fail
  refine (computeReordering_any _ hn hs1 HL.out).mono ?_
  rintro e w2 ⟨ao2, b2, o2, c2, rfl, hs2, hf2, hsi2⟩
  go_wp2
  go_ret
  exact ⟨_, _, _, _, rfl, hs2, Nat.le_trans hsi1.size hf2, since2 hsi1 hsi2⟩

theorem wrap8_small {x : Int} (h0 : 0 ≤ x) (h1 : x ≤ 126) : IntKind.i8.wrap x = x := wraps_i8 x h0 (by omega)

set_option maxHeartbeats 400000 in
theorem implReorder_gr {ao : Option Addr} {b o n c : Nat} {x : Nat → Int} (w : World) (hn : n ≤ 4294967296) (hx : Sees w ao b o n c (fun i => .int .i64 (x i))) (hl : ∀ i, i < n → 0 ≤ x i ∧ x i ≤ 126) :
    Calls Try.prog 13 #[.slice ao n c] w (RetGr 3 w n (ordVal (Ord.U x n 126))) := by
  have HL := Lib.hid hl
  clear hl
  go_enter Try.func13, Try.ntmps13
  go_wp2_with fail
  refine (smallOf_any _ hn hx).mono ?_
  rintro e w1 ⟨ao1, b1, o1, c1, rfl, hs1, hf1, hsi1⟩
  have hs1' := hs1.congr (g := fun i => .int .i8 (x i)) (fun i hi => by rw [wrap8_small (HL.out i hi).1 (HL.out i hi).2])
  clear hs1
  go_wp2_with fail
  refine (bidiReorder_any _ hn hs1' HL.out).mono ?_
  rintro e w2 ⟨ao2, b2, o2, c2, rfl, hs2, hf2, hsi2⟩
  go_wp2_with fail
  refine (copyOf_gr _ hn hs2).mono ?_
  rintro e w3 ⟨ao3, c3, rfl, hs3, hsi3⟩
  go_wp2
  go_ret
  exact ⟨_, _, rfl, hs3.base (since2 hsi1 hsi2).size, since2 hsi1 (since2 hsi2 hsi3)⟩

theorem implReorder_any {ao : Option Addr} {b o n c : Nat} {x : Nat → Int} (w : World) (hn : n ≤ 4294967296) (hx : Sees w ao b o n c (fun i => .int .i64 (x i))) (hl : ∀ i, i < n → 0 ≤ x i ∧ x i ≤ 126) :
    Calls Try.prog 13 #[.slice ao n c] w (RetSees w n (ordVal (Ord.U x n 126))) := (implReorder_gr w hn hx hl).mono fun _ _ h => h.sees

end Go.Proofs.Ytlppmagjgodkjaa
