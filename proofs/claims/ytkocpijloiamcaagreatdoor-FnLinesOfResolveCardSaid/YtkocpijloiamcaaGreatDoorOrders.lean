/- impl.Reorder over bidi.Reorder: the places of one line. -/
import Derived.Test.YtkocpijloiamcaaGreatDoorReorder
import Derived.Test.YtkocpijloiamcaaGreatDoorSmall
namespace Go.Proofs.YtkocpijloiamcaaGreatDoor
open Go.RowKit

set_option maxHeartbeats 400000 in
theorem signs_any {ao : Option Addr} {b o n c : Nat} {x : Nat → Int} (w : World) (hn : n ≤ 4294967296) (hx : Sees w ao b o n c (fun i => .int .i8 (x i))) :
    Calls Tryz.prog 36 #[.slice ao n c] w (RetSees w n (fun i => .int .i8 (x i))) := by
  have hmk := run_make_row' (P := Tryz.prog) 65 63 (.int .i8 0) 1 Tryz.underlying65 Tryz.infoLevel rfl .i64 .i64 n (by omega) (by omega)
  go_enter Tryz.func36, Tryz.ntmps36
  go_wp2
  clear hmk
  go_loopg [4, 5, 11] n (fun g _ _ i wr => ∃ k : Nat, k ≤ n ∧ g = n - k ∧ i = .int .i64 k ∧ wr.rowIs w.heap.size 63 n (fun j => if j < k then .int .i8 (x j) else .int .i8 0) ∧ w.Since w.heap.size wr)
  case atStart => exact ⟨0, by omega, rfl, rfl, (World.rowIs_made w _ n 63).congr (fun j _ => by simp), (World.Since.refl _ _).alloc (Nat.le_refl _) _⟩
  case round =>
    obtain ⟨k, hk, rfl, rfl, hrow, hs⟩ := hrel
    by_cases hlt : k < n
    · obtain ⟨rfl, hc⟩ := hx.get hlt
      have hc' : wr.cell? ⟨b, o + k, none⟩ = some (.int .i8 (x k)) := by rw [hs.cell (World.block_lt_of_cell? _ _ hc)]; exact hc
      have g1 : wr.cell? ⟨w.heap.size, k, none⟩ = some (.int .i8 0) := by simpa using hrow.cell hlt
      have g2 := hrow.frozen k
      have R := (hrow.set k (.int .i8 (x k))).congr (g := fun j => if j < k + 1 then .int .i8 (x j) else .int .i8 0) (fun j _ => by
        by_cases e : j = k
        · subst e; simp
        · by_cases h1 : j < k
          · rw [if_neg e, if_pos h1, if_pos (by omega)]
          · rw [if_neg e, if_neg h1, if_neg (by omega)])
      have S := hs.setCell (a := ⟨w.heap.size, k, none⟩) (Nat.le_refl _) (.int .i8 (x k))
      clear hrow hs hc
      go_wp2
      go_roundg (n - (k+1))
      case rel => exact ⟨k + 1, by omega, rfl, by go_num, R, S⟩
      case measure => omega
    · obtain rfl : k = n := by omega
      go_wp2
      go_ret
      exact ⟨_, _, _, _, rfl, (Sees.ofRow hrow).congr (fun j hj => by simp [hj]), Nat.le_refl _, hs⟩

theorem wrap8_small {x : Int} (h0 : 0 ≤ x) (h1 : x ≤ 126) : IntKind.i8.wrap x = x := wraps_i8 x h0 (by omega)

end Go.Proofs.YtkocpijloiamcaaGreatDoor
