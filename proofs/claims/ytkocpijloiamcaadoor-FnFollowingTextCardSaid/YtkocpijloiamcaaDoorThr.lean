/- Blocks that one region makes, one after the other, in any order. -/
import Derived.Test.YtkocpijloiamcaaDoorGA
import Derived.Deep.OwnRows
namespace Go.Proofs.YtkocpijloiamcaaDoor
open Go.RowKit
set_option linter.unusedVariables false

section
variable {w : World} {T : TypeId} {p n n1 n2 n3 : Nat} {f f1 f2 f3 : Nat → Value} {o1 o2 o3 : Obj}

theorem rowIs_keep (h : w.rowIs p T n f) (o : Obj) : (w.alloc o).rowIs p T n f := h.of_block (((World.Since.refl w.heap.size w).alloc (Nat.le_refl _) o).block _ h.lt)

theorem row2 (w : World) (h1 : ∀ w : World, (w.alloc o1).rowIs w.heap.size T n1 f1) (h2 : ∀ w : World, (w.alloc o2).rowIs w.heap.size T n2 f2) :
    ((w.alloc o1).alloc o2).drew.rowIs w.heap.size T n1 f1 ∧ ((w.alloc o1).alloc o2).drew.rowIs (w.heap.size + 1) T n2 f2 ∧ w.Since w.heap.size ((w.alloc o1).alloc o2).drew := by
  have e := h2 (w.alloc o1)
  rw [World.size_alloc] at e
  have k1 := rowIs_keep (h1 w) o2
  exact ⟨k1.of_block rfl, e.of_block rfl, (((World.Since.refl w.heap.size w).alloc (Nat.le_refl _) o1).alloc (by rw [World.size_alloc]; omega) o2).drew⟩

theorem row3 (w : World) (h1 : ∀ w : World, (w.alloc o1).rowIs w.heap.size T n1 f1) (h2 : ∀ w : World, (w.alloc o2).rowIs w.heap.size T n2 f2) (h3 : ∀ w : World, (w.alloc o3).rowIs w.heap.size T n3 f3) :
    (((w.alloc o1).alloc o2).alloc o3).drew.rowIs w.heap.size T n1 f1 ∧ (((w.alloc o1).alloc o2).alloc o3).drew.rowIs (w.heap.size + 1) T n2 f2 ∧ (((w.alloc o1).alloc o2).alloc o3).drew.rowIs (w.heap.size + 1 + 1) T n3 f3 ∧ w.Since w.heap.size (((w.alloc o1).alloc o2).alloc o3).drew := by
  have e2 := h2 (w.alloc o1)
  rw [World.size_alloc] at e2
  have e3 := h3 ((w.alloc o1).alloc o2)
  rw [World.size_alloc, World.size_alloc] at e3
  have k1 := rowIs_keep (rowIs_keep (h1 w) o2) o3
  have k2 := rowIs_keep e2 o3
  exact ⟨k1.of_block rfl, k2.of_block rfl, e3.of_block rfl, ((((World.Since.refl w.heap.size w).alloc (Nat.le_refl _) o1).alloc (by rw [World.size_alloc]; omega) o2).alloc (by rw [World.size_alloc, World.size_alloc]; omega) o3).drew⟩

theorem zeros (w : World) (n : Nat) : (w.alloc (.cells (madeCells #[.int .i64 0] n) 3)).rowIs w.heap.size 3 n (fun _ => .int .i64 0) := World.rowIs_made w _ n _
theorem single (w : World) (v : Value) : (w.alloc (.cells #[v] 3)).rowIs w.heap.size 3 1 (fun _ => v) := World.rowIs_alloc w #[v] _ _ (fun i hi => match i, hi with
  | 0, _ => rfl)
end
end Go.Proofs.YtkocpijloiamcaaDoor
