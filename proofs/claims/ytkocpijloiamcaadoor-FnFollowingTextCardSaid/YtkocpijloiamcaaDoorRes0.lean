/- impl.Resolve without brackets, over two rows of noughts that a region has just made. -/
import Derived.Test.YtkocpijloiamcaaDoorThr
import Derived.Test.YtkocpijloiamcaaDoorRsv
namespace Go.Proofs.YtkocpijloiamcaaDoor
open Go.RowKit
set_option linter.unusedVariables false

/-- What comes back. -/
def RetZ (w : World) (n : Nat) (x : Nat → Int) (g : Int) (e : Ending) (w' : World) : Prop :=
  ∃ (ft fl : Nat → Int) (a : Option Addr) (c : Nat) (a2 : Option Addr) (b2 o2 c2 : Nat), Done x (fun _ => 0) (fun _ => 0) (baseP x n g) n ft fl ∧
    e = .returned (.tuple #[.slice a n c, .slice a2 n c2, .int .i64 (baseP x n g), .bool true]) ∧ Sees w' a2 b2 o2 n c2 (fun i => .int .i64 (fl i)) ∧ w.Since w.heap.size w'

theorem resolve0 {ao : Option Addr} {b o n c : Nat} {g : Int} {x : Nat → Int} (w : World) (ht : Tab w) (hN : n ≤ 8589934592) (h0 : 0 < n) (hg : g = -1 ∨ g = 0 ∨ g = 1) (hok : ∀ i, i < n → clsOk (x i)) (hB7 : ∀ i, i < n → x i = 7 → n ≤ i + 1)
    (hx : Sees w ao b o n c (fun i => .int .i64 (x i))) :
    Calls Tryd.prog 15 #[.slice ao n c, .slice (some ⟨w.heap.size, 0, none⟩) n n, .slice (some ⟨w.heap.size + 1, 0, none⟩) n n, .int .i64 g] ((w.alloc (.cells (madeCells #[.int .i64 0] n) 3)).alloc (.cells (madeCells #[.int .i64 0] n) 3)).drew (RetZ w n x g) ∧
    Calls Tryd.prog 15 #[.slice ao n c, .slice (some ⟨w.heap.size + 1, 0, none⟩) n n, .slice (some ⟨w.heap.size, 0, none⟩) n n, .int .i64 g] ((w.alloc (.cells (madeCells #[.int .i64 0] n) 3)).alloc (.cells (madeCells #[.int .i64 0] n) 3)).drew (RetZ w n x g) := by
  have key : ∀ (W : World) (p q : Nat), W.rowIs p 3 n (fun _ => .int .i64 0) → W.rowIs q 3 n (fun _ => .int .i64 0) → w.Since w.heap.size W →
      Calls Tryd.prog 15 #[.slice ao n c, .slice (some ⟨p, 0, none⟩) n n, .slice (some ⟨q, 0, none⟩) n n, .int .i64 g] W (RetZ w n x g) := by
    intro W p q hp hq hs
    refine (implResolve_all (x := x) (kd := fun _ => 0) (vl := fun _ => 0) (g := g) W (ht.since hs) hN (.inr (fun _ _ => rfl)) h0 hg hok hB7 (fun _ _ => .inl rfl) (fun _ _ => by omega) (hx.since hs) (Sees.ofRow hp) (Sees.ofRow hq)).mono ?_
    rintro e w' ⟨ft, fl, hD, a, b, o, c, a2, b2, o2, c2, rfl, hT, hL, _, _, hs2⟩
    exact ⟨ft, fl, a, c, a2, b2, o2, c2, hD, rfl, hL, since2 hs hs2⟩
  have r := row2 w (fun w => zeros w n) (fun w => zeros w n)
  exact ⟨key _ _ _ r.1 r.2.1 r.2.2, key _ _ _ r.2.1 r.1 r.2.2⟩
end Go.Proofs.YtkocpijloiamcaaDoor
