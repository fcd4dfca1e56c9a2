/- Lists of lists: rows beside them, and what spec.SameLists says of them. -/
import Derived.Test.YtmaieenphcnefaaDoorLL
import Derived.Test.YtmaieenphcnefaaDoorSame
import Derived.Test.YtmaieenphcnefaaDoorQuiet
import Derived.Test.YtmaieenphcnefaaDoorInfo
import Derived.Deep.LoopGhost
import Derived.Lib.Hide
import Derived.Deep.DeepCutAuto
import Derived.BigQuiet
import Derived.Deep.QuietTactic
namespace Go.Proofs.YtmaieenphcnefaaDoor
open Go.RowKit
set_option linter.unusedVariables false

theorem LL.base {w : World} {base base' : Nat} {v : Value} {R : List (List Nat)} (h : LL w base v R) (hb : base' ≤ base) : LL w base' v R := by
  obtain ⟨f, h1, h2, h3, h4⟩ := h
  exact ⟨f, h1.base hb, fun j hj => (h2 j hj).base hb, h3, h4⟩

theorem RetLL.trans {w w1 : World} {R : List (List Nat)} {e : Ending} {w' : World} (s : w.Since w.heap.size w1) (h : RetLL w1 R e w') : RetLL w R e w' := by
  obtain ⟨v, he, hl, hs⟩ := h
  exact ⟨v, he, hl.base s.size, since2 s hs⟩

/-- A new row beside lists that were there. -/
theorem LL.beside {w w' : World} {base : Nat} {v u : Value} {R : List (List Nat)} {r : List Nat} (h : LL w base v R) (s : w.Since w.heap.size w') (hu : Gr w' w.heap.size 3 u r.length (cellsOf r)) (hb : base ≤ w.heap.size) : ∃ f, LLp w' base v R u r f := by
  obtain ⟨f, h1, h2, h3, h4⟩ := h
  refine ⟨f, h1.since s, fun j hj => (h2 j hj).since s, h3, h4, hu.base hb, fun k q1 q2 => ?_, fun j hj k q1 q2 => ?_⟩
  · have := (h1.ge k q1).2
    have := (hu.ge k q2).1
    omega
  · have := ((h2 j hj).ge k q1).2
    have := (hu.ge k q2).1
    omega

theorem since_kp {w w1 w2 : World} {B : Nat} {S : Nat → Prop} (h : w.Since B w1) (k : Kp S w1 w2) (hB : B ≤ w1.heap.size) (hS : ∀ q, S q → B ≤ q) : w.Since B w2 :=
  ⟨k.os.trans h.os, k.tape.trans h.tape, k.output.trans h.output, Nat.le_trans h.size k.size, fun q hq => (k.block q (by omega) (fun s => by have := hS q s; omega)).trans (h.block q hq)⟩

/-- Lists that lie from a place on stay where no block from there on has turned. -/
theorem LL.keptFrom {w w' : World} {base : Nat} {v : Value} {R : List (List Nat)} {S : Nat → Prop} (h : LL w base v R) (s : Kp S w w') (hS : ∀ q, S q → q < base) : LL w' base v R :=
  h.kept s (fun k hk hs => by
    obtain ⟨f, h1, _⟩ := h
    have := (h1.ge k hk).1
    have := hS k hs
    omega) (fun f h2 _ j hj k hk hs => by
    have := ((h2 j hj).ge k hk).1
    have := hS k hs
    omega)

theorem take_snoc {R : List (List Nat)} {k : Nat} (hk : k < R.length) : R.take (k + 1) = R.take k ++ [R.getD k []] := by
  rw [List.take_add_one, List.getElem?_eq_getElem hk, List.getD_eq_getElem?_getD, List.getElem?_eq_getElem hk]; rfl

/-- A row of two numbers, written out. -/
theorem Gr.two (w : World) (a b : Nat) : Gr (w.alloc (.cells #[.int .i64 ((a : Nat) : Int), .int .i64 ((b : Nat) : Int)] 3)) w.heap.size 3 (.slice (some ⟨w.heap.size, 0, none⟩) 2 2) 2 (cellsOf [a, b]) :=
  ⟨by simp, .inr ⟨w.heap.size, 2, #[.int .i64 ((a : Nat) : Int), .int .i64 ((b : Nat) : Int)], rfl, Nat.le_refl _, heap_alloc_new w _, Nat.le_refl _, by unfold maxLen; omega, rfl, rfl⟩⟩

/-- Nothing but draws. -/
def Drawn (w w' : World) : Prop := ∃ m, w' = w.drewN m
theorem Drawn.refl (w : World) : Drawn w w := ⟨0, rfl⟩
theorem Drawn.cell {w w' : World} (h : Drawn w w') (a : Addr) : w'.cell? a = w.cell? a := by obtain ⟨m, rfl⟩ := h; rfl
theorem Drawn.drewN {w w' : World} (h : Drawn w w') (n : Nat) : Drawn w (w'.drewN n) := by obtain ⟨m, rfl⟩ := h; exact ⟨m + n, World.drewN_drewN _ _ _⟩

set_option maxHeartbeats 400000 in
theorem same_q {ao : Option Addr} {b o n c : Nat} {x : Nat → Int} {ao' : Option Addr} {b' o' n' c' : Nat} {y : Nat → Int} (w : World) (hn : n ≤ 17179869184) (hn' : n' ≤ 17179869184)
    (hx : Sees w ao b o n c (fun i => .int .i64 (x i))) (hy : Sees w ao' b' o' n' c' (fun i => .int .i64 (y i))) :
    Calls Tryd.prog 21 #[.slice ao n c, .slice ao' n' c'] w fun e w' => e = .returned (.bool (sameB n n' x y)) ∧ Drawn w w' := by
  by_cases hne : n = n'
  · subst hne
    go_enter Tryd.func21, Tryd.ntmps21
    go_wp2
    go_loopg [5, 13] n (fun g _ i wr => ∃ k : Nat, k ≤ n ∧ g = n - k ∧ i = .int .i64 k ∧ (∀ j, j < k → x j = y j) ∧ Drawn w wr)
    case atStart => exact ⟨0, by omega, rfl, rfl, fun j hj => absurd hj (Nat.not_lt_zero _), Drawn.refl _⟩
    case round =>
      obtain ⟨k, hk, rfl, rfl, hall, hs⟩ := hrel
      have HA := Lib.hid hall
      clear hall
      by_cases hlt : k < n
      · obtain ⟨rfl, hc⟩ := hx.get hlt
        obtain ⟨rfl, hd⟩ := hy.get hlt
        have hc' : wr.cell? ⟨b, o + k, none⟩ = some (.int .i64 (x k)) := (hs.cell _).trans hc
        have hd' : wr.cell? ⟨b', o' + k, none⟩ = some (.int .i64 (y k)) := (hs.cell _).trans hd
        have hlz : (k : Int) < (n : Int) := by omega
        clear hc hd
        by_cases hxy : x k = y k
        · have hb1 : (x k != y k) = false := by simp [hxy]
          have HX := Lib.hid hxy
          clear hxy
          go_wp2
          go_quiet (fail)
          go_wp2
          go_roundg (n - (k + 1))
          case rel => exact ⟨k + 1, by omega, rfl, by go_num, fun j hj => by rcases Nat.lt_succ_iff_lt_or_eq.1 hj with h | h; exact HA.out j h; subst h; exact HX.out, hs.drewN _⟩
          case measure => omega
        · have hb1 : (x k != y k) = true := by simp [hxy]
          go_wp2
          go_quiet (fail)
          go_wp2
          go_ret
          exact ⟨ret_bool (by unfold sameB; symm; rw [decide_eq_false_iff_not]; exact fun h => hxy (h.2 k hlt)), hs.drewN _⟩
      · obtain rfl : k = n := by omega
        go_wp2
        go_ret
        exact ⟨ret_bool (by unfold sameB; symm; rw [decide_eq_true_eq]; exact ⟨rfl, HA.out⟩), hs⟩
  · have hb0 : ((n : Int) != (n' : Int)) = true := by simp; omega
    go_enter Tryd.func21, Tryd.ntmps21
    go_wp2
    go_ret
    exact ⟨ret_bool (by unfold sameB; symm; rw [decide_eq_false_iff_not]; exact fun h => hne h.1), Drawn.refl _⟩


set_option maxHeartbeats 1000000 in
/-- Lists that hold the same. -/
theorem sameLists_any {a1 a2 : Option Addr} {b1 o1 c1 b2 o2 c2 : Nat} {R : List (List Nat)} (w : World) (hn : R.length ≤ 17179869184) (hr : ∀ j, j < R.length → (R.getD j []).length ≤ 17179869184) (h1 : SeesLL w a1 b1 o1 c1 R) (h2 : SeesLL w a2 b2 o2 c2 R) :
    Calls Tryd.prog 11 #[.slice a1 R.length c1, .slice a2 R.length c2] w fun e w' => e = .returned (.bool true) ∧ w.Since w.heap.size w' := by
  have HR := Lib.hid hr
  clear hr
  go_enter Tryd.func11, Tryd.ntmps11
  go_wp2_with fail
  go_loopg [5, 13] R.length (fun g _ i wr => ∃ k : Nat, k ≤ R.length ∧ g = R.length - k ∧ i = .int .i64 k ∧ w.Since w.heap.size wr)
  case atStart => exact ⟨0, by omega, rfl, rfl, World.Since.refl _ _⟩
  case round =>
    obtain ⟨k, hk, rfl, rfl, hs⟩ := hrel
    by_cases hkn : k < R.length
    · have hkz : (k : Int) < (R.length : Int) := by omega
      obtain ⟨f1, q1, r1⟩ := h1.since hs
      obtain ⟨f2, q2, r2⟩ := h2.since hs
      obtain ⟨rfl, hc1⟩ := q1.get hkn
      obtain ⟨rfl, hc2⟩ := q2.get hkn
      obtain ⟨a3, b3, o3, c3, e3, s3⟩ := r1 k hkn
      obtain ⟨a4, b4, o4, c4, e4, s4⟩ := r2 k hkn
      rw [e3] at hc1
      rw [e4] at hc2
      have hlen := HR.out k hkn
      have s3' : Sees wr a3 b3 o3 (R.getD k []).length c3 (fun i => .int .i64 (((R.getD k []).getD i 0 : Nat) : Int)) := s3
      have s4' : Sees wr a4 b4 o4 (R.getD k []).length c4 (fun i => .int .i64 (((R.getD k []).getD i 0 : Nat) : Int)) := s4
      clear q1 r1 q2 r2 e3 e4 s3 s4
      have HB := Lib.hid (show sameB (R.getD k []).length (R.getD k []).length (fun i => (((R.getD k []).getD i 0 : Nat) : Int)) (fun i => (((R.getD k []).getD i 0 : Nat) : Int)) = true from decide_eq_true ⟨rfl, fun _ _ => rfl⟩)
      obtain ⟨r, hr⟩ : ∃ r, r = R.getD k [] := ⟨_, rfl⟩
      rw [← hr] at hc1 hc2 hlen s3' s4' HB
      clear hr
      have HS := Lib.hid (fun m => same_q (wr.drewN m) hlen hlen (show Sees (wr.drewN m) a3 b3 o3 r.length c3 (fun i => .int .i64 ((r.getD i 0 : Nat) : Int)) from s3') (show Sees (wr.drewN m) a4 b4 o4 r.length c4 (fun i => .int .i64 ((r.getD i 0 : Nat) : Int)) from s4'))
      rw [Hid, HB.out] at HS
      clear s3' s4'
      go_upto_region 6 with fail
      go_quiet ((go_at_call 21; exact Calls.quiet_of (HS _)))
      go_wp2_with fail
      go_roundg (R.length - (k + 1))
      case rel => exact ⟨k + 1, by omega, rfl, by go_num, since_drewN hs _⟩
      case measure => omega
    · obtain rfl : k = R.length := by omega
      go_wp2_with fail
      go_ret
      exact ⟨rfl, hs⟩

end Go.Proofs.YtmaieenphcnefaaDoor
