/- sort.order2, median, medianAdjacent, choosePivot, breakPatterns over bracketPairs: what is wanted of them: a place in the range; a permutation. -/
import Derived.Test.YtmaieenphcnefaaDoorSrt1
import Derived.Shelf.SlSortFunc.Xorshift
import Derived.Sort.LotD4
namespace Go.Proofs.YtmaieenphcnefaaDoor
set_option linter.unusedVariables false
set_option linter.unusedSimpArgs false
open Go.RowKit Go.Sort Go.Lib

section
variable {B q cap n : Nat} {d : Array (Nat × Nat)}

/-- The counter of exchanges. -/
abbrev Ctr (w : World) (cb s : Nat) : Prop := w.rowIs cb 3 1 (fun _ => .int .i64 ((s : Nat) : Int))

set_option maxHeartbeats 1000000 in
set_option maxRecDepth 100000 in
theorem order2_p (w : World) (h : Hp w B q cap n d) (hn : n ≤ 4294967296) (a b cb s : Nat) (ha : a < n) (hb : b < n) (hc : Ctr w cb s) (hs : s < 4611686018427387904) :
    Calls Tryd.prog 81 #[.iface 62 (rvp q n cap), .int .i64 a, .int .i64 b, .pointer (some ⟨cb, 0, none⟩)] w fun e w' =>
      ∃ x y s' : Nat, e = .returned (.tuple #[.int .i64 x, .int .i64 y]) ∧ ((x = a ∧ y = b) ∨ (x = b ∧ y = a)) ∧ s' ≤ s + 1 ∧ Ctr w' cb s' ∧ Kp (fun k => k = cb) w w' := by
  have mL := mLess (rvp q n cap); have eL := eLess
  have c0 : w.cell? ⟨cb, 0, none⟩ = some (.int .i64 s) := hc.cell (by omega)
  have f0 := hc.frozen 0
  have HC := hid hc
  clear hc
  have HS := hid h
  clear h
  go_enter Tryd.func81, Tryd.ntmps81
  cases hlv : ltp d[b]! d[a]! with
  | true =>
    go_wp2_with (go_at_fn 100; refine (lessAt _ HS.out hn b a hlv (by omega) (by omega) (by omega) (by omega)).mono ?_; rintro e w' ⟨rfl, k, rfl⟩)
    go_ret2
    exact ⟨b, a, s + 1, rfl, .inr ⟨rfl, rfl⟩, Nat.le_refl _, (HC.out.set 0 (.int .i64 ((s : Int) + 1))).congr (fun i hi => by rw [if_pos (by omega)]; exact congrArg _ (by omega)), ((Kp.refl (fun k => k = cb) _).drewN _).setCell (a := ⟨cb, 0, none⟩) (.inl rfl) _⟩
  | false =>
    go_wp2_with (go_at_fn 100; refine (lessAt _ HS.out hn b a hlv (by omega) (by omega) (by omega) (by omega)).mono ?_; rintro e w' ⟨rfl, k, rfl⟩)
    go_ret2
    exact ⟨a, b, s, rfl, .inl ⟨rfl, rfl⟩, by omega, HC.out, (Kp.refl _ _).drewN _⟩

theorem Hp.kp {w w' : World} {cb : Nat} (h : Hp w B q cap n d) (hk : Kp (fun k => k = cb) w w') (hne : cb ≠ q) : Hp w' B q cap n d := h.kept (hk.block q h.lt.2 (fun e => hne e.symm))

set_option maxHeartbeats 1000000 in
set_option maxRecDepth 100000 in
theorem median_p (w : World) (h : Hp w B q cap n d) (hn : n ≤ 4294967296) (a b c cb s : Nat) (ha : a < n) (hb : b < n) (hc : c < n) (hC : Ctr w cb s) (hne : cb ≠ q) (hs : s < 2305843009213693952) :
    Calls Tryd.prog 79 #[.iface 62 (rvp q n cap), .int .i64 a, .int .i64 b, .int .i64 c, .pointer (some ⟨cb, 0, none⟩)] w fun e w' =>
      ∃ m s' : Nat, e = .returned (.int .i64 m) ∧ (m = a ∨ m = b ∨ m = c) ∧ s' ≤ s + 3 ∧ Ctr w' cb s' ∧ Kp (fun k => k = cb) w w' := by
  go_enter Tryd.func79, Tryd.ntmps79
  go_wp2_with fail
  refine (order2_p _ h hn a b cb s ha hb hC (by omega)).mono ?_
  rintro e w1 ⟨x1, y1, s1, rfl, o1, l1, C1, K1⟩
  have h1 := h.kp K1 hne
  have hx1 : x1 < n := by omega
  have hy1 : y1 < n := by omega
  clear h hC
  go_wp2_with fail
  refine (order2_p _ h1 hn y1 c cb s1 hy1 hc C1 (by omega)).mono ?_
  rintro e w2 ⟨x2, y2, s2, rfl, o2, l2, C2, K2⟩
  have h2 := h1.kp K2 hne
  have hx2 : x2 < n := by omega
  clear h1 C1
  go_wp2_with fail
  refine (order2_p _ h2 hn x1 x2 cb s2 hx1 hx2 C2 (by omega)).mono ?_
  rintro e w3 ⟨x3, y3, s3, rfl, o3, l3, C3, K3⟩
  have HO := hid (show y3 = a ∨ y3 = b ∨ y3 = c by omega)
  have HL := hid (show s3 ≤ s + 3 by omega)
  clear o1 o2 o3 l1 l2 l3 h2 C2
  go_wp2_with fail
  go_ret
  exact ⟨y3, s3, rfl, HO.out, HL.out, C3, (K1.trans K2).trans K3⟩

set_option maxHeartbeats 1000000 in
set_option maxRecDepth 100000 in
theorem medianAdjacent_p (w : World) (h : Hp w B q cap n d) (hn : n ≤ 4294967296) (a cb s : Nat) (ha1 : 1 ≤ a) (ha : a + 1 < n) (hC : Ctr w cb s) (hne : cb ≠ q) (hs : s < 2305843009213693952) {x : Int} (hx : x = a) :
    Calls Tryd.prog 78 #[.iface 62 (rvp q n cap), .int .i64 x, .pointer (some ⟨cb, 0, none⟩)] w fun e w' =>
      ∃ m s' : Nat, e = .returned (.int .i64 m) ∧ (a ≤ m + 1 ∧ m ≤ a + 1) ∧ s' ≤ s + 3 ∧ Ctr w' cb s' ∧ Kp (fun k => k = cb) w w' := by
  subst hx
  have hm := median_p w h hn (a - 1) a (a + 1) cb s (by omega) (by omega) ha hC hne hs
  rw [show ((a - 1 : Nat) : Int) = (a : Int) - 1 by omega, show ((a + 1 : Nat) : Int) = (a : Int) + 1 by omega] at hm
  clear hC h
  go_enter Tryd.func78, Tryd.ntmps78
  go_wp2_with fail
  refine hm.mono ?_
  rintro e w1 ⟨m, s1, rfl, o1, l1, C1, K1⟩
  have HO := hid (show a ≤ m + 1 ∧ m ≤ a + 1 by omega)
  clear o1
  go_wp2_with fail
  go_ret
  exact ⟨m, s1, rfl, HO.out, l1, C1, K1⟩
end
end Go.Proofs.YtmaieenphcnefaaDoor
