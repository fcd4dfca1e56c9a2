/- bidi.bracketPairs' methods, and sort.insertionSort, reverseRange, siftDown, heapSort over them: what they make of the pairs is what the plain functions say. -/
import Derived.Sort.LotA
import Derived.Sort.LotB
import Derived.Sort.LotD3
import Derived.Sort.WalkA
import Derived.Sort.WalkB2
import Derived.Sort.WalkB3
import Derived.Lib.Hide
import Derived.Test.YtmaieenphcnefaaDoorWide
import Derived.Test.YtmaieenphcnefaaDoorBase
import Derived.Test.YtmaieenphcnefaaDoorInfo
import Derived.Test.YtmaieenphcnefaaDoorQuiet
import Derived.Deep.LoopGhost
import Derived.Deep.MidRow
import Derived.RegionTactic
import Derived.Shelf.Abstract
import Derived.Sort.WalkB12
import Derived.BigRegion
namespace Go.Proofs.YtmaieenphcnefaaDoor
set_option linter.unusedVariables false
set_option linter.unusedSimpArgs false
open Go.RowKit Go.Sort Go.Lib

/-- A pair as it lies in memory. -/
def prc (p : Nat × Nat) : List Value := [.int .i64 ((p.1 : Nat) : Int), .int .i64 ((p.2 : Nat) : Int)]
theorem prc_len (p : Nat × Nat) : (prc p).length = 2 := rfl

/-- The n pairs d lie in block q, in a slice of capacity cap. -/
structure Hp (w : World) (B q cap n : Nat) (d : Array (Nat × Nat)) : Prop where
  sz : d.size = n
  gw : Gw w B 69 2 (.slice (some ⟨q, 0, none⟩) n cap) n (fun i => prc d[i]!)

/-- 'Less' of two pairs. -/
def ltp (x y : Nat × Nat) : Bool := decide (x.1 < y.1)

theorem swo_ltp : SWO ltp where
  irrefl x := by simp [ltp]
  trans x y z h1 h2 := by simp only [ltp, decide_eq_true_eq] at *; omega
  ntrans x y z h1 h2 := by simp only [ltp, decide_eq_false_iff_not] at *; omega

/-- The receiver: the pairs' slice. -/
abbrev rvp (q n cap : Nat) : Value := .slice (some ⟨q, 0, none⟩) n cap

section
variable {w w' : World} {B q cap n : Nat} {d : Array (Nat × Nat)}

theorem Hp.c0 (h : Hp w B q cap n d) {i : Nat} (hi : i < n) : w.cell? ⟨q, i * 2, none⟩ = some (.int .i64 ((d[i]!.1 : Nat) : Int)) := h.gw.cell (c := 0) (fun _ _ => rfl) hi (by omega) _ rfl
theorem Hp.c1 (h : Hp w B q cap n d) {i : Nat} (hi : i < n) : w.cell? ⟨q, i * 2 + 1, none⟩ = some (.int .i64 ((d[i]!.2 : Nat) : Int)) := h.gw.cell (c := 1) (fun _ _ => rfl) hi (by omega) _ rfl
theorem Hp.lt (h : Hp w B q cap n d) : B ≤ q ∧ q < w.heap.size := h.gw.ge q rfl
theorem Hp.kept (h : Hp w B q cap n d) (e : w'.heap[q]? = w.heap[q]?) : Hp w' B q cap n d := ⟨h.sz, h.gw.kept' (fun k hk => by
  simp only [Value.ownBlock, Option.some.injEq] at hk
  subst hk; exact e)⟩
theorem Hp.drewN (h : Hp w B q cap n d) (k : Nat) : Hp (w.drewN k) B q cap n d := h.kept rfl
theorem Hp.frozen (h : Hp w B q cap n d) (i : Nat) : w.frozen? ⟨q, i, none⟩ = false := World.ownsRow.frozenAt h.gw i
theorem Hp.set (h : Hp w B q cap n d) {i c : Nat} (u : Value) (d' : Array (Nat × Nat)) (hs : d'.size = n) (hc : c < 2) (hi : i < n) (ho : ∀ j, j < n → prc d'[j]! = if j = i then (prc d[j]!).set c u else prc d[j]!) : Hp (w.setCell ⟨q, i * 2 + c, none⟩ u) B q cap n d' := by
  refine ⟨hs, ?_⟩
  have h2 := (World.ownsRow.stored h.gw (i * 2 + c) u).1
  unfold Gw
  have : (List.range n).flatMap (fun j => prc d'[j]!) = ((List.range n).flatMap (fun j => prc d[j]!)).set (i * 2 + c) u := by
    have l1 := flat_len (F := fun j => prc d'[j]!) (s := 2) n (fun _ _ => rfl)
    have l2 := flat_len (F := fun j => prc d[j]!) (s := 2) n (fun _ _ => rfl)
    apply List.ext_getElem?
    intro t
    by_cases ht : t < n * 2
    · have hj : t / 2 < n := by omega
      have e1 : t = t / 2 * 2 + t % 2 := by omega
      have hm : t % 2 < 2 := by omega
      have f1 := flat_at (F := fun j => prc d'[j]!) n (fun _ _ => rfl) (t / 2) (t % 2) hj hm
      have f2 := flat_at (F := fun j => prc d[j]!) n (fun _ _ => rfl) (t / 2) (t % 2) hj hm
      rw [← e1] at f1 f2
      rw [f1, List.getElem?_set, l2, f2]
      show (prc d'[t / 2]!)[t % 2]? = _
      rw [ho _ hj]
      by_cases e : t / 2 = i
      · rw [if_pos e]
        by_cases e3 : i * 2 + c = t
        · rw [if_pos e3, if_pos (by omega), List.getElem?_set, if_pos (by omega)]
          simp [prc, show c < 2 from hc, show t % 2 = c by omega]
        · rw [if_neg e3, List.getElem?_set, if_neg (by omega)]
      · rw [if_neg e, if_neg (by omega)]
    · rw [List.getElem?_eq_none (by omega), List.getElem?_eq_none (by rw [List.length_set]; omega)]
  rw [this]; exact h2

/-- What a function of the sort's family hands back: nothing; the pairs are d' now; nothing else has turned. -/
def SP (w : World) (B q cap n : Nat) (d' : Array (Nat × Nat)) (e : Ending) (w' : World) : Prop :=
  e = .returned (.tuple #[]) ∧ Hp w' B q cap n d' ∧ Kp (fun k => k = q) w w'
end

theorem mLen (rv : Value) : ∀ w, Sem.run Tryd.prog (method 245 62 rv "Len") w = .ok (99, rv) w := fun _ => by kernel_rfl
theorem mLess (rv : Value) : ∀ w, Sem.run Tryd.prog (method 245 62 rv "Less") w = .ok (100, rv) w := fun _ => by kernel_rfl
theorem mSwap (rv : Value) : ∀ w, Sem.run Tryd.prog (method 245 62 rv "Swap") w = .ok (101, rv) w := fun _ => by kernel_rfl
theorem eLen : ∀ args w, (callFunc 99 args).run Tryd.prog w = .ok (.enter 99 args) w := enters_of Tryd.func99 (by kernel_rfl) rfl
theorem eLess : ∀ args w, (callFunc 100 args).run Tryd.prog w = .ok (.enter 100 args) w := enters_of Tryd.func100 (by kernel_rfl) rfl
theorem eSwap : ∀ args w, (callFunc 101 args).run Tryd.prog w = .ok (.enter 101 args) w := enters_of Tryd.func101 (by kernel_rfl) rfl

section
variable {B q cap n : Nat} {d : Array (Nat × Nat)}

set_option maxHeartbeats 1000000 in
theorem len_p (w : World) : Calls Tryd.prog 99 #[rvp q n cap] w fun e w' => e = .returned (.int .i64 n) ∧ w' = w := by
  go_enter Tryd.func99, Tryd.ntmps99
  go_wp2
  go_ret
  exact ⟨rfl, rfl⟩

theorem prc_swp (hs : d.size = n) {i j : Nat} (hi : i < n) (hj : j < n) (k : Nat) : (swp d i j)[k]! = if k = j then d[i]! else if k = i then d[j]! else d[k]! := by
  by_cases e1 : k = j
  · subst e1; rw [if_pos rfl, swp_right d i k (by omega)]
  · rw [if_neg e1]
    by_cases e2 : k = i
    · subst e2; rw [if_pos rfl, swp_left d k j (by omega) e1]
    · rw [if_neg e2, swp_other d i j k e2 e1]

set_option maxHeartbeats 1000000 in
theorem less_p (w : World) (h : Hp w B q cap n d) (hn : n ≤ 4294967296) (i j : Nat) (hi : i < n) (hj : j < n) :
    Calls Tryd.prog 100 #[rvp q n cap, .int .i64 i, .int .i64 j] w fun e w' => e = .returned (.bool (ltp d[i]! d[j]!)) ∧ ∃ k, w' = w.drewN k := by
  have c1 := h.c0 hi
  have c2 := h.c0 hj
  have hiz : (i : Int) < (n : Int) := by omega
  have hjz : (j : Int) < (n : Int) := by omega
  unfold ltp
  clear h
  go_enter Tryd.func100, Tryd.ntmps100
  go_wp2
  go_quiet (fail)
  go_wp2
  go_ret
  exact ⟨by simp, _, rfl⟩

/-- 'Less', as a walk meets it. -/
theorem lessAt (w : World) (h : Hp w B q cap n d) (hn : n ≤ 4294967296) (i j : Nat) {v : Bool} (hv : ltp d[i]! d[j]! = v) (hi : i < n) (hj : j < n) {x y : Int} (hx : x = i) (hy : y = j) :
    Calls Tryd.prog 100 #[rvp q n cap, .int .i64 x, .int .i64 y] w fun e w' => e = .returned (.bool v) ∧ ∃ k, w' = w.drewN k := by
  subst hx; subst hy; subst hv
  exact less_p w h hn i j hi hj

theorem gset (d : Array (Nat × Nat)) (i k : Nat) (x : Nat × Nat) (hi : i < d.size) : (d.setIfInBounds i x)[k]! = if k = i then x else d[k]! := by
  by_cases hk : k < d.size
  · rw [getElem!_pos _ k (by simpa using hk), getElem!_pos d k hk, Array.getElem_setIfInBounds]
    · by_cases e : k = i
      · subst e; simp
      · rw [if_neg e, if_neg (fun h => e h.symm)]
  · rw [getElem!_neg _ k (by simpa using hk), getElem!_neg d k hk, if_neg (by omega)]

theorem swap_hp {w : World} (h : Hp w B q cap n d) {i j : Nat} (hi : i < n) (hj : j < n) :
    Hp ((((w.setCell ⟨q, i * 2, none⟩ (.int .i64 ((d[j]!.1 : Nat) : Int))).setCell ⟨q, i * 2 + 1, none⟩ (.int .i64 ((d[j]!.2 : Nat) : Int))).setCell ⟨q, j * 2, none⟩ (.int .i64 ((d[i]!.1 : Nat) : Int))).setCell ⟨q, j * 2 + 1, none⟩ (.int .i64 ((d[i]!.2 : Nat) : Int))) B q cap n (swp d i j) := by
  have hs := h.sz
  have h1 := h.set (c := 0) (i := i) (.int .i64 ((d[j]!.1 : Nat) : Int)) (d.setIfInBounds i (d[j]!.1, d[i]!.2)) (by simpa using hs) (by omega) hi (fun k hk => by
    rw [gset d i k _ (by omega)]
    by_cases e : k = i
    · subst e; rw [if_pos rfl, if_pos rfl]; rfl
    · rw [if_neg e, if_neg e])
  have h2 := h1.set (c := 1) (i := i) (.int .i64 ((d[j]!.2 : Nat) : Int)) (d.setIfInBounds i d[j]!) (by simpa using hs) (by omega) hi (fun k hk => by
    rw [gset d i k _ (by omega), gset d i k _ (by omega)]
    by_cases e : k = i
    · subst e; rw [if_pos rfl, if_pos rfl, if_pos rfl]; rfl
    · rw [if_neg e, if_neg e, if_neg e])
  obtain ⟨D, hD⟩ : ∃ D, D = d.setIfInBounds i d[j]! := ⟨_, rfl⟩
  have hDs : D.size = n := by rw [hD]; simpa using hs
  rw [← hD] at h2
  have h3 := h2.set (c := 0) (i := j) (.int .i64 ((d[i]!.1 : Nat) : Int)) (D.setIfInBounds j (d[i]!.1, D[j]!.2)) (by simpa using hDs) (by omega) hj (fun k hk => by
    rw [gset D j k _ (by omega)]
    by_cases e : k = j
    · subst e; rw [if_pos rfl, if_pos rfl]; rfl
    · rw [if_neg e, if_neg e])
  have h4 := h3.set (c := 1) (i := j) (.int .i64 ((d[i]!.2 : Nat) : Int)) (D.setIfInBounds j d[i]!) (by simpa using hDs) (by omega) hj (fun k hk => by
    rw [gset D j k _ (by omega), gset D j k _ (by omega)]
    by_cases e : k = j
    · subst e; rw [if_pos rfl, if_pos rfl, if_pos rfl]; rfl
    · rw [if_neg e, if_neg e, if_neg e])
  rw [hD] at h4
  exact h4

set_option maxHeartbeats 4000000 in
theorem swap_p (w : World) (h : Hp w B q cap n d) (hn : n ≤ 4294967296) (i j : Nat) (hi : i < n) (hj : j < n) :
    Calls Tryd.prog 101 #[rvp q n cap, .int .i64 i, .int .i64 j] w (SP w B q cap n (swp d i j)) := by
  have c1 := h.c0 hi
  have c2 := h.c1 hi
  have c3 := h.c0 hj
  have c4 := h.c1 hj
  have hf := h.frozen
  have hiz : (i : Int) < (n : Int) := by omega
  have hjz : (j : Int) < (n : Int) := by omega
  have H := hid h
  clear h
  obtain ⟨x1, hx1⟩ : ∃ x : Int, x = ((d[i]!.1 : Nat) : Int) := ⟨_, rfl⟩
  obtain ⟨x2, hx2⟩ : ∃ x : Int, x = ((d[i]!.2 : Nat) : Int) := ⟨_, rfl⟩
  obtain ⟨y1, hy1⟩ : ∃ x : Int, x = ((d[j]!.1 : Nat) : Int) := ⟨_, rfl⟩
  obtain ⟨y2, hy2⟩ : ∃ x : Int, x = ((d[j]!.2 : Nat) : Int) := ⟨_, rfl⟩
  rw [← hx1] at c1
  rw [← hx2] at c2
  rw [← hy1] at c3
  rw [← hy2] at c4
  have HX1 := hid hx1
  have HX2 := hid hx2
  have HY1 := hid hy1
  have HY2 := hid hy2
  clear hx1 hx2 hy1 hy2
  obtain ⟨u3, hu3⟩ : ∃ u, ((w.setCell ⟨q, i * 2, none⟩ (.int .i64 y1)).setCell ⟨q, i * 2 + 1, none⟩ (.int .i64 y2)).cell? ⟨q, j * 2, none⟩ = some u := by
    obtain ⟨u, hu⟩ := cell?_setCell_some (w := w) (p := ⟨q, i * 2, none⟩) (x := .int .i64 y1) (q := ⟨q, j * 2, none⟩) c3
    exact cell?_setCell_some hu
  obtain ⟨u4, hu4⟩ : ∃ u, (((w.setCell ⟨q, i * 2, none⟩ (.int .i64 y1)).setCell ⟨q, i * 2 + 1, none⟩ (.int .i64 y2)).setCell ⟨q, j * 2, none⟩ (.int .i64 x1)).cell? ⟨q, j * 2 + 1, none⟩ = some u := by
    obtain ⟨u, hu⟩ := cell?_setCell_some (w := w) (p := ⟨q, i * 2, none⟩) (x := .int .i64 y1) (q := ⟨q, j * 2 + 1, none⟩) c4
    obtain ⟨u, hu⟩ := cell?_setCell_some (p := ⟨q, i * 2 + 1, none⟩) (x := .int .i64 y2) hu
    exact cell?_setCell_some hu
  go_enter Tryd.func101, Tryd.ntmps101
  go_wp2
  go_region
  all_goals (try go_wp2)
  all_goals go_end0
  all_goals exact ⟨rfl, (by rw [HX1.out, HX2.out, HY1.out, HY2.out]; exact (swap_hp H.out hi hj).drewN 1), ((((Kp.refl (fun k => k = q) _).drewN 1 |>.setCell (a := ⟨q, i * 2, none⟩) (.inl rfl) _).setCell (a := ⟨q, i * 2 + 1, none⟩) (.inl rfl) _).setCell (a := ⟨q, j * 2, none⟩) (.inl rfl) _).setCell (a := ⟨q, j * 2 + 1, none⟩) (.inl rfl) _⟩

/-- 'Swap', as a walk meets it. -/
theorem swapAt (w : World) (h : Hp w B q cap n d) (hn : n ≤ 4294967296) (i j : Nat) (hi : i < n) (hj : j < n) {x y : Int} (hx : x = i) (hy : y = j) :
    Calls Tryd.prog 101 #[rvp q n cap, .int .i64 x, .int .i64 y] w fun e w' => e = .returned (.tuple #[]) ∧ Hid (Hp w' B q cap n (swp d i j)) ∧ Hid (Kp (fun k => k = q) w w') := by
  subst hx; subst hy
  exact swap_p w h hn i j hi hj
end
end Go.Proofs.YtmaieenphcnefaaDoor
