/- bidi.places, bidi.sequence, (*isolatingRunSequence).assertOnly: a text as one isolating run sequence. -/
import Derived.Test.YtkocpijloiamcaaDoorGA
import Derived.Test.YtkocpijloiamcaaDoorGC
import Derived.Deep.LoopGhost
import Derived.WalkMore
import Derived.Lib.Hide
import Derived.Test.YtkocpijloiamcaaDoorGB
import Derived.Deep.DeepCutAuto
import Derived.Deep.QuietTactic
import Derived.BigQuiet
import Derived.StillTailTactics
namespace Go.Proofs.YtkocpijloiamcaaDoor
open Go.RowKit

/-- A new sequence over a list of classes of its own. -/
structure Seq0 (w : World) (n : Nat) (c : Nat → Int) (lv sos eos : Int) (S q cap : Nat) (w' : World) : Prop where
  row : w'.rowIs S 109 7 (sf (.pointer none) (.slice (some ⟨w.heap.size, 0, none⟩) n n) (.slice (some ⟨q, 0, none⟩) n cap) (.slice none 0 0) (.int .i8 lv) (.int .u64 sos) (.int .u64 eos))
  idx : w'.rowIs w.heap.size 3 n (fun i => .int .i64 i)
  types : Gr w' w.heap.size 67 (.slice (some ⟨q, 0, none⟩) n cap) n (fun i => .int .u64 (c i))
  ne : q ≠ S
  ne0 : q ≠ w.heap.size
  ne1 : S ≠ w.heap.size
  ge : w.heap.size ≤ S
  since : w.Since w.heap.size w'

end Go.Proofs.YtkocpijloiamcaaDoor

/- spec.AreClasses. -/
namespace Go.Proofs.YtkocpijloiamcaaDoor
open Go.RowKit

def clsB (n : Nat) (x : Nat → Int) : Bool := decide (∀ i, i < n → 0 ≤ x i ∧ x i < 23)

end Go.Proofs.YtkocpijloiamcaaDoor

/- spec.IsInitiator, spec.IsNeutral, spec.IsOfNeutral, spec.IsSide, spec.Direction, spec.IsRemoved, spec.IsOfWeak, laws.areNeutral, laws.areWeak. -/
namespace Go.Proofs.YtkocpijloiamcaaDoor
open Go.RowKit
set_option linter.unusedVariables false
set_option linter.unusedSimpArgs false

/-- Are all classes in a list? -/
def allB (l : List Int) (c : Nat → Int) (n : Nat) : Bool := decide (∀ i, i < n → memB l (c i) = true)

/-- Numbers of the neutral classes; of those that N1 and N2 meet. -/
def NN (y : Int) : Bool := memB [7, 8, 9, 10, 19, 20, 21, 22] y
def ofNeu : List Int := [0, 1, 2, 5, 7, 8, 9, 10, 19, 20, 21, 22]

def ofWeak : List Int := [0, 1, 2, 3, 4, 5, 6, 7, 8, 9, 10, 12, 13, 19, 20, 21, 22]

theorem allB_get {l : List Int} {x : Nat → Int} {n : Nat} (h : allB l x n = true) {i : Nat} (hi : i < n) : memB l (x i) = true := by
  unfold allB at h; exact of_decide_eq_true h i hi

def sideB (n : Int) : Bool := decide (n = 0 ∨ n = 1)
theorem sideB_iff {n : Int} : sideB n = true ↔ (n = 0 ∨ n = 1) := by unfold sideB; exact decide_eq_true_iff

theorem isInitiator_any (n : Int) (w : World) : Calls Tryd.prog 20 #[.int .i64 n] w fun e w' => e = .returned (.bool (iniB n)) ∧ w = w' := by
  by_cases h19 : n = 19
  · subst h19
    go_enter Tryd.func20, Tryd.ntmps20
    go_wp2_with fail
    go_ret
    exact ⟨rfl, rfl⟩
  have b19 : (n == 19) = false := beq_eq_false_iff_ne.2 h19
  by_cases h20 : n = 20
  · subst h20
    go_enter Tryd.func20, Tryd.ntmps20
    go_wp2_with fail
    go_ret
    exact ⟨rfl, rfl⟩
  have b20 : (n == 20) = false := beq_eq_false_iff_ne.2 h20
  by_cases h21 : n = 21
  · subst h21
    go_enter Tryd.func20, Tryd.ntmps20
    go_wp2_with fail
    go_ret
    exact ⟨rfl, rfl⟩
  have b21 : (n == 21) = false := beq_eq_false_iff_ne.2 h21
  have HN : (iniB n) = false := by
    rw [Bool.eq_false_iff]
    intro q
    revert q
    unfold iniB
    simp only [ne_eq, memB_iff, List.mem_cons, List.not_mem_nil, or_false, decide_eq_true_eq]
    omega
  have HH := Lib.hid HN
  clear HN
  go_enter Tryd.func20, Tryd.ntmps20
  go_wp2_with fail
  go_ret
  exact ⟨ret_bool HH.out.symm, rfl⟩

theorem direction_any {lv : Int} (w : World) (h0 : 0 ≤ lv) (h1 : lv ≤ 127) : Calls Tryd.prog 12 #[.int .i64 lv] w fun e w' => e = .returned (.int .i64 (lv % 2)) ∧ w = w' := by
  rcases (show lv % 2 = 0 ∨ lv % 2 = 1 by omega) with hp | hp
  · have ht : lv.tmod 2 = 0 := by rw [Int.tmod_eq_emod_of_nonneg h0]; exact hp
    rw [hp]
    go_enter Tryd.func12, Tryd.ntmps12
    go_wp2_with fail
    go_ret
    exact ⟨rfl, rfl⟩
  · have ht : lv.tmod 2 = 1 := by rw [Int.tmod_eq_emod_of_nonneg h0]; exact hp
    rw [hp]
    go_enter Tryd.func12, Tryd.ntmps12
    go_wp2_with fail
    go_ret
    exact ⟨rfl, rfl⟩

theorem ofNeu_ok {n : Nat} {x : Nat → Int} (h : allB ofNeu x n = true) : ∀ i, i < n → clsOk (x i) := fun i hi => by
  have := memB_iff.1 (allB_get h hi)
  unfold ofNeu at this
  simp only [List.mem_cons, List.not_mem_nil, or_false] at this
  unfold clsOk; omega

def remB (n : Int) : Bool := memB [14, 15, 16, 17, 18, 11] n

theorem isRemovedS_any (n : Int) (w : World) : Calls Tryd.prog 17 #[.int .i64 n] w fun e w' => e = .returned (.bool (remB n)) ∧ w = w' := by
  by_cases h14 : n = 14
  · subst h14
    go_enter Tryd.func17, Tryd.ntmps17
    go_wp2_with fail
    go_ret
    exact ⟨rfl, rfl⟩
  have b14 : (n == 14) = false := beq_eq_false_iff_ne.2 h14
  by_cases h15 : n = 15
  · subst h15
    go_enter Tryd.func17, Tryd.ntmps17
    go_wp2_with fail
    go_ret
    exact ⟨rfl, rfl⟩
  have b15 : (n == 15) = false := beq_eq_false_iff_ne.2 h15
  by_cases h16 : n = 16
  · subst h16
    go_enter Tryd.func17, Tryd.ntmps17
    go_wp2_with fail
    go_ret
    exact ⟨rfl, rfl⟩
  have b16 : (n == 16) = false := beq_eq_false_iff_ne.2 h16
  by_cases h17 : n = 17
  · subst h17
    go_enter Tryd.func17, Tryd.ntmps17
    go_wp2_with fail
    go_ret
    exact ⟨rfl, rfl⟩
  have b17 : (n == 17) = false := beq_eq_false_iff_ne.2 h17
  by_cases h18 : n = 18
  · subst h18
    go_enter Tryd.func17, Tryd.ntmps17
    go_wp2_with fail
    go_ret
    exact ⟨rfl, rfl⟩
  have b18 : (n == 18) = false := beq_eq_false_iff_ne.2 h18
  by_cases h11 : n = 11
  · subst h11
    go_enter Tryd.func17, Tryd.ntmps17
    go_wp2_with fail
    go_ret
    exact ⟨rfl, rfl⟩
  have b11 : (n == 11) = false := beq_eq_false_iff_ne.2 h11
  have HN : remB n = false := memB_not.2 (by simp only [List.mem_cons, List.not_mem_nil, or_false]; omega)
  have HH := Lib.hid HN
  clear HN
  go_enter Tryd.func17, Tryd.ntmps17
  go_wp2_with fail
  go_ret
  exact ⟨ret_bool HH.out.symm, rfl⟩

end Go.Proofs.YtkocpijloiamcaaDoor

/- (*isolatingRunSequence).assertOnly. -/
namespace Go.Proofs.YtkocpijloiamcaaDoor
open Go.RowKit

/-- A panic of the text's own. -/
def Died (e : Ending) : Prop := ∃ u pv, e = .panicked [{ v := .iface u pv, recovered := false }]

set_option maxHeartbeats 1000000 in
theorem assertOnly_any (l : List Int) {S b2 : Nat} {ao : Option Addr} {b o n cc : Nat} {c : Nat → Int} (w : World) (hn : n ≤ 8589934592) (hl : l.length ≤ 1000) (hc : w.cell? ⟨S, 2, none⟩ = some (.slice ao n cc)) (hx : Sees w ao b o n cc (fun i => .int .u64 (c i)))
    (hh : w.heap[b2]? = some (.cells (l.map (Value.int .u64)).toArray 67 (0, 0))) :
    Calls Tryd.prog 78 #[.pointer (some ⟨S, 0, none⟩), .slice (some ⟨b2, 0, none⟩) l.length l.length] w fun e w' => ((allB l c n = true ∧ e = .returned (.tuple #[])) ∨ (allB l c n = false ∧ Died e)) ∧ w = w' := by
  have HC : ∀ i, i < l.length → w.cell? ⟨b2, i, none⟩ = some (.int .u64 (l.getD i 0)) := fun i hi => by rw [lits_cell hh hi]; simp [hi]
  have HH := Lib.hid HC
  clear HC hh
  obtain ⟨m, hm⟩ : ∃ m, m = l.length := ⟨_, rfl⟩
  rw [← hm]
  rw [← hm] at hl
  have HM := Lib.hid hm
  clear hm
  go_enter Tryd.func78, Tryd.ntmps78
  go_wp2
  go_step3
  go_wp2
  go_step3
  go_wp2
  clear hc
  go_loop [13] (fun i => ∃ k : Nat, k ≤ n ∧ i = .int .i64 k ∧ Hid (∀ j, j < k → memB l (c j) = true)) (fun i => n - (intOf i).toNat)
  case atStart => exact ⟨0, by omega, rfl, fun j hj => absurd hj (Nat.not_lt_zero _)⟩
  case round =>
    obtain ⟨k, hk, rfl, HA⟩ := hrel
    by_cases hkn : k < n
    · have hkz : (k : Int) < (n : Int) := by omega
      obtain ⟨rfl, hc⟩ := hx.get hkn
      go_wp2
      go_loop [19] (fun i => ∃ q : Nat, q ≤ m ∧ i = .int .i64 q ∧ Hid (∀ j, j < q → l.getD j 0 ≠ c k)) (fun i => m - (intOf i).toNat)
      case atStart => exact ⟨0, by omega, rfl, fun j hj => absurd hj (Nat.not_lt_zero _)⟩
      case round =>
        obtain ⟨q, hq, rfl, HB⟩ := hrel
        by_cases hqm : q < m
        · have hqz : (q : Int) < (m : Int) := by omega
          have hcq := HH.out q (by rw [← HM.out]; exact hqm)
          obtain ⟨u, hu⟩ : ∃ u, u = l.getD q 0 := ⟨_, rfl⟩
          rw [← hu] at hcq
          have HU := Lib.hid hu
          clear hu
          by_cases he : c k = u
          · have hb : (c k == u) = true := by simp [he]
            have HE := Lib.hid he
            clear he
            go_wp2
            go_round
            case rel => exact ⟨k + 1, by omega, by go_num, fun j hj => by
              rcases Nat.lt_succ_iff_lt_or_eq.1 hj with h | h
              · exact HA.out j h
              · subst h
                rw [memB_iff, HE.out, HU.out]
                have hk2 : q < l.length := by rw [← HM.out]; exact hqm
                simp [hk2]⟩
            case measure => simp [intOf]; omega
          · have hb : (c k == u) = false := by simp [he]
            have HE := Lib.hid he
            clear he
            go_wp2
            go_round
            case rel => exact ⟨q + 1, by omega, by go_num, fun j hj => by
              rcases Nat.lt_succ_iff_lt_or_eq.1 hj with h | h
              · exact HB.out j h
              · subst h; rw [← HU.out]; exact fun e => HE.out e.symm⟩
            case measure => simp [intOf]; omega
        · obtain rfl : q = m := by omega
          go_wp2
          refine ⟨rfl, .inr ⟨?_, _, _, rfl⟩, rfl⟩
          unfold allB
          rw [decide_eq_false_iff_not]
          intro hall
          have hmem := memB_iff.1 (hall k hkn)
          obtain ⟨i, hi, e⟩ := List.getElem_of_mem hmem
          exact HB.out i (by rw [HM.out]; exact hi) (by simp [hi, e])
    · obtain rfl : k = n := by omega
      go_wp2
      first | go_end0 | skip
      exact ⟨.inl ⟨by unfold allB; rw [decide_eq_true_eq]; exact HA.out, rfl⟩, rfl⟩

end Go.Proofs.YtkocpijloiamcaaDoor

/- bidi.places, bidi.sequence, assertOnly, in one place. -/
namespace Go.Proofs.YtkocpijloiamcaaDoor
end Go.Proofs.YtkocpijloiamcaaDoor

/- bidi.setLevels, (*isolatingRunSequence).resolveImplicitLevels (I1, I2). -/
namespace Go.Proofs.YtkocpijloiamcaaDoor
open Go.RowKit

theorem and_one_i8 : ∀ k : Fin 128, bits BinOp.and IntKind.i8 ((k : Nat) : Int) 1 = (((k : Nat) % 2 : Nat) : Int) := by decide

/-- I1 and I2. -/
def imp (lv c : Int) : Int := if lv % 2 = 0 then (if c = 0 then lv else if c = 1 then lv + 1 else lv + 2) else (if c = 1 then lv else lv + 1)

def impTo (lv : Int) (c : Nat → Int) (k i : Nat) : Int := if i < k then imp lv (c i) else lv

theorem impTo_step (lv : Int) (c : Nat → Int) (k : Nat) (j : Nat) (v : Int) (hv : imp lv (c k) = v) : impTo lv c (k + 1) j = if j = k then v else impTo lv c k j := by
  unfold impTo
  by_cases e : j = k
  · subst e; rw [if_pos (by omega), if_pos rfl, hv]
  · rw [if_neg e]
    by_cases h : j < k
    · rw [if_pos h, if_pos (by omega)]
    · rw [if_neg h, if_neg (by omega)]

theorem impTo_same (lv : Int) (c : Nat → Int) (k : Nat) (j : Nat) (hv : imp lv (c k) = lv) : impTo lv c (k + 1) j = impTo lv c k j := by
  rw [impTo_step lv c k j lv hv]
  by_cases e : j = k
  · subst e; rw [if_pos rfl]; unfold impTo; rw [if_neg (by omega)]
  · rw [if_neg e]

theorem impTo_at (lv : Int) (c : Nat → Int) (k : Nat) : impTo lv c k k = lv := by unfold impTo; rw [if_neg (by omega)]

variable {S q cap n : Nat} {f0 f1 f5 f6 : Value} {c : Nat → Int} {lv : Int} {B : Nat}

/-- The sequence while its levels are written. -/
structure Im (w : World) (B S q cap n : Nat) (f0 f1 f5 f6 : Value) (c : Nat → Int) (lv : Int) (r : Nat) (L : Nat → Int) (w' : World) : Prop where
  row : w'.rowIs S 109 7 (sf f0 f1 (.slice (some ⟨q, 0, none⟩) n cap) (.slice (some ⟨r, 0, none⟩) n n) (.int .i8 lv) f5 f6)
  types : Gr w' B 67 (.slice (some ⟨q, 0, none⟩) n cap) n (fun i => .int .u64 (c i))
  levels : w'.rowIs r 62 n (fun j => .int .i8 (L j))
  kept : Kp (fun k => k = S) w w'
  ge : w.heap.size ≤ r

theorem Im.set {w w' : World} {r : Nat} {L L' : Nat → Int} (h : Im w B S q cap n f0 f1 f5 f6 c lv r L w') (hS : S < w.heap.size) (hq : q < w.heap.size) (k : Nat) (v : Int) (hL : ∀ j, j < n → L' j = if j = k then v else L j) :
    Im w B S q cap n f0 f1 f5 f6 c lv r L' (w'.setCell ⟨r, k, none⟩ (.int .i8 v)) := by
  have hr := h.ge
  refine ⟨h.row.setOther (by show S ≠ r; omega) _, h.types.kept' (fun k hk => ?_), (h.levels.set k (.int .i8 v)).congr (fun j hj => ?_), h.kept.setCell (a := ⟨r, k, none⟩) (.inr hr) _, hr⟩
  · simp only [Value.ownBlock, Option.some.injEq] at hk
    subst hk
    exact Go.Deep.blk_setCell_other _ _ _ _ (by show q ≠ r; omega)
  · rw [hL j hj]; split <;> rfl

theorem Im.congr {w w' : World} {r : Nat} {L L' : Nat → Int} (h : Im w B S q cap n f0 f1 f5 f6 c lv r L w') (hL : ∀ j, j < n → L' j = L j) : Im w B S q cap n f0 f1 f5 f6 c lv r L' w' :=
  ⟨h.row, h.types, h.levels.congr (fun j hj => by rw [hL j hj]), h.kept, h.ge⟩

set_option maxHeartbeats 4000000 in
set_option maxRecDepth 100000 in
theorem resolveImplicit_any (w : World) (hn : n ≤ 8589934592) (h0 : 0 < n) (hlv0 : 0 ≤ lv) (hlv1 : lv ≤ 125) {f3 : Value}
    (hp : w.rowIs S 109 7 (sf f0 f1 (.slice (some ⟨q, 0, none⟩) n cap) f3 (.int .i8 lv) f5 f6)) (hg : Gr w B 67 (.slice (some ⟨q, 0, none⟩) n cap) n (fun i => .int .u64 (c i))) (hqS : q ≠ S) :
    Calls Tryd.prog 65 #[.pointer (some ⟨S, 0, none⟩)] w fun e w' =>
      (allB [0, 1, 2, 5] c n = true ∧ e = .returned (.tuple #[]) ∧ ∃ r, Im w B S q cap n f0 f1 f5 f6 c lv r (fun j => imp lv (c j)) w') ∨ (allB [0, 1, 2, 5] c n = false ∧ Died e ∧ Kp (fun k => k = S) w w') := by
  have hSlt := hp.lt
  have hqlt := (hg.ge q rfl).2
  have hgB := (hg.ge q rfl).1
  have hh := heap_alloc_new w (.cells #[.int .u64 0, .int .u64 1, .int .u64 2, .int .u64 5] 67)
  have k2 : (w.alloc (.cells #[.int .u64 0, .int .u64 1, .int .u64 2, .int .u64 5] 67)).cell? ⟨S, 2, none⟩ = some (.slice (some ⟨q, 0, none⟩) n cap) := (hp.alloc _).cell (by omega)
  have hsees : Sees (w.alloc (.cells #[.int .u64 0, .int .u64 1, .int .u64 2, .int .u64 5] 67)) (some ⟨q, 0, none⟩) q 0 n cap (fun i => .int .u64 (c i)) := by
    obtain ⟨b, hb, hs⟩ := (hg.alloc (.cells #[.int .u64 0, .int .u64 1, .int .u64 2, .int .u64 5] 67)).see
    obtain rfl : q = b := by have := (hs.get h0).1; simp only [Option.some.injEq, Addr.mk.injEq, and_true] at this; exact this
    exact hs
  go_enter Tryd.func65, Tryd.ntmps65
  go_wp2_with fail
  refine (assertOnly_any [0, 1, 2, 5] _ hn (by decide) k2 hsees hh).mono ?_
  rintro e w1 ⟨h, rfl⟩
  clear k2 hsees hh
  rcases h with ⟨hall, rfl⟩ | ⟨hbad, u, pv, rfl⟩
  case inr =>
    go_wp2_with fail
    exact ⟨rfl, .inr ⟨hbad, ⟨_, _, rfl⟩, (Kp.refl _ _).alloc _⟩⟩
  have HALL := Lib.hid hall
  clear hall
  have hmk := run_make_row' (P := Tryd.prog) 64 62 (.int .i8 0) 1 Tryd.underlying64 Tryd.infoLevel rfl .i64 .i64 n (by omega) (by omega)
  go_upto_region 1 with fail
  go_cut [] (fun wx => Im w B S q cap n f0 f1 f5 f6 c lv (w.heap.size + 1) (fun _ => 0) wx)
  case first =>
    have k2 : (w.alloc (.cells #[.int .u64 0, .int .u64 1, .int .u64 2, .int .u64 5] 67)).cell? ⟨S, 2, none⟩ = some (.slice (some ⟨q, 0, none⟩) n cap) := (hp.alloc _).cell (by omega)
    have k3 : ((w.alloc (.cells #[.int .u64 0, .int .u64 1, .int .u64 2, .int .u64 5] 67)).alloc (.cells (madeCells #[.int .i8 0] n) 62)).cell? ⟨S, 3, none⟩ = some f3 := ((hp.alloc _).alloc _).cell (by omega)
    have z3 := ((hp.alloc (.cells #[.int .u64 0, .int .u64 1, .int .u64 2, .int .u64 5] 67)).alloc (.cells (madeCells #[.int .i8 0] n) 62)).frozen 3
    go_wp2_with fail
    go_meet
    have r1 := World.rowIs_made ((w.setCell ⟨S, 3, none⟩ (.slice (some ⟨w.heap.size + 1, 0, none⟩) n n)).alloc (.cells #[.int .u64 0, .int .u64 1, .int .u64 2, .int .u64 5] 67)) (.int .i8 0) n 62
    rw [World.size_alloc, World.size_setCell] at r1
    refine ⟨((sf_set3 hp _).alloc _).alloc _, ((hg.kept' (fun k hk => ?_)).alloc _).alloc _, r1, (((Kp.refl (fun k => k = S) w).setCell (a := ⟨S, 3, none⟩) (.inl rfl) _).alloc _).alloc _, by omega⟩
    simp only [Value.ownBlock, Option.some.injEq] at hk
    subst hk
    exact Go.Deep.blk_setCell_other _ _ _ _ (by show q ≠ S; exact hqS)
  case rest =>
    clear hp hg hmk
    have k3 : wc.cell? ⟨S, 3, none⟩ = some (.slice (some ⟨w.heap.size + 1, 0, none⟩) n n) := hcut.row.cell (by omega)
    have k4 : wc.cell? ⟨S, 4, none⟩ = some (.int .i8 lv) := hcut.row.cell (by omega)
    go_upto_region 2 with fail
    have hc1 := hcut
    clear hcut
    go_cut [] (fun wx => Im w B S q cap n f0 f1 f5 f6 c lv (w.heap.size + 1) (fun _ => lv) wx)
    case first =>
      go_still_tail 8, (by kernel_rfl)
      change wpList _ _ _ _ _ wc.drew
      have hd : Im w B S q cap n f0 f1 f5 f6 c lv (w.heap.size + 1) (fun _ => 0) wc.drew := ⟨hc1.row, hc1.types, hc1.levels, hc1.kept.drew, hc1.ge⟩
      clear hc1 k3 k4
      generalize wc.drew = w2 at hd ⊢
      go_wp2_with fail
      refine (setLevels_any _ hn hd.levels).mono ?_
      rintro e w3 ⟨rfl, hr3, hk3⟩
      go_wp2_with fail
      go_meet
      refine ⟨hk3.row hd.row (by omega), hd.types.kept' (fun k hk => ?_), hr3, ⟨hk3.os.trans hd.kept.os, hk3.tape.trans hd.kept.tape, hk3.output.trans hd.kept.output, Nat.le_trans hd.kept.size hk3.size, fun k hk hs => (hk3.block k (Nat.lt_of_lt_of_le hk hd.kept.size) (by omega)).trans (hd.kept.block k hk hs)⟩, hd.ge⟩
      simp only [Value.ownBlock, Option.some.injEq] at hk
      subst hk
      exact hk3.block q (Nat.lt_of_lt_of_le hqlt hd.kept.size) (by omega)
    case rest =>
      clear k3 k4 hc1
      have k4 : wc.cell? ⟨S, 4, none⟩ = some (.int .i8 lv) := hcut.row.cell (by omega)
      obtain ⟨v, rfl⟩ := Int.eq_ofNat_of_zero_le hlv0
      have hand := and_one_i8 ⟨v, by omega⟩
      simp only at hand
      by_cases hev : v % 2 = 0
      · rw [hev] at hand
        have k2 : wc.cell? ⟨S, 2, none⟩ = some (.slice (some ⟨q, 0, none⟩) n cap) := hcut.row.cell (by omega)
        go_wp2_with fail
        go_loopg [2, 3, 38] n (fun g _ _ i wr => ∃ k : Nat, k ≤ n ∧ g = n - k ∧ i = .int .i64 k ∧ Im w B S q cap n f0 f1 f5 f6 c v (w.heap.size + 1) (impTo v c k) wr)
        case atStart => exact ⟨0, by omega, rfl, rfl, hcut.congr (fun j _ => by unfold impTo; rw [if_neg (by omega)])⟩
        case round =>
          clear hcut k2 k4
          obtain ⟨k, hk, rfl, rfl, hI⟩ := hrel
          by_cases hkn : k < n
          · have hkz : (k : Int) < (n : Int) := by omega
            have hc := hI.types.cell hkn
            have k3 : wr.cell? ⟨S, 3, none⟩ = some (.slice (some ⟨w.heap.size + 1, 0, none⟩) n n) := hI.row.cell (by omega)
            have g1 := hI.levels.cell hkn
            rw [impTo_at] at g1
            have g2 := hI.levels.frozen k
            by_cases h1 : c k = 0
            · have b1 : (c k == 0) = true := by simp [h1]
              have R := hI.congr (L' := impTo v c (k + 1)) (fun j _ => impTo_same _ _ _ _ (by unfold imp; rw [if_pos (by omega), if_pos h1]))
              clear hI
              go_wp2_with fail
              go_roundg (n - (k + 1))
              case rel => exact ⟨k + 1, by omega, rfl, by go_num, R⟩
              case measure => omega
            · have b1 : (c k == 0) = false := by simp [h1]
              by_cases h2 : c k = 1
              · have b2 : (c k == 1) = true := by simp [h2]
                have R := hI.set hSlt hqlt k ((v : Int) + 1) (L' := impTo v c (k + 1)) (fun j _ => impTo_step _ _ _ _ _ (by unfold imp; rw [if_pos (by omega), if_neg h1, if_pos h2]))
                clear hI
                go_wp2_with fail
                go_roundg (n - (k + 1))
                case rel => exact ⟨k + 1, by omega, rfl, by go_num, R⟩
                case measure => omega
              · have b2 : (c k == 1) = false := by simp [h2]
                have R := hI.set hSlt hqlt k ((v : Int) + 2) (L' := impTo v c (k + 1)) (fun j _ => impTo_step _ _ _ _ _ (by unfold imp; rw [if_pos (by omega), if_neg h1, if_neg h2]))
                clear hI
                go_wp2_with fail
                go_roundg (n - (k + 1))
                case rel => exact ⟨k + 1, by omega, rfl, by go_num, R⟩
                case measure => omega
          · obtain rfl : k = n := by omega
            go_wp2_with fail
            go_end0
            exact .inl ⟨HALL.out, rfl, _, hI.congr (fun j hj => by unfold impTo; rw [if_pos hj])⟩
      · rw [show v % 2 = 1 by omega] at hand
        have k2 : wc.cell? ⟨S, 2, none⟩ = some (.slice (some ⟨q, 0, none⟩) n cap) := hcut.row.cell (by omega)
        go_wp2_with fail
        go_loopg [4, 5, 71] n (fun g _ _ i wr => ∃ k : Nat, k ≤ n ∧ g = n - k ∧ i = .int .i64 k ∧ Im w B S q cap n f0 f1 f5 f6 c v (w.heap.size + 1) (impTo v c k) wr)
        case atStart => exact ⟨0, by omega, rfl, rfl, hcut.congr (fun j _ => by unfold impTo; rw [if_neg (by omega)])⟩
        case round =>
          clear hcut k2 k4
          obtain ⟨k, hk, rfl, rfl, hI⟩ := hrel
          by_cases hkn : k < n
          · have hkz : (k : Int) < (n : Int) := by omega
            have hc := hI.types.cell hkn
            have k3 : wr.cell? ⟨S, 3, none⟩ = some (.slice (some ⟨w.heap.size + 1, 0, none⟩) n n) := hI.row.cell (by omega)
            have g1 := hI.levels.cell hkn
            rw [impTo_at] at g1
            have g2 := hI.levels.frozen k
            by_cases h2 : c k = 1
            · have b2 : (c k == 1) = true := by simp [h2]
              have R := hI.congr (L' := impTo v c (k + 1)) (fun j _ => impTo_same _ _ _ _ (by unfold imp; rw [if_neg (by omega), if_pos h2]))
              clear hI
              go_wp2_with fail
              go_roundg (n - (k + 1))
              case rel => exact ⟨k + 1, by omega, rfl, by go_num, R⟩
              case measure => omega
            · have b2 : (c k == 1) = false := by simp [h2]
              have R := hI.set hSlt hqlt k ((v : Int) + 1) (L' := impTo v c (k + 1)) (fun j _ => impTo_step _ _ _ _ _ (by unfold imp; rw [if_neg (by omega), if_neg h2]))
              clear hI
              go_wp2_with fail
              go_roundg (n - (k + 1))
              case rel => exact ⟨k + 1, by omega, rfl, by go_num, R⟩
              case measure => omega
          · obtain rfl : k = n := by omega
            go_wp2_with fail
            go_end0
            exact .inl ⟨HALL.out, rfl, _, hI.congr (fun j hj => by unfold impTo; rw [if_pos hj])⟩

end Go.Proofs.YtkocpijloiamcaaDoor
