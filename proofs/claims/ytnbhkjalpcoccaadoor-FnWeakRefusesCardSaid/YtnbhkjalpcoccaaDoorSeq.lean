/- bidi.places, bidi.sequence, (*isolatingRunSequence).assertOnly: a text as one isolating run sequence. -/
import Derived.Test.YtnbhkjalpcoccaaDoorRet
import Derived.Test.YtnbhkjalpcoccaaDoorInfo
import Derived.Test.YtnbhkjalpcoccaaDoorClsWalks
import Derived.Deep.LoopGhost
import Derived.WalkMore
import Derived.Lib.Hide
namespace Go.Proofs.YtnbhkjalpcoccaaDoor
open Go.RowKit

/-- Seven fields. -/
def sf (f0 f1 f2 f3 f4 f5 f6 : Value) : Nat → Value
  | 0 => f0 | 1 => f1 | 2 => f2 | 3 => f3 | 4 => f4 | 5 => f5 | 6 => f6 | _ => f6

theorem sf_set3 {w : World} {p : Nat} {t : TypeId} {f0 f1 f2 f3 f4 f5 f6 : Value} (h : w.rowIs p t 7 (sf f0 f1 f2 f3 f4 f5 f6)) (v : Value) : (w.setCell ⟨p, 3, none⟩ v).rowIs p t 7 (sf f0 f1 f2 v f4 f5 f6) :=
  (h.set 3 v).congr fun i hi => match i, hi with | 0, _ => rfl | 1, _ => rfl | 2, _ => rfl | 3, _ => rfl | 4, _ => rfl | 5, _ => rfl | 6, _ => rfl

/-- A panic of the text's own. -/
def Died (e : Ending) : Prop := ∃ u pv, e = .panicked [{ v := .iface u pv, recovered := false }]

set_option maxHeartbeats 400000 in
theorem places_any (n : Nat) (w : World) (hn : n ≤ 4294967296) : Calls Tryd.prog 44 #[.int .i64 n] w fun e w' => e = .returned (.slice (some ⟨w.heap.size, 0, none⟩) n n) ∧ w'.rowIs w.heap.size 3 n (fun i => .int .i64 i) ∧ w.Since w.heap.size w' := by
  have hmk := run_make_row' (P := Tryd.prog) 22 3 (.int .i64 0) 8 Tryd.underlying22 Tryd.infoInt rfl .i64 .i64 n (by omega) (by omega)
  go_enter Tryd.func44, Tryd.ntmps44
  go_wp2
  clear hmk
  go_loopg [4, 9] n (fun g _ i wr => ∃ k : Nat, k ≤ n ∧ g = n - k ∧ i = .int .i64 k ∧ wr.rowIs w.heap.size 3 n (fun j => .int .i64 (if j < k then (j : Int) else 0)) ∧ w.Since w.heap.size wr)
  case atStart => exact ⟨0, by omega, rfl, rfl, (World.rowIs_made w _ n 3).congr (fun j _ => by simp), (World.Since.refl _ _).alloc (Nat.le_refl _) _⟩
  case round =>
    obtain ⟨k, hk, rfl, rfl, hr, hs⟩ := hrel
    by_cases hkn : k < n
    · have hkz : (k : Int) < (n : Int) := by omega
      have g1 := hr.cell hkn
      have g2 := hr.frozen k
      have R := (hr.set k (.int .i64 (k : Int))).congr (g := fun j => .int .i64 (if j < k + 1 then (j : Int) else 0)) (fun j _ => by
        by_cases e : j = k
        · subst e; rw [if_pos rfl, if_pos (by omega)]
        · rw [if_neg e]
          by_cases h : j < k
          · rw [if_pos h, if_pos (by omega)]
          · rw [if_neg h, if_neg (by omega)])
      have S := hs.setCell (a := ⟨w.heap.size, k, none⟩) (Nat.le_refl _) (.int .i64 (k : Int))
      clear hr hs
      go_wp2
      go_roundg (n - (k + 1))
      case rel => exact ⟨k + 1, by omega, rfl, by go_num, R, S⟩
      case measure => omega
    · obtain rfl : k = n := by omega
      go_wp2
      go_ret
      exact ⟨rfl, hr.congr (fun j hj => by rw [if_pos hj]), hs⟩

/-- A new sequence over a list of classes of its own. -/
structure Seq0 (w : World) (n : Nat) (c : Nat → Int) (lv sos eos : Int) (S q cap : Nat) (w' : World) : Prop where
  row : w'.rowIs S 53 7 (sf (.pointer none) (.slice (some ⟨w.heap.size, 0, none⟩) n n) (.slice (some ⟨q, 0, none⟩) n cap) (.slice none 0 0) (.int .i8 lv) (.int .u64 sos) (.int .u64 eos))
  idx : w'.rowIs w.heap.size 3 n (fun i => .int .i64 i)
  types : Gr w' w.heap.size 40 (.slice (some ⟨q, 0, none⟩) n cap) n (fun i => .int .u64 (c i))
  ne : q ≠ S
  ne0 : q ≠ w.heap.size
  ne1 : S ≠ w.heap.size
  ge : w.heap.size ≤ S
  since : w.Since w.heap.size w'

set_option maxHeartbeats 1000000 in
theorem sequence_any {ao : Option Addr} {b o n cc : Nat} {c : Nat → Int} {lv sos eos : Int} (w : World) (hn : n ≤ 4294967296) (h0 : 0 < n) (hx : Sees w ao b o n cc (fun i => .int .u64 (c i))) :
    Calls Tryd.prog 39 #[.slice ao n cc, .int .i8 lv, .int .u64 sos, .int .u64 eos] w fun e w' => ∃ S q cap, e = .returned (.pointer (some ⟨S, 0, none⟩)) ∧ Seq0 w n c lv sos eos S q cap w' := by
  go_enter Tryd.func39, Tryd.ntmps39
  go_wp2_with fail
  refine (places_any n _ hn).mono ?_
  rintro e w1 ⟨rfl, hidx, hsi1⟩
  have hx1 := hx.since hsi1
  have hlt1 := hidx.lt
  clear hx
  have g1 := Gr.empty w1 w1.heap.size 40 (fun _ => .int .u64 0) (Nat.le_refl _)
  have hsA : w1.Since w1.heap.size (w1.alloc (.cells #[] 40)) := (World.Since.refl _ _).alloc (Nat.le_refl _) _
  have hx2 := hx1.since hsA
  go_wp2_with (refine wpList_cat _ rfl (.tmp 12) (.tmp 13) 35 rfl w1.heap.size 40 (.int .u64 0) 8 Tryd.underlying35 Tryd.infoClass rfl _ _ _ (by rfl) g1 (by rfl) hx2 (fun _ _ => rfl) (by omega) (by omega) (by simp) ?_)
  intro v2 w2 hg2 hgr2 _
  have hs2 : w1.Since w1.heap.size w2 := hsA.grown hgr2 (by simp) (by simp [Value.ownBlock])
  have hg2' : Gr w2 w1.heap.size 40 v2 n (fun i => .int .u64 (c i)) := by first | exact hg2 | (rw [Nat.zero_add] at hg2; exact hg2.congr fun i _ => by simp)
  obtain ⟨q, cap, rfl, hq⟩ := hg2'.form h0
  have hqlt := (hg2'.ge q rfl).2
  have hidx2 := hidx.of_block (hs2.block _ hlt1)
  have hs02 := since2 hsi1 hs2
  have hz1 := hs2.size
  have hz0 := hsi1.size
  clear g1 hsA hx1 hx2 hg2 hgr2 hidx hsi1 hs2
  go_wp2
  go_ret
  refine ⟨w2.heap.size, q, cap, rfl, ?_, hidx2.alloc _, (hg2'.alloc _).base hz0, by omega, by omega, by omega, by omega, hs02.alloc hs02.size _⟩
  refine World.rowIs_alloc w2 #[_, _, _, _, _, _, _] _ _ (fun i hi => ?_)
  match i, hi with
  | 0, _ => rfl
  | 1, _ => rfl
  | 2, _ => rfl
  | 3, _ => rfl
  | 4, _ => rfl
  | 5, _ => rfl
  | 6, _ => rfl

/-- Are all classes in a list? -/
def allB (l : List Int) (c : Nat → Int) (n : Nat) : Bool := decide (∀ i, i < n → memB l (c i) = true)

set_option maxHeartbeats 1000000 in
theorem assertOnly_any (l : List Int) {S b2 : Nat} {ao : Option Addr} {b o n cc : Nat} {c : Nat → Int} (w : World) (hn : n ≤ 4294967296) (hl : l.length ≤ 1000) (hc : w.cell? ⟨S, 2, none⟩ = some (.slice ao n cc)) (hx : Sees w ao b o n cc (fun i => .int .u64 (c i)))
    (hh : w.heap[b2]? = some (.cells (l.map (Value.int .u64)).toArray 40 (0, 0))) :
    Calls Tryd.prog 45 #[.pointer (some ⟨S, 0, none⟩), .slice (some ⟨b2, 0, none⟩) l.length l.length] w fun e w' => ((allB l c n = true ∧ e = .returned (.tuple #[])) ∨ (allB l c n = false ∧ Died e)) ∧ w = w' := by
  have HC : ∀ i, i < l.length → w.cell? ⟨b2, i, none⟩ = some (.int .u64 (l.getD i 0)) := fun i hi => by rw [lits_cell hh hi]; simp [hi]
  have HH := Lib.hid HC
  clear HC hh
  obtain ⟨m, hm⟩ : ∃ m, m = l.length := ⟨_, rfl⟩
  rw [← hm]
  rw [← hm] at hl
  have HM := Lib.hid hm
  clear hm
  go_enter Tryd.func45, Tryd.ntmps45
  go_wp2
  go_step3
  go_wp2
  go_step3
  go_wp2
  clear hc
  go_loop [13] (fun i => ∃ k : Nat, k ≤ n ∧ i = .int .i64 k ∧ Hid (∀ j, j < k → memB l (c j) = true)) (fun i => n - (intOf i).toNat)
  case atStart => exact ⟨0, by omega, rfl, fun j hj => absurd hj (Nat.not_lt_zero _)⟩
  case round =>
    obtain ⟨k, hk, rfl, HA⟩ := hrel
    by_cases hkn : k < n
    · have hkz : (k : Int) < (n : Int) := by omega
      obtain ⟨rfl, hc⟩ := hx.get hkn
      go_wp2
      go_loop [19] (fun i => ∃ q : Nat, q ≤ m ∧ i = .int .i64 q ∧ Hid (∀ j, j < q → l.getD j 0 ≠ c k)) (fun i => m - (intOf i).toNat)
      case atStart => exact ⟨0, by omega, rfl, fun j hj => absurd hj (Nat.not_lt_zero _)⟩
      case round =>
        obtain ⟨q, hq, rfl, HB⟩ := hrel
        by_cases hqm : q < m
        · have hqz : (q : Int) < (m : Int) := by omega
          have hcq := HH.out q (by rw [← HM.out]; exact hqm)
          obtain ⟨u, hu⟩ : ∃ u, u = l.getD q 0 := ⟨_, rfl⟩
          rw [← hu] at hcq
          have HU := Lib.hid hu
          clear hu
          by_cases he : c k = u
          · have hb : (c k == u) = true := by simp [he]
            have HE := Lib.hid he
            clear he
            go_wp2
            go_round
            case rel => exact ⟨k + 1, by omega, by go_num, fun j hj => by
              rcases Nat.lt_succ_iff_lt_or_eq.1 hj with h | h
              · exact HA.out j h
              · subst h
                rw [memB_iff, HE.out, HU.out]
                have hk2 : q < l.length := by rw [← HM.out]; exact hqm
                simp [hk2]⟩
            case measure => simp [intOf]; omega
          · have hb : (c k == u) = false := by simp [he]
            have HE := Lib.hid he
            clear he
            go_wp2
            go_round
            case rel => exact ⟨q + 1, by omega, by go_num, fun j hj => by
              rcases Nat.lt_succ_iff_lt_or_eq.1 hj with h | h
              · exact HB.out j h
              · subst h; rw [← HU.out]; exact fun e => HE.out e.symm⟩
            case measure => simp [intOf]; omega
        · obtain rfl : q = m := by omega
          go_wp2
          refine ⟨rfl, .inr ⟨?_, _, _, rfl⟩, rfl⟩
          unfold allB
          rw [decide_eq_false_iff_not]
          intro hall
          have hmem := memB_iff.1 (hall k hkn)
          obtain ⟨i, hi, e⟩ := List.getElem_of_mem hmem
          exact HB.out i (by rw [HM.out]; exact hi) (by simp [hi, e])
    · obtain rfl : k = n := by omega
      go_wp2
      first | go_end0 | skip
      exact ⟨.inl ⟨by unfold allB; rw [decide_eq_true_eq]; exact HA.out, rfl⟩, rfl⟩

end Go.Proofs.YtnbhkjalpcoccaaDoor
