/- bidi.places, bidi.sequence, (*isolatingRunSequence).assertOnly: a text as one isolating run sequence. -/
import Derived.Test.YtmaieenphcnefaaDoorRet
import Derived.Test.YtmaieenphcnefaaDoorInfo
import Derived.Test.YtmaieenphcnefaaDoorClsA
import Derived.Test.YtmaieenphcnefaaDoorSf
import Derived.Deep.LoopGhost
import Derived.WalkMore
import Derived.Lib.Hide
namespace Go.Proofs.YtmaieenphcnefaaDoor
open Go.RowKit

set_option maxHeartbeats 400000 in
theorem places_any (n : Nat) (w : World) (hn : n ≤ 4294967296) : Calls Tryd.prog 36 #[.int .i64 n] w fun e w' => e = .returned (.slice (some ⟨w.heap.size, 0, none⟩) n n) ∧ w'.rowIs w.heap.size 3 n (fun i => .int .i64 i) ∧ w.Since w.heap.size w' := by
  have hmk := run_make_row' (P := Tryd.prog) 22 3 (.int .i64 0) 8 Tryd.underlying22 Tryd.infoInt rfl .i64 .i64 n (by omega) (by omega)
  go_enter Tryd.func36, Tryd.ntmps36
  go_wp2
  clear hmk
  go_loopg [4, 9] n (fun g _ i wr => ∃ k : Nat, k ≤ n ∧ g = n - k ∧ i = .int .i64 k ∧ wr.rowIs w.heap.size 3 n (fun j => .int .i64 (if j < k then (j : Int) else 0)) ∧ w.Since w.heap.size wr)
  case atStart => exact ⟨0, by omega, rfl, rfl, (World.rowIs_made w _ n 3).congr (fun j _ => by simp), (World.Since.refl _ _).alloc (Nat.le_refl _) _⟩
  case round =>
    obtain ⟨k, hk, rfl, rfl, hr, hs⟩ := hrel
    by_cases hkn : k < n
    · have hkz : (k : Int) < (n : Int) := by omega
      have g1 := hr.cell hkn
      have g2 := hr.frozen k
      have R := (hr.set k (.int .i64 (k : Int))).congr (g := fun j => .int .i64 (if j < k + 1 then (j : Int) else 0)) (fun j _ => by
        by_cases e : j = k
        · subst e; rw [if_pos rfl, if_pos (by omega)]
        · rw [if_neg e]
          by_cases h : j < k
          · rw [if_pos h, if_pos (by omega)]
          · rw [if_neg h, if_neg (by omega)])
      have S := hs.setCell (a := ⟨w.heap.size, k, none⟩) (Nat.le_refl _) (.int .i64 (k : Int))
      clear hr hs
      go_wp2
      go_roundg (n - (k + 1))
      case rel => exact ⟨k + 1, by omega, rfl, by go_num, R, S⟩
      case measure => omega
    · obtain rfl : k = n := by omega
      go_wp2
      go_ret
      exact ⟨rfl, hr.congr (fun j hj => by rw [if_pos hj]), hs⟩

/-- A new sequence over a list of classes of its own. -/
structure Seq0 (w : World) (n : Nat) (c : Nat → Int) (lv sos eos : Int) (S q cap : Nat) (w' : World) : Prop where
  row : w'.rowIs S 79 7 (sf (.pointer none) (.slice (some ⟨w.heap.size, 0, none⟩) n n) (.slice (some ⟨q, 0, none⟩) n cap) (.slice none 0 0) (.int .i8 lv) (.int .u64 sos) (.int .u64 eos))
  idx : w'.rowIs w.heap.size 3 n (fun i => .int .i64 i)
  types : Gr w' w.heap.size 56 (.slice (some ⟨q, 0, none⟩) n cap) n (fun i => .int .u64 (c i))
  ne : q ≠ S
  ne0 : q ≠ w.heap.size
  ne1 : S ≠ w.heap.size
  ge : w.heap.size ≤ S
  since : w.Since w.heap.size w'

set_option maxHeartbeats 1000000 in
theorem sequence_any {ao : Option Addr} {b o n cc : Nat} {c : Nat → Int} {lv sos eos : Int} (w : World) (hn : n ≤ 4294967296) (h0 : 0 < n) (hx : Sees w ao b o n cc (fun i => .int .u64 (c i))) :
    Calls Tryd.prog 43 #[.slice ao n cc, .int .i8 lv, .int .u64 sos, .int .u64 eos] w fun e w' => ∃ S q cap, e = .returned (.pointer (some ⟨S, 0, none⟩)) ∧ Seq0 w n c lv sos eos S q cap w' := by
  go_enter Tryd.func43, Tryd.ntmps43
  go_wp2_with fail
  refine (places_any n _ hn).mono ?_
  rintro e w1 ⟨rfl, hidx, hsi1⟩
  have hx1 := hx.since hsi1
  have hlt1 := hidx.lt
  clear hx
  have g1 := Gr.empty w1 w1.heap.size 56 (fun _ => .int .u64 0) (Nat.le_refl _)
  have hsA : w1.Since w1.heap.size (w1.alloc (.cells #[] 56)) := (World.Since.refl _ _).alloc (Nat.le_refl _) _
  have hx2 := hx1.since hsA
  go_wp2_with (refine wpList_cat _ rfl (.tmp 12) (.tmp 13) 41 rfl w1.heap.size 56 (.int .u64 0) 8 Tryd.underlying41 Tryd.infoClass rfl _ _ _ (by rfl) g1 (by rfl) hx2 (fun _ _ => rfl) (by omega) (by omega) (by simp) ?_)
  intro v2 w2 hg2 hgr2 _
  have hs2 : w1.Since w1.heap.size w2 := hsA.grown hgr2 (by simp) (by simp [Value.ownBlock])
  have hg2' : Gr w2 w1.heap.size 56 v2 n (fun i => .int .u64 (c i)) := by first | exact hg2 | (rw [Nat.zero_add] at hg2; exact hg2.congr fun i _ => by simp)
  obtain ⟨q, cap, rfl, hq⟩ := hg2'.form h0
  have hqlt := (hg2'.ge q rfl).2
  have hidx2 := hidx.of_block (hs2.block _ hlt1)
  have hs02 := since2 hsi1 hs2
  have hz1 := hs2.size
  have hz0 := hsi1.size
  clear g1 hsA hx1 hx2 hg2 hgr2 hidx hsi1 hs2
  go_wp2
  go_ret
  refine ⟨w2.heap.size, q, cap, rfl, ?_, hidx2.alloc _, (hg2'.alloc _).base hz0, by omega, by omega, by omega, by omega, hs02.alloc hs02.size _⟩
  refine World.rowIs_alloc w2 #[_, _, _, _, _, _, _] _ _ (fun i hi => ?_)
  match i, hi with
  | 0, _ => rfl
  | 1, _ => rfl
  | 2, _ => rfl
  | 3, _ => rfl
  | 4, _ => rfl
  | 5, _ => rfl
  | 6, _ => rfl

end Go.Proofs.YtmaieenphcnefaaDoor
