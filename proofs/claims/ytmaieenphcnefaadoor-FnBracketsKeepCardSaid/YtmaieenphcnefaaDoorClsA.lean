/- impl.classOf, impl.classesOf: classes by their numbers. -/
import Derived.Test.YtmaieenphcnefaaDoorRet
import Derived.Test.YtmaieenphcnefaaDoorInfo
import Derived.Test.YtmaieenphcnefaaDoorCls
import Derived.Deep.LoopGhost
import Derived.Lib.Hide
namespace Go.Proofs.YtmaieenphcnefaaDoor
open Go.RowKit

/-- The table of classes lies as the text lays it. -/
def Tab (w : World) : Prop := ∀ i : Nat, i < 23 → w.cell? ⟨0, i, none⟩ = some (.int .u64 (cls i))

theorem Tab.since {w w' : World} (h : Tab w) (s : w.Since w.heap.size w') : Tab w' := fun i hi => by
  rw [s.cell (a := ⟨0, i, none⟩) (World.block_lt_of_cell? _ _ (h i hi))]; exact h i hi

theorem Tab.kp {S : Nat → Prop} {w w' : World} (h : Tab w) (s : Kp S w w') (hs : ¬ S 0) : Tab w' := fun i hi => s.cell (h i hi) hs

theorem Tab.lt {w : World} (h : Tab w) : 0 < w.heap.size := World.block_lt_of_cell? _ _ (h 0 (by omega))

theorem classOf_any (n : Int) (w : World) (ht : Tab w) : Calls Tryd.prog 34 #[.int .i64 n] w fun e w' => e = .returned (.int .u64 (cls n)) ∧ w = w' := by
  by_cases h1 : n < 0
  · have e : cls n = 10 := by unfold cls; rw [if_pos (by omega)]
    rw [e]
    go_enter Tryd.func34, Tryd.ntmps34
    go_wp2
    go_ret
    exact ⟨rfl, rfl⟩
  · by_cases h2 : 23 ≤ n
    · have e : cls n = 10 := by unfold cls; rw [if_pos (by omega)]
      rw [e]
      go_enter Tryd.func34, Tryd.ntmps34
      go_wp2
      go_ret
      exact ⟨rfl, rfl⟩
    · obtain ⟨k, rfl⟩ := Int.eq_ofNat_of_zero_le (show 0 ≤ n by omega)
      have hk : k < 23 := by omega
      have hc := ht k hk
      obtain ⟨c, hce⟩ : ∃ c, c = cls (k : Int) := ⟨_, rfl⟩
      rw [← hce] at hc
      rw [← hce]
      clear hce ht
      go_enter Tryd.func34, Tryd.ntmps34
      go_wp2
      go_ret
      exact ⟨rfl, rfl⟩

set_option maxHeartbeats 400000 in
theorem classesOf_any {ao : Option Addr} {b o n c : Nat} {x : Nat → Int} (w : World) (ht : Tab w) (hn : n ≤ 4294967296) (hx : Sees w ao b o n c (fun i => .int .i64 (x i))) :
    Calls Tryd.prog 24 #[.slice ao n c] w (RetSees w n (fun i => .int .u64 (cls (x i)))) := by
  go_enter Tryd.func24, Tryd.ntmps24
  go_wp2_with (at_make; refine wpList_make0 _ rfl _ _ 41 rfl w.heap.size 56 (.int .u64 0) 8 Tryd.underlying41 Tryd.infoClass (fun i => .int .u64 (cls (x i))) n rfl rfl (by omega) hn (Nat.le_refl _) ?_)
  intro w1 hg1 hgr1
  have hs1 : w.Since w.heap.size w1 := (World.Since.refl _ _).grown hgr1 (Nat.le_refl _) (by simp)
  clear hgr1
  go_wp2
  go_loopg [3, 5, 11] n (fun g v _ i wr => ∃ k : Nat, k ≤ n ∧ g = n - k ∧ i = .int .i64 k ∧ Gr wr w.heap.size 56 v k (fun i => .int .u64 (cls (x i))) ∧ w.Since w.heap.size wr)
  case atStart => exact ⟨0, by omega, rfl, rfl, hg1, hs1⟩
  case round =>
    obtain ⟨k, hk, rfl, rfl, hg, hs⟩ := hrel
    clear hg1 hs1
    by_cases hlt : k < n
    · obtain ⟨rfl, hc⟩ := hx.get hlt
      have hc' : wr.cell? ⟨b, o + k, none⟩ = some (.int .i64 (x k)) := by rw [hs.cell (World.block_lt_of_cell? _ _ hc)]; exact hc
      have hsz : w.heap.size ≤ wr.heap.size := hs.size
      have htr := ht.since hs
      clear hc
      go_wp2_with fail
      refine (classOf_any _ _ htr).mono ?_
      rintro e w3 ⟨rfl, rfl⟩
      go_wp2_with (at_builtin; refine wpList_push wr rfl _ _ 41 rfl w.heap.size 56 (.int .u64 0) 8 Tryd.underlying41 Tryd.infoClass rfl _ _ _ _ (by rfl) hg (by rfl) rfl (by omega) (by omega) hsz ?_)
      intro v' w2 hg2 hgr2 hat
      have hs2 : w.Since w.heap.size w2 := (hs.alloc hsz _).grown hgr2 (by simp; omega) (fun k hk => (hg.ge k hk).1)
      have hg3 := hg2.congr (g := fun i => .int .u64 (cls (x i))) (fun i _ => by split <;> simp_all)
      clear hg hs hc' hg2 hgr2 hat htr
      go_wp2
      go_roundg (n - (k + 1))
      case rel => exact ⟨k + 1, by omega, rfl, by go_num, hg3, hs2⟩
      case measure => omega
    · obtain rfl : k = n := by omega
      go_wp2
      go_ret
      exact hg.ret hs (Nat.le_refl _)

end Go.Proofs.YtmaieenphcnefaaDoor
