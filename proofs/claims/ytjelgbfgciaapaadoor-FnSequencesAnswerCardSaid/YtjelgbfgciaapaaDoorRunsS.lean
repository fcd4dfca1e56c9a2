/- spec.Runs. -/
import Derived.Test.YtjelgbfgciaapaaDoorLL
import Derived.Test.YtjelgbfgciaapaaDoorRunsI
import Derived.Deep.LoopGhost
namespace Go.Proofs.YtjelgbfgciaapaaDoor
open Go.RowKit
set_option linter.unusedVariables false

set_option maxHeartbeats 4000000 in
theorem specRuns_any {ao : Option Addr} {b o n cc : Nat} {lv : Nat → Int} (w : World) (hn : n ≤ 4294967296) (hx : Sees w ao b o n cc (fun i => .int .i64 (lv i))) (hrg : ∀ i, i < n → -1 ≤ lv i ∧ lv i ≤ 125) :
    Calls Tryd.prog 20 #[.slice ao n cc] w (RetLL w (runs lv n)) := by
  have HRG := Lib.hid hrg
  clear hrg
  have g2 := Gr.empty w w.heap.size 22 (fun _ => .slice none 0 0) (Nat.le_refl _)
  have H0 : LL (w.alloc (.cells #[] 22)) w.heap.size (.slice (some ⟨w.heap.size, 0, none⟩) 0 0) [] := LL.nil _ _ _ _ g2
  have hs0 : w.Since w.heap.size (w.alloc (.cells #[] 22)) := (World.Since.refl _ _).alloc (Nat.le_refl _) _
  clear g2
  go_enter Tryd.func20, Tryd.ntmps20
  go_wp2_with fail
  go_loopg [3, 4, 5, 6, 10] n (fun g rv cur _ _ i wr => ∃ (k : Nat) (c : Int), k ≤ n ∧ g = n - k ∧ i = .int .i64 k ∧ cur = .int .i64 c ∧ Hid (c = lastL lv k) ∧ LL wr w.heap.size rv (runs lv k) ∧ w.Since w.heap.size wr)
  case atStart => exact ⟨0, -1, by omega, rfl, rfl, rfl, rfl, H0, hs0⟩
  case round =>
    clear H0 hs0
    obtain ⟨k, c, hk, rfl, rfl, rfl, HC, hL, hs⟩ := hrel
    by_cases hkn : k < n
    · have hkz : (k : Int) < (n : Int) := by omega
      obtain ⟨rfl, hc0⟩ := hx.get hkn
      have hc : wr.cell? ⟨b, o + k, none⟩ = some (.int .i64 (lv k)) := by rw [hs.cell (World.block_lt_of_cell? _ _ hc0)]; exact hc0
      have hsz : w.heap.size ≤ wr.heap.size := hs.size
      have hrl := runs_len lv k
      have HST := Lib.hid (runs_step (lv := lv) (k := k))
      have HV0 := Lib.hid (show ∀ v, v = lv k → v ≠ -1 → lastL lv (k + 1) = v from fun v e h => by rw [e] at h ⊢; exact lastL_of h)
      have HR0 := Lib.hid (show lv k = -1 → lastL lv (k + 1) = lastL lv k from fun h => (rs_rem h).2)
      obtain ⟨v, hv⟩ : ∃ v, v = lv k := ⟨_, rfl⟩
      rw [← hv] at hc HST HR0
      have HV := Lib.hid hv
      clear hv hc0
      by_cases hm : v = -1
      · have hb : (v == -1) = true := by rw [hm]; rfl
        have HM := Lib.hid (HST.out.trans (if_pos hm))
        have HL := Lib.hid (HR0.out hm)
        clear hm
        go_wp2_with fail
        go_roundg (n - (k + 1))
        case rel => exact ⟨k + 1, c, by omega, rfl, by go_num, rfl, HC.out.trans HL.out.symm, by rw [HM.out]; exact hL, hs⟩
        case measure => omega
      · have hb : (v == -1) = false := by rw [beq_eq_false_iff_ne]; exact hm
        have HS2 := Lib.hid (HST.out.trans (if_neg hm))
        have HL := Lib.hid (HV0.out v HV.out hm)
        clear hm
        have h64 : (runs lv k).length ≤ 4294967296 := by omega
        by_cases hsame : v = c
        · have hb2 : (v != c) = false := by rw [hsame]; simp
          have HE := Lib.hid (show runs lv (k + 1) = (rs lv k).1 ++ [(rs lv k).2 ++ [k]] from HS2.out.trans (if_pos (by rw [hsame, HC.out])))
          have hlast : lastL lv k ≠ -1 := fun e => by
            have : v = -1 := by rw [hsame, HC.out, e]
            rw [this] at hb; exact absurd hb (by decide)
          have hru : runs lv k = (rs lv k).1 ++ [(rs lv k).2] := by unfold runs; rw [if_neg hlast]
          have hlen := rs_len lv k
          rw [if_neg hlast] at hlen
          obtain ⟨r, hr⟩ : ∃ r, r = (rs lv k).2 := ⟨_, rfl⟩
          obtain ⟨Q, hQ⟩ : ∃ Q, Q = (rs lv k).1 := ⟨_, rfl⟩
          rw [← hr, ← hQ] at hru HE hlen
          rw [hru] at hL
          obtain ⟨f, q1, q2, q3, q4⟩ := hL
          have hll : (Q ++ [r]).length = Q.length + 1 := by simp
          rw [hll] at q1 q2 q3 q4
          obtain ⟨g, cap, rfl, hgb⟩ := q1.form (by omega)
          have hcl := q1.cell (i := Q.length) (by omega)
          have hfr := q1.frozen Q.length
          have hrow := q2 Q.length (by omega)
          rw [getD_snoc, if_pos rfl] at hrow
          have hlz : (Q.length : Int) ≤ 4294967296 := by omega
          have hlz2 : (Q.length : Int) < (Q.length : Int) + 1 := by omega
          have hlz3 : (0 : Int) ≤ (Q.length : Int) := by omega
          obtain ⟨u, hu⟩ : ∃ u, u = f Q.length := ⟨_, rfl⟩
          rw [← hu] at hcl hrow
          have HU := Lib.hid hu
          have HSM := Lib.hid hsame
          clear hsame hlast hru hr hQ hu h64 hrl
          go_wp2_with (at_builtin; go_must (refine wpList_push wr rfl _ _ 22 rfl w.heap.size 3 (.int .i64 0) 8 Tryd.underlying22 Tryd.infoInt rfl _ _ _ _ (by rfl) hrow (by rfl) rfl (by omega) (by omega) hsz ?_))
          intro u' w2 hg2 hgr2 hat
          obtain ⟨uao, ucc, hu'⟩ := hg2.len
          subst hu'
          rw [HU.out] at hgr2 hat
          have hL2 := LL.setLast q1 q2 q3 q4 hg2 hgr2 hat
          have hs2 : w.Since w.heap.size w2 := (hs.alloc hsz _).grown hgr2 (by simp; omega) (fun k hk => ((q2 Q.length (by omega)).ge k hk).1)
          have hs3 := hs2.setCell (a := ⟨g, Q.length, none⟩) hgb (.slice uao (r.length + 1) ucc)
          have ho2 := (q1.alloc (.cells #[.int .i64 (k : Int)] 3)).apart hgr2 (q3 Q.length (by omega)).symm
          have hcl2 := ho2.cell (i := Q.length) (by omega)
          have hfr2 := ho2.frozen Q.length
          clear q1 q2 q3 q4 hg2 hgr2 hat hs hs2 hcl hfr hrow ho2 hc
          go_wp2_with fail
          go_roundg (n - (k + 1))
          case rel => exact ⟨k + 1, c, by omega, rfl, by go_num, rfl, (show c = lastL lv (k + 1) by rw [HL.out, HSM.out]), by rw [HE.out]; exact hL2, hs3⟩
          case measure => omega
        · have hb2 : (v != c) = true := by simpa using hsame
          have HE := Lib.hid (show runs lv (k + 1) = runs lv k ++ [[k]] from HS2.out.trans (if_neg (by rw [← HC.out]; exact hsame)))
          clear hsame
          obtain ⟨Q, hQ⟩ : ∃ Q, Q = runs lv k := ⟨_, rfl⟩
          rw [← hQ] at hL HE h64
          obtain ⟨f, q1, q2, q3, q4⟩ := hL
          clear hQ hrl
          have hlt1 : ∀ q, u3.ownBlock = some q → q < wr.heap.size := fun q hq => (q1.ge q hq).2
          have hlt2 : ∀ j, j < Q.length → ∀ q, (f j).ownBlock = some q → q < wr.heap.size := fun j hj q hq => ((q2 j hj).ge q hq).2
          have hP : LLp (wr.alloc (.cells #[] 3)) w.heap.size u3 Q (.slice (some ⟨wr.heap.size, 0, none⟩) 0 0) [] f :=
            ⟨q1.alloc _, fun j hj => (q2 j hj).alloc _, q3, q4, Gr.empty wr w.heap.size 3 (cellsOf []) hsz, fun q h1 h2 => by
              simp only [Value.ownBlock, Option.some.injEq] at h2
              have := hlt1 q h1; omega, fun j hj q h1 h2 => by
              simp only [Value.ownBlock, Option.some.injEq] at h2
              have := hlt2 j hj q h1; omega⟩
          have hsA := hs.alloc hsz (.cells #[] 3)
          have hszA : w.heap.size ≤ (wr.alloc (.cells #[] 3)).heap.size := hsA.size
          clear q1 q2 q3 q4 hlt1 hlt2
          go_wp2_with (at_builtin; go_must (refine wpList_push (wr.alloc (.cells #[] 3)) rfl _ _ 31 rfl w.heap.size 22 (.slice none 0 0) 24 Tryd.underlying31 Tryd.infoInts rfl _ _ _ _ (by rfl) hP.outer (by rw [World.size_alloc]; rfl) rfl (by omega) (by omega) hszA ?_))
          intro v' w2 hg2 hgr2 hat
          have hL2 := (hP.pushOuter hg2 hgr2 (by rw [World.size_alloc]; exact hat)).ll
          have hs2 : w.Since w.heap.size w2 := (hsA.alloc hszA _).grown hgr2 (by simp; omega) (fun k hk => (hP.outer.ge k hk).1)
          clear hP hg2 hgr2 hat hs hsA hc
          have hsz2 : w.heap.size ≤ w2.heap.size := hs2.size
          obtain ⟨f2, q1, q2, q3, q4⟩ := hL2
          have hll : (Q ++ [([] : List Nat)]).length = Q.length + 1 := by simp
          rw [hll] at q1 q2 q3 q4
          obtain ⟨g, cap, rfl, hgb⟩ := q1.form (by omega)
          have hcl := q1.cell (i := Q.length) (by omega)
          have hfr := q1.frozen Q.length
          have hrow := q2 Q.length (by omega)
          rw [getD_snoc, if_pos rfl] at hrow
          have hlz : (Q.length : Int) ≤ 4294967296 := by omega
          have hlz2 : (Q.length : Int) < (Q.length : Int) + 1 := by omega
          have hlz3 : (0 : Int) ≤ (Q.length : Int) := by omega
          obtain ⟨u, hu⟩ : ∃ u, u = f2 Q.length := ⟨_, rfl⟩
          rw [← hu] at hcl hrow
          have HU := Lib.hid hu
          clear hu h64
          go_wp2_with (at_builtin; go_must (refine wpList_push w2 rfl _ _ 22 rfl w.heap.size 3 (.int .i64 0) 8 Tryd.underlying22 Tryd.infoInt rfl _ _ _ _ (by rfl) hrow (by rfl) rfl (by simp) (by omega) hsz2 ?_))
          intro u' w4 hg4 hgr4 hat4
          obtain ⟨uao, ucc, hu'⟩ := hg4.len
          subst hu'
          rw [HU.out] at hgr4 hat4
          have hL4 := LL.setLast q1 q2 q3 q4 hg4 hgr4 hat4
          have hs4 : w.Since w.heap.size w4 := (hs2.alloc hsz2 _).grown hgr4 (by simp; omega) (fun k hk => ((q2 Q.length (by omega)).ge k hk).1)
          have hs5 := hs4.setCell (a := ⟨g, Q.length, none⟩) hgb (.slice uao (([] : List Nat).length + 1) ucc)
          have ho2 := (q1.alloc (.cells #[.int .i64 (k : Int)] 3)).apart hgr4 (q3 Q.length (by omega)).symm
          have hcl2 := ho2.cell (i := Q.length) (by omega)
          have hfr2 := ho2.frozen Q.length
          clear q1 q2 q3 q4 hg4 hgr4 hat4 hs2 hs4 hcl hfr hrow ho2
          go_wp2_with fail
          go_roundg (n - (k + 1))
          case rel => exact ⟨k + 1, v, by omega, rfl, by go_num, rfl, HL.out.symm, by rw [HE.out]; exact hL4, hs5⟩
          case measure => omega
    · obtain rfl : k = n := by omega
      go_wp2_with fail
      go_ret
      exact ⟨_, rfl, hL, hs⟩

end Go.Proofs.YtjelgbfgciaapaaDoor
