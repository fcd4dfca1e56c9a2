/- laws.isCase. -/
import Derived.Test.YtkocpijloiamcaaGreatDoorSpP
import Derived.Test.YtkocpijloiamcaaGreatDoorMkd
import Derived.Test.YtkocpijloiamcaaGreatDoorGE
import Derived.Test.YtkocpijloiamcaaGreatDoorRsv
namespace Go.Proofs.YtkocpijloiamcaaGreatDoor
open Go.RowKit
set_option linter.unusedVariables false
set_option linter.unusedSimpArgs false

theorem kd_of {k v : Int} (h : brOk k v) : k = 0 ∨ k = 1 ∨ k = 2 := by unfold brOk at h; omega
theorem vl_of {k v : Int} (h : brOk k v) : 0 ≤ v ∧ v ≤ 1114111 := by unfold brOk at h; omega

/-- A Boolean comes back that says no less than Q; nothing has turned. -/
def RetB (w : World) (Q : Prop) (e : Ending) (w' : World) : Prop := ∃ B : Bool, e = .returned (.bool B) ∧ w = w' ∧ (B = true → Q)
theorem RetB.no {w : World} {Q : Prop} : RetB w Q (.returned (.bool false)) w := ⟨false, rfl, rfl, fun h => by cases h⟩
theorem RetB.any {w : World} {Q : Prop} (B : Bool) (h : B = true → Q) : RetB w Q (.returned (.bool B)) w := ⟨B, rfl, rfl, h⟩

/-- What isCase says. -/
structure CaseOk (N nk nv : Nat) (x kd vl : Nat → Int) (g : Int) : Prop where
  pos : 0 < N
  ok : ∀ i, i < N → clsOk (x i)
  b7 : ∀ i, i < N → x i = 7 → N ≤ i + 1
  nk : nk = N
  nv : nv = N
  kd : ∀ j, j < N → kd j = 0 ∨ kd j = 1 ∨ kd j = 2
  vl : ∀ j, j < N → 0 ≤ vl j ∧ vl j ≤ 1114111
  g : g = -1 ∨ g = 0 ∨ g = 1

set_option maxHeartbeats 2000000 in
set_option maxRecDepth 100000 in
theorem isCase_any {ao ak av : Option Addr} {b o c bk' ok ck bv ov cv N nk nv : Nat} {g : Int} {x kd vl : Nat → Int} (w : World) (hN : N ≤ 2147483647) (hnk : nk ≤ 2147483647) (hnv : nv ≤ 2147483647)
    (hx : Sees w ao b o N c (fun i => .int .i64 (x i))) (hk : Sees w ak bk' ok nk ck (fun i => .int .i64 (kd i))) (hv : Sees w av bv ov nv cv (fun i => .int .i64 (vl i))) :
    Calls Tryz.prog 5 #[.slice ao N c, .slice ak nk ck, .slice av nv cv, .int .i64 g] w (RetB w (CaseOk N nk nv x kd vl g)) := by
  go_enter Tryz.func5, Tryz.ntmps5
  go_wp2_with fail
  refine (isParagraph_any _ (by omega) hx).mono ?_
  rintro e w1 ⟨rfl, rfl⟩
  by_cases hp : paraB N x = true
  case neg =>
    have hp' : paraB N x = false := by simpa using hp
    rw [hp']
    clear hp hp' hx hk hv
    go_wp2_with fail
    go_ret
    exact RetB.no
  have HP := Lib.hid hp
  rw [hp]
  clear hp
  go_wp2_with fail
  refine (areBrackets_any _ (by omega) (by omega) (by omega) hk hv).mono ?_
  rintro e w1 ⟨rfl, rfl⟩
  by_cases hb : brB N nk nv kd vl = true
  case neg =>
    have hb' : brB N nk nv kd vl = false := by simpa using hb
    rw [hb']
    clear hb hb' hx hk hv
    go_wp2_with fail
    go_ret
    exact RetB.no
  rw [hb]
  obtain ⟨rfl, rfl, hbr⟩ := (of_decide_eq_true hb : nk = N ∧ nv = N ∧ ∀ i, i < nk → brOk (kd i) (vl i))
  have HBR := Lib.hid hbr
  clear hb hbr
  go_wp2_with fail
  refine (marked_any _ (by omega) hx hk).mono ?_
  rintro e w1 ⟨rfl, rfl⟩
  obtain ⟨M, hM⟩ : ∃ M, M = markB nv x kd := ⟨_, rfl⟩
  rw [← hM]
  clear hM
  cases M with
  | true =>
    clear hx hk hv
    go_wp2_with fail
    go_ret
    exact RetB.no
  | false =>
    go_wp2_with fail
    refine (openings_any _ (by omega) hk).mono ?_
    rintro e w1 ⟨rfl, rfl⟩
    obtain ⟨P, hP⟩ : ∃ P, P = ops kd nv := ⟨_, rfl⟩
    rw [← hP]
    clear hP hx hk hv
    have key : (g = -1 ∨ g = 0 ∨ g = 1) → CaseOk nv nv nv x kd vl g := fun hg => by
      have h1 := of_decide_eq_true HP.out
      exact ⟨h1.1, fun i hi => ⟨(h1.2 i hi).1, (h1.2 i hi).2.1⟩, fun i hi h7 => (h1.2 i hi).2.2 h7, rfl, rfl, fun j hj => kd_of (HBR.out j hj), fun j hj => vl_of (HBR.out j hj), hg⟩
    have KEY := Lib.hid key
    clear key
    by_cases h1 : P ≤ 63
    case neg =>
      have h1' : ¬ ((P : Int) ≤ 63) := by omega
      clear h1
      go_wp2_with fail
      go_ret
      exact RetB.no
    have h1' : (P : Int) ≤ 63 := by omega
    by_cases h2 : -1 ≤ g
    case neg =>
      go_wp2_with fail
      go_ret
      exact RetB.no
    go_wp2_with fail
    go_ret
    exact RetB.any (decide (g ≤ 1)) (fun h => KEY.out (by have := of_decide_eq_true h; omega))
end Go.Proofs.YtkocpijloiamcaaGreatDoor
