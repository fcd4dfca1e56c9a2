/- spec.FirstStrong, spec.BaseLevel. -/
import Derived.Test.YtjelgbfgciaapaaDoorIsoSpec
import Derived.Test.YtjelgbfgciaapaaDoorDpel
namespace Go.Proofs.YtjelgbfgciaapaaDoor
open Go.RowKit

def sLN (x : Nat → Int) (i : Nat) : Bool := x i == 0
def sRN (x : Nat → Int) (i : Nat) : Bool := x i == 1 || x i == 13

/-- The side of the first strong one from a place on up to another one, outside of isolates; d if there is none. -/
def fsN (x : Nat → Int) (d : Int) (n i z : Nat) : Int := fsr (sLN x) (sRN x) (jmp (iniN x) (pdiN x) n) d z (z - i) i

theorem fsN_end {x : Nat → Int} {d : Int} {n i z : Nat} (h : z ≤ i) : fsN x d n i z = d := fsr_end h
theorem fsN_jmp {x : Nat → Int} {d : Int} {n i z : Nat} (h : i < z) (hn : z ≤ n) (h1 : sLN x i = false) (h2 : sRN x i = false) : fsN x d n i z = fsN x d n (jmp (iniN x) (pdiN x) n i) z := by
  unfold fsN
  rw [show z - i = (z - i - 1) + 1 by omega, fsr_next h h1 h2]
  have hg := jmp_gt (ini := iniN x) (pdi := pdiN x) i (show i < n by omega)
  have key : ∀ f g i, z ≤ i + f → z ≤ i + g → fsr (sLN x) (sRN x) (jmp (iniN x) (pdiN x) n) d z f i = fsr (sLN x) (sRN x) (jmp (iniN x) (pdiN x) n) d z g i := by
    intro f
    induction f with
    | zero => intro g i h _; rw [fsr_end (f := g) (by omega)]; rfl
    | succ f ih =>
      intro g i h1 h2
      by_cases hi : z ≤ i
      · rw [fsr_end hi, fsr_end hi]
      · cases g with
        | zero => omega
        | succ g =>
          have := jmp_gt (ini := iniN x) (pdi := pdiN x) i (show i < n by omega)
          rw [fsr, fsr, ih g _ (by omega) (by omega)]
  exact key _ _ _ (by omega) (by omega)
theorem fsN_L {x : Nat → Int} {d : Int} {n i z : Nat} (h : i < z) (h1 : sLN x i = true) : fsN x d n i z = 0 := by
  unfold fsN; rw [show z - i = (z - i - 1) + 1 by omega, fsr_L h h1]
theorem fsN_R {x : Nat → Int} {d : Int} {n i z : Nat} (h : i < z) (h1 : sLN x i = false) (h2 : sRN x i = true) : fsN x d n i z = 1 := by
  unfold fsN; rw [show z - i = (z - i - 1) + 1 by omega, fsr_R h h1 h2]

theorem fsC_eq {x : Nat → Int} {n z : Nat} (hz : z ≤ n) (hok : ∀ i, i < n → clsOk (x i)) (i : Nat) : fsC (fun i => cls (x i)) n i z = fsN x 0 n i z := by
  unfold fsC fsN
  refine fsr_congr (fun i hi => ?_) (fun i hi => ?_) (fun i hi => ?_) _ _
  · have := hok i (by omega)
    unfold clsOk at this
    show (cls (x i) == 0) = (x i == 0)
    rw [Bool.eq_iff_iff, beq_iff_eq, beq_iff_eq]
    unfold cls
    rw [if_neg (by omega)]
    split <;> omega
  · have := hok i (by omega)
    unfold clsOk at this
    show (cls (x i) == 1 || cls (x i) == 13) = (x i == 1 || x i == 13)
    rw [Bool.eq_iff_iff, Bool.or_eq_true, Bool.or_eq_true, beq_iff_eq, beq_iff_eq, beq_iff_eq, beq_iff_eq]
    unfold cls
    rw [if_neg (by omega)]
    split <;> omega
  · have H1 : ∀ i, i < n → iniC (fun i => cls (x i)) i = iniN x i := fun i hi => cls_ini (hok i hi)
    have H2 : ∀ i, i < n → pdiC (fun i => cls (x i)) i = pdiN x i := fun i hi => by
      show (cls (x i) == 24) = (x i == 22)
      rw [cls_pdi (hok i hi)]; unfold pdiB; rw [Bool.eq_iff_iff]; simp
    unfold jmp
    rw [H1 i (by omega)]
    split
    · next h =>
      have := mt_congr H1 H2 (show i < n by omega)
      rw [mt_ini ((H1 i (by omega)).trans h), mt_ini h] at this
      omega
    · rfl

set_option maxHeartbeats 2000000 in
theorem firstStrong_any {ao : Option Addr} {b o n cc i0 z : Nat} {d : Int} {x : Nat → Int} (w : World) (hn : n ≤ 4294967296) (hx : Sees w ao b o n cc (fun i => .int .i64 (x i))) (hz : z ≤ n) (hi0 : i0 ≤ n) :
    Calls Tryd.prog 31 #[.slice ao n cc, .int .i64 i0, .int .i64 z, .int .i64 d] w fun e w' => e = .returned (.int .i64 (fsN x d n i0 z)) ∧ w.Since w.heap.size w' := by
  go_enter Tryd.func31, Tryd.ntmps31
  go_wp2_with fail
  refine (matching_any _ hn hx).mono ?_
  rintro e w1 ⟨a1, b1, o1, c1, rfl, hm, hf1, hsi⟩
  have hx1 := hx.since hsi
  clear hx
  go_wp2_with fail
  go_loopg [10] (n + 1 - i0) (fun g i wr => ∃ q : Nat, i0 ≤ q ∧ q ≤ n + 1 ∧ g = n + 1 - q ∧ i = .int .i64 q ∧ Hid (fsN x d n i0 z = fsN x d n q z) ∧ w1 = wr)
  case atStart => exact ⟨i0, by omega, by omega, rfl, rfl, rfl, rfl⟩
  case round =>
    obtain ⟨q, hq0, hq1, rfl, rfl, hfs, rfl⟩ := hrel
    by_cases hq : q < z
    · have hqz : (q : Int) < (z : Int) := by omega
      have hqn : (q : Int) < (n : Int) := by omega
      have hqn' : q < n := by omega
      obtain ⟨rfl, hc⟩ := hx1.get hqn'
      by_cases hL : (x q == 0) = true
      · have hv : fsN x d n i0 z = 0 := hfs.out.trans (fsN_L hq hL)
        have HV := Lib.hid hv
        clear hv
        go_wp2_with fail
        go_ret
        exact ⟨ret_int HV.out.symm, hsi⟩
      · have hL' : (x q == 0) = false := by simpa using hL
        clear hL
        by_cases hR : sRN x q = true
        · have hv : fsN x d n i0 z = 1 := hfs.out.trans (fsN_R hq hL' hR)
          have HV := Lib.hid hv
          clear hv
          by_cases h1 : (x q == 1) = true
          · go_wp2_with fail
            go_ret
            exact ⟨ret_int HV.out.symm, hsi⟩
          · have h1' : (x q == 1) = false := by simpa using h1
            have h2 : (x q == 13) = true := by unfold sRN at hR; rw [h1'] at hR; simpa using hR
            clear h1
            go_wp2_with fail
            go_ret
            exact ⟨ret_int HV.out.symm, hsi⟩
        · have hR' : sRN x q = false := by simpa using hR
          have hfs2 := hfs.out.trans (fsN_jmp hq hz hL' hR')
          obtain ⟨h1, h2⟩ : (x q == 1) = false ∧ (x q == 13) = false := by unfold sRN at hR'; exact Bool.or_eq_false_iff.1 hR'
          clear hR hR' hfs
          go_wp2_with fail
          refine (isInitiator_any _ _).mono ?_
          rintro e w2 ⟨rfl, rfl⟩
          by_cases hi : iniB (x q) = true
          · have hj : jmp (iniN x) (pdiN x) n q = mat (iniN x) (pdiN x) n q + 1 := if_pos hi
            have hmgt := mat_gt (ini := iniN x) (pdi := pdiN x) hqn'
            have hmle := mat_le (ini := iniN x) (pdi := pdiN x) hqn'
            have hmtq : mt (iniN x) (pdiN x) n q = (mat (iniN x) (pdiN x) n q : Int) := mt_ini (ini := iniN x) hi
            obtain ⟨rfl, hc2⟩ := hm.get hqn'
            rw [hmtq] at hc2
            rw [hj] at hfs2
            obtain ⟨mq, hmq⟩ : ∃ mq, mq = mat (iniN x) (pdiN x) n q := ⟨_, rfl⟩
            rw [← hmq] at hmle hmgt hfs2 hc2
            have HF := Lib.hid hfs2
            clear hmtq hj hmq hfs2
            go_wp2_with fail
            go_roundg (n + 1 - (mq + 1))
            case rel => exact ⟨mq + 1, by omega, by omega, rfl, by go_num, HF, rfl⟩
            case measure => omega
          · have hi' : iniB (x q) = false := by simpa using hi
            have hj : jmp (iniN x) (pdiN x) n q = q + 1 := if_neg hi
            rw [hj] at hfs2
            have HF := Lib.hid hfs2
            clear hj hfs2 hi
            go_wp2_with fail
            go_roundg (n + 1 - (q + 1))
            case rel => exact ⟨q + 1, by omega, by omega, rfl, by go_num, HF, rfl⟩
            case measure => omega
    · have hqz : ¬ (q : Int) < (z : Int) := by omega
      have hv : fsN x d n i0 z = d := hfs.out.trans (fsN_end (by omega))
      have HV := Lib.hid hv
      clear hv
      go_wp2_with fail
      go_ret
      exact ⟨ret_int HV.out.symm, hsi⟩

/-- P2 and P3, if no level is given. -/
def baseN (x : Nat → Int) (n : Nat) (g : Int) : Int := if g = 0 ∨ g = 1 then g else fsN x 0 n 0 n

end Go.Proofs.YtjelgbfgciaapaaDoor
