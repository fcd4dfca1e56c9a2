/- sort.partitionEqual, sort.partition over bracketPairs: what they make of the pairs is what the plain functions say. (Written by gen/part.py.) -/
import Derived.Test.YtkocpijloiamcaaDoorGF
import Derived.Sort.WalkC
import Derived.Sort.WalkC4
import Derived.Deep.DeepCutAuto
import Derived.Deep.CutBlock
namespace Go.Proofs.YtkocpijloiamcaaDoor
set_option linter.unusedVariables false
set_option linter.unusedSimpArgs false
open Go.RowKit Go.Sort Go.Lib

section
variable {B q cap n : Nat} {d : Array (Nat × Nat)}

set_option maxHeartbeats 12800000 in
set_option maxRecDepth 100000 in
theorem partitionEqual_p (w : World) (h : Hp w B q cap n d) (hn : n ≤ 4294967296) (a b pivot : Nat) (hap : a ≤ pivot) (hpb : pivot < b) (hb : b ≤ n) :
    Calls Tryd.prog 113 #[.iface 115 (rvp q n cap), .int .i64 a, .int .i64 b, .int .i64 pivot] w fun e w' =>
      e = .returned (.int .i64 (partitionEqual ltp d a b pivot).1) ∧ Hp w' B q cap n (partitionEqual ltp d a b pivot).2 ∧ Kp (fun k => k = q) w w' := by
  have mL := mLess (rvp q n cap); have mS := mSwap (rvp q n cap); have eL := eLess; have eS := eSwap
  have HS := hid h
  clear h
  go_enter Tryd.func113, Tryd.ntmps113
  go_wp2_with (go_at_fn 141; refine (swapAt _ HS.out hn a pivot (by omega) (by omega) (by omega) (by omega)).mono ?_; rintro e w' ⟨rfl, HP0, HK0⟩)
  go_loopg [9, 10] b (fun g vi vj wr => ∃ (i j : Nat) (dk : Array (Nat × Nat)), vi = .int .i64 i ∧ vj = .int .i64 j ∧ a < i ∧ i ≤ j + 1 ∧ j < b ∧ j + 1 - i ≤ g ∧ Hid (Hp wr B q cap n dk) ∧ Hid (Kp (fun k => k = q) w wr) ∧
      Hid (partEqLoop ltp a i j dk = partEqLoop ltp a (a + 1) (b - 1) (swp d a pivot)))
  case atStart => exact ⟨a + 1, b - 1, swp d a pivot, by go_num, by go_num, by omega, by omega, by omega, by omega, HP0, HK0, rfl⟩
  case round =>
    clear HP0 HK0 HS
    obtain ⟨i, j, dk, rfl, rfl, hai, hij, hjb, hg0, HP, HK, HE⟩ := hrel
    go_upto_block 2 with fail
    go_cut [9] (fun vi wx => ∃ i2 : Nat, vi = .int .i64 i2 ∧ i ≤ i2 ∧ i2 ≤ j + 1 ∧ Hid (i2 = scanUp (fun x => !ltp dk[a]! x) dk j i) ∧ Hid (Hp wx B q cap n dk) ∧ Hid (Kp (fun k => k = q) w wx))
    case first =>
      go_wp2_with fail
      go_loopg [9] (j + 1 - i) (fun g vi w1 => ∃ i2 : Nat, vi = .int .i64 i2 ∧ i ≤ i2 ∧ i2 ≤ j + 1 ∧ j + 1 - i2 ≤ g ∧ Hid (scanUp (fun x => !ltp dk[a]! x) dk j i2 = scanUp (fun x => !ltp dk[a]! x) dk j i) ∧ Hid (Hp w1 B q cap n dk) ∧ Hid (Kp (fun k => k = q) w w1))
      case atStart => exact ⟨i, rfl, Nat.le_refl _, hij, Nat.le_refl _, rfl, HP, HK⟩
      case round =>
        clear HP HK
        obtain ⟨i2, rfl, hii, hij2, hg, HSC, HP, HK⟩ := hrel
        by_cases hle : i2 ≤ j
        · have hlez : (i2 : Int) ≤ (j : Int) := by omega
          cases hlv : ltp dk[a]! dk[i2]! with
          | false =>
            go_wp2_with (go_at_fn 140; refine (lessAt _ HP.out hn a i2 hlv (by omega) (by omega) (by omega) (by omega)).mono ?_; rintro e w' ⟨rfl, k, rfl⟩)
            go_roundg (j + 1 - (i2 + 1))
            case measure => omega
            case rel => exact ⟨i2 + 1, by go_num, by omega, by omega, Nat.le_refl _, (scanUp_go (fun x => !ltp dk[a]! x) dk j i2 hle (by simp [hlv])).symm.trans HSC.out, HP.out.drewN _, HK.out.drewN _⟩
          | true =>
            go_wp2_with (go_at_fn 140; refine (lessAt _ HP.out hn a i2 hlv (by omega) (by omega) (by omega) (by omega)).mono ?_; rintro e w' ⟨rfl, k, rfl⟩)
            go_meet
            exact ⟨i2, rfl, hii, hij2, (scanUp_end (fun x => !ltp dk[a]! x) dk j i2 (Or.inr (by simp [hlv]))).symm.trans HSC.out, HP.out.drewN _, HK.out.drewN _⟩
        · have hlez : ¬ (i2 : Int) ≤ (j : Int) := by omega
          go_wp2
          go_meet
          exact ⟨i2, rfl, hii, hij2, (scanUp_end (fun x => !ltp dk[a]! x) dk j i2 (Or.inl hle)).symm.trans HSC.out, HP, HK⟩
    obtain ⟨i2, rfl, hii, hij2, HI2, HP1, HK1⟩ := hcut
    clear HP HK
    go_upto_block 4 with fail
    go_cut [10] (fun vj wx => ∃ j2 : Nat, vj = .int .i64 j2 ∧ j2 ≤ j ∧ i2 ≤ j2 + 1 ∧ Hid (j2 = scanDown (fun x => ltp dk[a]! x) dk i2 j) ∧ Hid (Hp wx B q cap n dk) ∧ Hid (Kp (fun k => k = q) w wx))
    case first =>
      go_wp2_with fail
      go_loopg [10] (j + 1) (fun g vj w1 => ∃ j2 : Nat, vj = .int .i64 j2 ∧ j2 ≤ j ∧ i2 ≤ j2 + 1 ∧ j2 + 1 ≤ g ∧ Hid (scanDown (fun x => ltp dk[a]! x) dk i2 j2 = scanDown (fun x => ltp dk[a]! x) dk i2 j) ∧ Hid (Hp w1 B q cap n dk) ∧ Hid (Kp (fun k => k = q) w w1))
      case atStart => exact ⟨j, rfl, Nat.le_refl _, hij2, Nat.le_refl _, rfl, HP1, HK1⟩
      case round =>
        clear HP1 HK1
        obtain ⟨j2, rfl, hjj, hij3, hg, HSC, HP, HK⟩ := hrel
        by_cases hle : i2 ≤ j2
        · have hlez : (i2 : Int) ≤ (j2 : Int) := by omega
          cases hlv : ltp dk[a]! dk[j2]! with
          | true =>
            go_wp2_with (go_at_fn 140; refine (lessAt _ HP.out hn a j2 hlv (by omega) (by omega) (by omega) (by omega)).mono ?_; rintro e w' ⟨rfl, k, rfl⟩)
            go_roundg j2
            case measure => omega
            case rel => exact ⟨j2 - 1, by go_num, by omega, by omega, by omega, (scanDown_go (fun x => ltp dk[a]! x) dk i2 j2 hle (by omega) (hlv)).symm.trans HSC.out, HP.out.drewN _, HK.out.drewN _⟩
          | false =>
            go_wp2_with (go_at_fn 140; refine (lessAt _ HP.out hn a j2 hlv (by omega) (by omega) (by omega) (by omega)).mono ?_; rintro e w' ⟨rfl, k, rfl⟩)
            go_meet
            exact ⟨j2, rfl, hjj, hij3, (scanDown_end (fun x => ltp dk[a]! x) dk i2 j2 (Or.inr (hlv))).symm.trans HSC.out, HP.out.drewN _, HK.out.drewN _⟩
        · have hlez : ¬ (i2 : Int) ≤ (j2 : Int) := by omega
          go_wp2
          go_meet
          exact ⟨j2, rfl, hjj, hij3, (scanDown_end (fun x => ltp dk[a]! x) dk i2 j2 (Or.inl hle)).symm.trans HSC.out, HP, HK⟩
    obtain ⟨j2, rfl, hjj, hij3, HJ2, HP2, HK2⟩ := hcut
    clear HP1 HK1
    by_cases hgt : i2 > j2
    · have hgz : (j2 : Int) < (i2 : Int) := by omega
      go_wp2
      go_ret
      have e := partEq_break ltp a i j dk HI2.out HJ2.out hgt
      have hv : partitionEqual ltp d a b pivot = (i2, dk) := by unfold partitionEqual; rw [← HE.out, e]
      rw [hv]
      exact ⟨rfl, HP2.out, HK2.out⟩
    · have hgz : ¬ (j2 : Int) < (i2 : Int) := by omega
      have hlt3 := scans_lt ltp a i j dk (by omega) HI2.out HJ2.out (by omega)
      go_wp2_with (go_at_fn 141; refine (swapAt _ HP2.out hn i2 j2 (by omega) (by omega) (by omega) (by omega)).mono ?_; rintro e w' ⟨rfl, HP3, HK3⟩)
      go_roundg (j2 - 1 + 1 - (i2 + 1))
      case measure => omega
      case rel => exact ⟨i2 + 1, j2 - 1, swp dk i2 j2, by go_num, by go_num, by omega, by omega, by omega, Nat.le_refl _, HP3, HK2.out.trans HK3.out, (by rw [← HE.out]; exact (partEq_go ltp a i j dk HI2.out HJ2.out (by omega)).symm)⟩

set_option maxHeartbeats 12800000 in
set_option maxRecDepth 100000 in
theorem partition_p (w : World) (h : Hp w B q cap n d) (hn : n ≤ 4294967296) (a b pivot : Nat) (hap : a ≤ pivot) (hpb : pivot < b) (hb : b ≤ n) :
    Calls Tryd.prog 114 #[.iface 115 (rvp q n cap), .int .i64 a, .int .i64 b, .int .i64 pivot] w fun e w' =>
      e = .returned (.tuple #[.int .i64 (partition ltp d a b pivot).1, .bool (partition ltp d a b pivot).2.1]) ∧ Hp w' B q cap n (partition ltp d a b pivot).2.2 ∧ Kp (fun k => k = q) w w' := by
  have mL := mLess (rvp q n cap); have mS := mSwap (rvp q n cap); have eL := eLess; have eS := eSwap
  have HS := hid h
  clear h
  obtain ⟨i, hi⟩ : ∃ i : Nat, i = a + 1 := ⟨_, rfl⟩
  obtain ⟨j, hj⟩ : ∃ j : Nat, j = b - 1 := ⟨_, rfl⟩
  obtain ⟨dk, hdk⟩ : ∃ dk : Array (Nat × Nat), dk = swp d a pivot := ⟨_, rfl⟩
  have hai : a < i := by omega
  have hij : i ≤ j + 1 := by omega
  have hjb : j < b := by omega
  have Hi := hid hi
  have Hj := hid hj
  have Hdk := hid hdk
  clear hi hj hdk
  go_enter Tryd.func114, Tryd.ntmps114
  go_upto_block 0 with (go_at_fn 141; refine (swapAt _ HS.out hn a pivot (by omega) (by omega) (by omega) (by omega)).mono ?_; rintro e w' ⟨rfl, HP, HK⟩)
  rw [show ((a : Int) + 1) = (i : Int) by have := Hi.out; omega, show ((b : Int) - 1) = (j : Int) by have := Hj.out; omega]
  rw [← Hdk.out] at HP
  clear HS
  go_upto_block 0 with fail
  go_cut [10] (fun vi wx => ∃ i2 : Nat, vi = .int .i64 i2 ∧ i ≤ i2 ∧ i2 ≤ j + 1 ∧ Hid (i2 = scanUp (fun x => ltp x dk[a]!) dk j i) ∧ Hid (Hp wx B q cap n dk) ∧ Hid (Kp (fun k => k = q) w wx))
  case first =>
    go_wp2_with fail
    go_loopg [10] (j + 1 - i) (fun g vi w1 => ∃ i2 : Nat, vi = .int .i64 i2 ∧ i ≤ i2 ∧ i2 ≤ j + 1 ∧ j + 1 - i2 ≤ g ∧ Hid (scanUp (fun x => ltp x dk[a]!) dk j i2 = scanUp (fun x => ltp x dk[a]!) dk j i) ∧ Hid (Hp w1 B q cap n dk) ∧ Hid (Kp (fun k => k = q) w w1))
    case atStart => exact ⟨i, rfl, Nat.le_refl _, hij, Nat.le_refl _, rfl, HP, HK⟩
    case round =>
      clear HP HK
      obtain ⟨i2, rfl, hii, hij2, hg, HSC, HP, HK⟩ := hrel
      by_cases hle : i2 ≤ j
      · have hlez : (i2 : Int) ≤ (j : Int) := by omega
        cases hlv : ltp dk[i2]! dk[a]! with
        | true =>
          go_wp2_with (go_at_fn 140; refine (lessAt _ HP.out hn i2 a hlv (by omega) (by omega) (by omega) (by omega)).mono ?_; rintro e w' ⟨rfl, k, rfl⟩)
          go_roundg (j + 1 - (i2 + 1))
          case measure => omega
          case rel => exact ⟨i2 + 1, by go_num, by omega, by omega, Nat.le_refl _, (scanUp_go (fun x => ltp x dk[a]!) dk j i2 hle (hlv)).symm.trans HSC.out, HP.out.drewN _, HK.out.drewN _⟩
        | false =>
          go_wp2_with (go_at_fn 140; refine (lessAt _ HP.out hn i2 a hlv (by omega) (by omega) (by omega) (by omega)).mono ?_; rintro e w' ⟨rfl, k, rfl⟩)
          go_meet
          exact ⟨i2, rfl, hii, hij2, (scanUp_end (fun x => ltp x dk[a]!) dk j i2 (Or.inr (hlv))).symm.trans HSC.out, HP.out.drewN _, HK.out.drewN _⟩
      · have hlez : ¬ (i2 : Int) ≤ (j : Int) := by omega
        go_wp2
        go_meet
        exact ⟨i2, rfl, hii, hij2, (scanUp_end (fun x => ltp x dk[a]!) dk j i2 (Or.inl hle)).symm.trans HSC.out, HP, HK⟩
  obtain ⟨i2, rfl, hii, hij2, HI2, HP1, HK1⟩ := hcut
  clear HP HK
  go_upto_block 2 with fail
  go_cut [11] (fun vj wx => ∃ j2 : Nat, vj = .int .i64 j2 ∧ j2 ≤ j ∧ i2 ≤ j2 + 1 ∧ Hid (j2 = scanDown (fun x => !ltp x dk[a]!) dk i2 j) ∧ Hid (Hp wx B q cap n dk) ∧ Hid (Kp (fun k => k = q) w wx))
  case first =>
    go_wp2_with fail
    go_loopg [11] (j + 1) (fun g vj w1 => ∃ j2 : Nat, vj = .int .i64 j2 ∧ j2 ≤ j ∧ i2 ≤ j2 + 1 ∧ j2 + 1 ≤ g ∧ Hid (scanDown (fun x => !ltp x dk[a]!) dk i2 j2 = scanDown (fun x => !ltp x dk[a]!) dk i2 j) ∧ Hid (Hp w1 B q cap n dk) ∧ Hid (Kp (fun k => k = q) w w1))
    case atStart => exact ⟨j, rfl, Nat.le_refl _, hij2, Nat.le_refl _, rfl, HP1, HK1⟩
    case round =>
      clear HP1 HK1
      obtain ⟨j2, rfl, hjj, hij3, hg, HSC, HP, HK⟩ := hrel
      by_cases hle : i2 ≤ j2
      · have hlez : (i2 : Int) ≤ (j2 : Int) := by omega
        cases hlv : ltp dk[j2]! dk[a]! with
        | false =>
          go_wp2_with (go_at_fn 140; refine (lessAt _ HP.out hn j2 a hlv (by omega) (by omega) (by omega) (by omega)).mono ?_; rintro e w' ⟨rfl, k, rfl⟩)
          go_roundg j2
          case measure => omega
          case rel => exact ⟨j2 - 1, by go_num, by omega, by omega, by omega, (scanDown_go (fun x => !ltp x dk[a]!) dk i2 j2 hle (by omega) (by simp [hlv])).symm.trans HSC.out, HP.out.drewN _, HK.out.drewN _⟩
        | true =>
          go_wp2_with (go_at_fn 140; refine (lessAt _ HP.out hn j2 a hlv (by omega) (by omega) (by omega) (by omega)).mono ?_; rintro e w' ⟨rfl, k, rfl⟩)
          go_meet
          exact ⟨j2, rfl, hjj, hij3, (scanDown_end (fun x => !ltp x dk[a]!) dk i2 j2 (Or.inr (by simp [hlv]))).symm.trans HSC.out, HP.out.drewN _, HK.out.drewN _⟩
      · have hlez : ¬ (i2 : Int) ≤ (j2 : Int) := by omega
        go_wp2
        go_meet
        exact ⟨j2, rfl, hjj, hij3, (scanDown_end (fun x => !ltp x dk[a]!) dk i2 j2 (Or.inl hle)).symm.trans HSC.out, HP, HK⟩
  obtain ⟨j2, rfl, hjj, hij3, HJ2, HP2, HK2⟩ := hcut
  clear HP1 HK1
  by_cases hgt : i2 > j2
  · have hgz : (j2 : Int) < (i2 : Int) := by omega
    go_wp2_with (go_at_fn 141; refine (swapAt _ HP2.out hn j2 a (by omega) (by omega) (by omega) (by omega)).mono ?_; rintro e w' ⟨rfl, HP3, HK3⟩)
    go_ret2
    have e := part_first_break ltp d a b pivot Hi.out Hj.out Hdk.out HI2.out HJ2.out hgt
    rw [e]
    exact ⟨rfl, HP3.out, HK2.out.trans HK3.out⟩
  · have hgz : ¬ (j2 : Int) < (i2 : Int) := by omega
    have hlt3 := part_scans_lt ltp a i j dk (by omega) HI2.out HJ2.out (by omega)
    obtain ⟨I0, hI0⟩ : ∃ I0 : Nat, I0 = i2 + 1 := ⟨_, rfl⟩
    obtain ⟨J0, hJ0⟩ : ∃ J0 : Nat, J0 = j2 - 1 := ⟨_, rfl⟩
    obtain ⟨D0, hD0⟩ : ∃ D0 : Array (Nat × Nat), D0 = swp dk i2 j2 := ⟨_, rfl⟩
    have PF : Hid (partition ltp d a b pivot = ((partLoop ltp a I0 J0 D0).1, false, swp (partLoop ltp a I0 J0 D0).2 (partLoop ltp a I0 J0 D0).1 a)) := by
      rw [hI0, hJ0, hD0]; exact part_first_go ltp d a b pivot Hi.out Hj.out Hdk.out HI2.out HJ2.out (by omega)
    have HI0 := hid hI0
    have HJ0 := hid hJ0
    have HD0 := hid hD0
    clear hI0 hJ0 hD0
    go_wp2_with (go_at_fn 141; refine (swapAt _ HP2.out hn i2 j2 (by omega) (by omega) (by omega) (by omega)).mono ?_; rintro e w' ⟨rfl, HP3, HK3⟩)
    have HKn : Hid (Kp (fun k => k = q) w w') := HK2.out.trans HK3.out
    rw [← HD0.out] at HP3
    clear HI2 HJ2 HK2 HP2 HK3 Hi Hj Hdk
    go_loopg [10, 11] b (fun g vi vj wr => ∃ (i j : Nat) (dk : Array (Nat × Nat)), vi = .int .i64 i ∧ vj = .int .i64 j ∧ a < i ∧ i ≤ j + 1 ∧ j < b ∧ j + 1 - i ≤ g ∧ Hid (Hp wr B q cap n dk) ∧ Hid (Kp (fun k => k = q) w wr) ∧ Hid (partLoop ltp a i j dk = partLoop ltp a I0 J0 D0))
    case atStart => exact ⟨i2 + 1, j2 - 1, D0, by go_num, by go_num, by omega, by omega, by omega, by omega, HP3, HKn, (by rw [HI0.out, HJ0.out]; exact rfl)⟩
    case round =>
      clear HP3 HKn HI0 HJ0 HD0
      clear hgt hgz hlt3 hij3 hjj hij2 hii hai hij hjb
      obtain ⟨i, j, dk, rfl, rfl, hai, hij, hjb, hg0, HP, HK, HE⟩ := hrel
      go_upto_block 6 with fail
      go_cut [10] (fun vi wx => ∃ i2 : Nat, vi = .int .i64 i2 ∧ i ≤ i2 ∧ i2 ≤ j + 1 ∧ Hid (i2 = scanUp (fun x => ltp x dk[a]!) dk j i) ∧ Hid (Hp wx B q cap n dk) ∧ Hid (Kp (fun k => k = q) w wx))
      case first =>
        go_wp2_with fail
        go_loopg [10] (j + 1 - i) (fun g vi w1 => ∃ i2 : Nat, vi = .int .i64 i2 ∧ i ≤ i2 ∧ i2 ≤ j + 1 ∧ j + 1 - i2 ≤ g ∧ Hid (scanUp (fun x => ltp x dk[a]!) dk j i2 = scanUp (fun x => ltp x dk[a]!) dk j i) ∧ Hid (Hp w1 B q cap n dk) ∧ Hid (Kp (fun k => k = q) w w1))
        case atStart => exact ⟨i, rfl, Nat.le_refl _, hij, Nat.le_refl _, rfl, HP, HK⟩
        case round =>
          clear HP HK
          obtain ⟨i2, rfl, hii, hij2, hg, HSC, HP, HK⟩ := hrel
          by_cases hle : i2 ≤ j
          · have hlez : (i2 : Int) ≤ (j : Int) := by omega
            cases hlv : ltp dk[i2]! dk[a]! with
            | true =>
              go_wp2_with (go_at_fn 140; refine (lessAt _ HP.out hn i2 a hlv (by omega) (by omega) (by omega) (by omega)).mono ?_; rintro e w' ⟨rfl, k, rfl⟩)
              go_roundg (j + 1 - (i2 + 1))
              case measure => omega
              case rel => exact ⟨i2 + 1, by go_num, by omega, by omega, Nat.le_refl _, (scanUp_go (fun x => ltp x dk[a]!) dk j i2 hle (hlv)).symm.trans HSC.out, HP.out.drewN _, HK.out.drewN _⟩
            | false =>
              go_wp2_with (go_at_fn 140; refine (lessAt _ HP.out hn i2 a hlv (by omega) (by omega) (by omega) (by omega)).mono ?_; rintro e w' ⟨rfl, k, rfl⟩)
              go_meet
              exact ⟨i2, rfl, hii, hij2, (scanUp_end (fun x => ltp x dk[a]!) dk j i2 (Or.inr (hlv))).symm.trans HSC.out, HP.out.drewN _, HK.out.drewN _⟩
          · have hlez : ¬ (i2 : Int) ≤ (j : Int) := by omega
            go_wp2
            go_meet
            exact ⟨i2, rfl, hii, hij2, (scanUp_end (fun x => ltp x dk[a]!) dk j i2 (Or.inl hle)).symm.trans HSC.out, HP, HK⟩
      obtain ⟨i2, rfl, hii, hij2, HI2, HP1, HK1⟩ := hcut
      clear HP HK
      go_upto_block 8 with fail
      go_cut [11] (fun vj wx => ∃ j2 : Nat, vj = .int .i64 j2 ∧ j2 ≤ j ∧ i2 ≤ j2 + 1 ∧ Hid (j2 = scanDown (fun x => !ltp x dk[a]!) dk i2 j) ∧ Hid (Hp wx B q cap n dk) ∧ Hid (Kp (fun k => k = q) w wx))
      case first =>
        go_wp2_with fail
        go_loopg [11] (j + 1) (fun g vj w1 => ∃ j2 : Nat, vj = .int .i64 j2 ∧ j2 ≤ j ∧ i2 ≤ j2 + 1 ∧ j2 + 1 ≤ g ∧ Hid (scanDown (fun x => !ltp x dk[a]!) dk i2 j2 = scanDown (fun x => !ltp x dk[a]!) dk i2 j) ∧ Hid (Hp w1 B q cap n dk) ∧ Hid (Kp (fun k => k = q) w w1))
        case atStart => exact ⟨j, rfl, Nat.le_refl _, hij2, Nat.le_refl _, rfl, HP1, HK1⟩
        case round =>
          clear HP1 HK1
          obtain ⟨j2, rfl, hjj, hij3, hg, HSC, HP, HK⟩ := hrel
          by_cases hle : i2 ≤ j2
          · have hlez : (i2 : Int) ≤ (j2 : Int) := by omega
            cases hlv : ltp dk[j2]! dk[a]! with
            | false =>
              go_wp2_with (go_at_fn 140; refine (lessAt _ HP.out hn j2 a hlv (by omega) (by omega) (by omega) (by omega)).mono ?_; rintro e w' ⟨rfl, k, rfl⟩)
              go_roundg j2
              case measure => omega
              case rel => exact ⟨j2 - 1, by go_num, by omega, by omega, by omega, (scanDown_go (fun x => !ltp x dk[a]!) dk i2 j2 hle (by omega) (by simp [hlv])).symm.trans HSC.out, HP.out.drewN _, HK.out.drewN _⟩
            | true =>
              go_wp2_with (go_at_fn 140; refine (lessAt _ HP.out hn j2 a hlv (by omega) (by omega) (by omega) (by omega)).mono ?_; rintro e w' ⟨rfl, k, rfl⟩)
              go_meet
              exact ⟨j2, rfl, hjj, hij3, (scanDown_end (fun x => !ltp x dk[a]!) dk i2 j2 (Or.inr (by simp [hlv]))).symm.trans HSC.out, HP.out.drewN _, HK.out.drewN _⟩
          · have hlez : ¬ (i2 : Int) ≤ (j2 : Int) := by omega
            go_wp2
            go_meet
            exact ⟨j2, rfl, hjj, hij3, (scanDown_end (fun x => !ltp x dk[a]!) dk i2 j2 (Or.inl hle)).symm.trans HSC.out, HP, HK⟩
      obtain ⟨j2, rfl, hjj, hij3, HJ2, HP2, HK2⟩ := hcut
      clear HP1 HK1
      by_cases hgt : i2 > j2
      · have hgz : (j2 : Int) < (i2 : Int) := by omega
        go_wp2_with (go_at_fn 141; refine (swapAt _ HP2.out hn j2 a (by omega) (by omega) (by omega) (by omega)).mono ?_; rintro e w' ⟨rfl, HP3, HK3⟩)
        go_ret2
        have e := part_break ltp a i j dk HI2.out HJ2.out hgt
        rw [PF.out, ← HE.out, e]
        exact ⟨rfl, HP3.out, HK2.out.trans HK3.out⟩
      · have hgz : ¬ (j2 : Int) < (i2 : Int) := by omega
        have hlt3 := part_scans_lt ltp a i j dk (by omega) HI2.out HJ2.out (by omega)
        go_wp2_with (go_at_fn 141; refine (swapAt _ HP2.out hn i2 j2 (by omega) (by omega) (by omega) (by omega)).mono ?_; rintro e w' ⟨rfl, HP3, HK3⟩)
        go_roundg (j2 - 1 + 1 - (i2 + 1))
        case measure => omega
        case rel => exact ⟨i2 + 1, j2 - 1, swp dk i2 j2, by go_num, by go_num, by omega, by omega, by omega, Nat.le_refl _, HP3, HK2.out.trans HK3.out, (by rw [← HE.out]; exact (part_go ltp a i j dk HI2.out HJ2.out (by omega)).symm)⟩
end
end Go.Proofs.YtkocpijloiamcaaDoor
