/- sort.insertionSort, reverseRange, siftDown, heapSort over bracketPairs: what they make of the pairs. -/
import Derived.Test.YtkocpijloiamcaaDoorGF
namespace Go.Proofs.YtkocpijloiamcaaDoor
set_option linter.unusedVariables false
set_option linter.unusedSimpArgs false
open Go.RowKit Go.Sort Go.Lib

section
variable {B q cap n : Nat} {d : Array (Nat × Nat)}

set_option maxHeartbeats 2000000 in
set_option maxRecDepth 100000 in
theorem insertionSort_p (w : World) (h : Hp w B q cap n d) (hn : n ≤ 4294967296) (a b : Nat) (hab : a ≤ b) (hb : b ≤ n) :
    Calls Tryd.prog 107 #[.iface 115 (rvp q n cap), .int .i64 a, .int .i64 b] w (SP w B q cap n (insertionSort ltp d a b)) := by
  have mL := mLess (rvp q n cap); have mS := mSwap (rvp q n cap); have eL := eLess; have eS := eSwap
  have HS := hid h
  clear h
  go_enter Tryd.func107, Tryd.ntmps107
  go_wp2
  go_loopw [6] (fun vi wr => ∃ (i : Nat) (dk : Array (Nat × Nat)), vi = .int .i64 i ∧ a < i ∧ i ≤ b + 1 ∧ Hid (Hp wr B q cap n dk) ∧ Hid (Kp (fun k => k = q) w wr) ∧ Hid (insOuter ltp a b i dk = insOuter ltp a b (a + 1) d)) (fun vi _ => b + 1 - (intOf vi).toNat)
  case atStart => exact ⟨a + 1, d, by go_num, by omega, by omega, HS, Kp.refl _ _, rfl⟩
  case round =>
    obtain ⟨i, dk, rfl, hai, hib, HP, HK, HO⟩ := hrel
    go_wp2
    · -- i < b: the inner loop
      go_loopw [7] (fun vj wr2 => ∃ (j : Nat) (dj : Array (Nat × Nat)), vj = .int .i64 j ∧ a ≤ j ∧ j ≤ i ∧ Hid (Hp wr2 B q cap n dj) ∧ Hid (Kp (fun k => k = q) w wr2) ∧ Hid (insInner ltp a j dj = insInner ltp a i dk)) (fun vj _ => (intOf vj).toNat)
      case atStart => exact ⟨i, dk, rfl, by omega, Nat.le_refl _, HP, HK, rfl⟩
      case round =>
        clear HP HK
        obtain ⟨j, dj, rfl, haj, hji, HP, HK, HI⟩ := hrel
        have hlt : i < b := by assumption
        have out : (j ≤ a ∨ ltp dj[j]! dj[j - 1]! = false) → insOuter ltp a b (i + 1) dj = insOuter ltp a b (a + 1) d := fun hs => by
          rw [← HO.out, insOuter_go _ _ _ _ _ hlt, ← HI.out, insInner_stop _ _ _ _ hs]
        have OUT := hid out
        clear out
        by_cases hja : a < j
        · cases hlv : ltp dj[j]! dj[j - 1]! with
          | true =>
            go_wp2_with (first
              | (go_at_fn 140; refine (lessAt _ HP.out hn j (j - 1) hlv (by omega) (by omega) (by omega) (by omega)).mono ?_; rintro e w' ⟨rfl, k, rfl⟩)
              | (go_at_fn 141; refine (swapAt _ (HP.out.drewN _) hn j (j - 1) (by omega) (by omega) (by omega) (by omega)).mono ?_; rintro e w' ⟨rfl, HP2, HK2⟩))
            go_roundw
            case rel =>
              (repeat apply Exists.intro)
              refine ⟨⟨j - 1, swp dj j (j - 1), by congr 1 <;> omega, by omega, by omega, HP2, (HK.out.drewN _).trans HK2.out, by rw [← HI.out, insInner_go ltp a j dj hja hlv]; exact rfl⟩, by rw [decide_eq_true hlt, show ((j - 1 : Nat) : Int) = (j : Int) - 1 by omega]⟩
            case measure => simp [intOf]; omega
          | false =>
            go_wp2_with (go_at_fn 140; refine (lessAt _ HP.out hn j (j - 1) hlv (by omega) (by omega) (by omega) (by omega)).mono ?_; rintro e w' ⟨rfl, k, rfl⟩)
            go_roundw
            case rel => exact ⟨i + 1, dj, by go_num, by omega, by omega, HP.out.drewN _, HK.out.drewN _, OUT.out (Or.inr hlv)⟩
            case measure => simp [intOf]; omega
        · go_wp2
          go_roundw
          case rel => exact ⟨i + 1, dj, by go_num, by omega, by omega, HP, HK, OUT.out (Or.inl (by omega))⟩
          case measure => simp [intOf]; omega
    · -- the outer loop is at its end
      have hge : ¬ i < b := by assumption
      go_end0
      exact ⟨rfl, by unfold insertionSort; rw [← HO.out, insOuter_stop _ _ _ _ _ hge]; exact HP.out, HK.out⟩

set_option maxHeartbeats 2000000 in
set_option maxRecDepth 100000 in
theorem reverseRange_p (w : World) (h : Hp w B q cap n d) (hn : n ≤ 4294967296) (a b : Nat) (hab : a ≤ b) (hb : b ≤ n) :
    Calls Tryd.prog 111 #[.iface 115 (rvp q n cap), .int .i64 a, .int .i64 b] w (SP w B q cap n (reverseRange d a b)) := by
  have mS := mSwap (rvp q n cap); have eS := eSwap
  have HS := hid h
  clear h
  go_enter Tryd.func111, Tryd.ntmps111
  go_wp2
  go_loopg [6, 7] (b - a) (fun g s6 s7 wr => ∃ (i jn : Nat) (jz : Int) (dk : Array (Nat × Nat)), s6 = .int .i64 i ∧ s7 = .int .i64 jz ∧ ((i : Int) < jz → jz = jn ∧ jn < n) ∧ (¬ (i : Int) < jz → ¬ i < jn) ∧ jn - i ≤ g ∧
    Hid (Hp wr B q cap n dk) ∧ Hid (Kp (fun k => k = q) w wr) ∧ Hid (reverseLoop i jn dk = reverseLoop a (b - 1) d))
  case atStart => exact ⟨a, b - 1, (b : Int) - 1, d, rfl, rfl, fun h => ⟨by omega, by omega⟩, fun h => by omega, by omega, HS, Kp.refl _ _, rfl⟩
  case round =>
    obtain ⟨i, jn, jz, dk, rfl, rfl, h1, h2, hk, HP, HK, HR⟩ := hrel
    by_cases hlt : (i : Int) < jz
    · obtain ⟨rfl, hjn⟩ := h1 hlt
      have hij : i < jn := by omega
      clear h1 h2
      go_wp2_with (go_at_fn 141; refine (swapAt _ HP.out hn i jn (by omega) (by omega) (by omega) (by omega)).mono ?_; rintro e w' ⟨rfl, HP2, HK2⟩)
      go_roundg (jn - 1 - (i + 1))
      case measure => omega
      case rel =>
        have hr := HR.out
        rw [reverseLoop, if_pos hij] at hr
        exact ⟨i + 1, jn - 1, (jn : Int) - 1, swp dk i jn, by simp, rfl, fun h => ⟨by omega, by omega⟩, fun h => by omega, Nat.le_refl _, HP2, HK.out.trans HK2.out, hr⟩
    · have hnot := h2 hlt
      go_wp2
      go_end0
      have hr := HR.out
      rw [reverseLoop, if_neg hnot] at hr
      exact ⟨rfl, by rw [reverseRange, ← hr]; exact HP.out, HK.out⟩

set_option maxHeartbeats 4000000 in
set_option maxRecDepth 1000000 in
theorem siftDown_p (w : World) (h : Hp w B q cap n d) (hn : n ≤ 4294967296) (lo hi first : Nat) (hlo : lo ≤ hi) (hb : first + hi ≤ n) :
    Calls Tryd.prog 116 #[.iface 115 (rvp q n cap), .int .i64 lo, .int .i64 hi, .int .i64 first] w (SP w B q cap n (siftDown ltp hi first lo d)) := by
  have mL := mLess (rvp q n cap); have mS := mSwap (rvp q n cap); have eL := eLess; have eS := eSwap
  have HS := hid h
  clear h
  go_enter Tryd.func116, Tryd.ntmps116
  go_wp2
  go_loopg [8] (hi - lo) (fun g s8 wr => ∃ (root : Nat) (dk : Array (Nat × Nat)), s8 = .int .i64 root ∧ root ≤ hi ∧ hi - root ≤ g ∧ Hid (Hp wr B q cap n dk) ∧ Hid (Kp (fun k => k = q) w wr) ∧ Hid (siftDown ltp hi first root dk = siftDown ltp hi first lo d))
  case atStart => exact ⟨lo, d, rfl, hlo, Nat.le_refl _, HS, Kp.refl _ _, rfl⟩
  case round =>
    clear HS
    obtain ⟨root, dk, rfl, hr, hkx, HP, HK, HE⟩ := hrel
    by_cases h0 : hi ≤ 2 * root + 1
    · have h0z : (hi : Int) ≤ 2 * (root : Int) + 1 := by omega
      go_wp2
      go_end0
      exact ⟨rfl, by rw [← HE.out, sd_end ltp dk h0]; exact HP.out, HK.out⟩
    · have h0z : ¬ ((hi : Int) ≤ 2 * (root : Int) + 1) := by omega
      by_cases h1 : 2 * root + 2 < hi
      · have h1z : 2 * (root : Int) + 1 + 1 < (hi : Int) := by omega
        cases hL : ltp dk[first + (2 * root + 1)]! dk[first + (2 * root + 2)]! with
        | true =>
          cases hG : ltp dk[first + root]! dk[first + (2 * root + 2)]! with
          | true =>
            go_wp2_with (first
              | (go_at_fn 140; refine (lessAt _ HP.out hn (first + (2 * root + 1)) (first + (2 * root + 2)) hL (by omega) (by omega) (by omega) (by omega)).mono ?_; rintro e w' ⟨rfl, k1, rfl⟩)
              | (go_at_fn 140; refine (lessAt _ (HP.out.drewN _) hn (first + root) (first + (2 * root + 2)) hG (by omega) (by omega) (by omega) (by omega)).mono ?_; rintro e w' ⟨rfl, k2, rfl⟩)
              | (go_at_fn 141; refine (swapAt _ (HP.out.drewN _) hn (first + root) (first + (2 * root + 2)) (by omega) (by omega) (by omega) (by omega)).mono ?_; rintro e w' ⟨rfl, HP2, HK2⟩))
            go_roundg (hi - (2 * root + 2))
            case measure => omega
            case rel => exact ⟨2 * root + 2, swp dk (first + root) (first + (2 * root + 2)), by go_num, by omega, Nat.le_refl _, HP2, (HK.out.drewN _).trans HK2.out, by rw [← HE.out, sd_right_go ltp dk h1 hL hG]; exact rfl⟩
          | false =>
            go_wp2_with (first
              | (go_at_fn 140; refine (lessAt _ HP.out hn (first + (2 * root + 1)) (first + (2 * root + 2)) hL (by omega) (by omega) (by omega) (by omega)).mono ?_; rintro e w' ⟨rfl, k1, rfl⟩)
              | (go_at_fn 140; refine (lessAt _ (HP.out.drewN _) hn (first + root) (first + (2 * root + 2)) hG (by omega) (by omega) (by omega) (by omega)).mono ?_; rintro e w' ⟨rfl, k2, rfl⟩))
            (try simp only [Exit.inBlock, Exit.then]); refine bodyPost_ret (results_none rfl _ _ _) rfl ?_
            exact ⟨rfl, by rw [← HE.out, sd_right_stop ltp dk h1 hL hG]; exact HP.out.drewN _, HK.out.drewN _⟩
        | false =>
          cases hG : ltp dk[first + root]! dk[first + (2 * root + 1)]! with
          | true =>
            go_wp2_with (first
              | (go_at_fn 140; refine (lessAt _ HP.out hn (first + (2 * root + 1)) (first + (2 * root + 2)) hL (by omega) (by omega) (by omega) (by omega)).mono ?_; rintro e w' ⟨rfl, k1, rfl⟩)
              | (go_at_fn 140; refine (lessAt _ (HP.out.drewN _) hn (first + root) (first + (2 * root + 1)) hG (by omega) (by omega) (by omega) (by omega)).mono ?_; rintro e w' ⟨rfl, k2, rfl⟩)
              | (go_at_fn 141; refine (swapAt _ (HP.out.drewN _) hn (first + root) (first + (2 * root + 1)) (by omega) (by omega) (by omega) (by omega)).mono ?_; rintro e w' ⟨rfl, HP2, HK2⟩))
            go_roundg (hi - (2 * root + 1))
            case measure => omega
            case rel => exact ⟨2 * root + 1, swp dk (first + root) (first + (2 * root + 1)), by go_num, by omega, Nat.le_refl _, HP2, (HK.out.drewN _).trans HK2.out, by rw [← HE.out, sd_left_go ltp dk (by omega) (fun _ => hL) hG]; exact rfl⟩
          | false =>
            go_wp2_with (first
              | (go_at_fn 140; refine (lessAt _ HP.out hn (first + (2 * root + 1)) (first + (2 * root + 2)) hL (by omega) (by omega) (by omega) (by omega)).mono ?_; rintro e w' ⟨rfl, k1, rfl⟩)
              | (go_at_fn 140; refine (lessAt _ (HP.out.drewN _) hn (first + root) (first + (2 * root + 1)) hG (by omega) (by omega) (by omega) (by omega)).mono ?_; rintro e w' ⟨rfl, k2, rfl⟩))
            (try simp only [Exit.inBlock, Exit.then]); refine bodyPost_ret (results_none rfl _ _ _) rfl ?_
            exact ⟨rfl, by rw [← HE.out, sd_left_stop ltp dk (by omega) (fun _ => hL) hG]; exact HP.out.drewN _, HK.out.drewN _⟩
      · have h1z : ¬ (2 * (root : Int) + 1 + 1 < (hi : Int)) := by omega
        cases hG : ltp dk[first + root]! dk[first + (2 * root + 1)]! with
        | true =>
          go_wp2_with (first
            | (go_at_fn 140; refine (lessAt _ HP.out hn (first + root) (first + (2 * root + 1)) hG (by omega) (by omega) (by omega) (by omega)).mono ?_; rintro e w' ⟨rfl, k2, rfl⟩)
            | (go_at_fn 141; refine (swapAt _ (HP.out.drewN _) hn (first + root) (first + (2 * root + 1)) (by omega) (by omega) (by omega) (by omega)).mono ?_; rintro e w' ⟨rfl, HP2, HK2⟩))
          go_roundg (hi - (2 * root + 1))
          case measure => omega
          case rel => exact ⟨2 * root + 1, swp dk (first + root) (first + (2 * root + 1)), by go_num, by omega, Nat.le_refl _, HP2, (HK.out.drewN _).trans HK2.out, by rw [← HE.out, sd_left_go ltp dk (by omega) (fun h => absurd h h1) hG]; exact rfl⟩
        | false =>
          go_wp2_with (first
            | (go_at_fn 140; refine (lessAt _ HP.out hn (first + root) (first + (2 * root + 1)) hG (by omega) (by omega) (by omega) (by omega)).mono ?_; rintro e w' ⟨rfl, k2, rfl⟩))
          (try simp only [Exit.inBlock, Exit.then]); refine bodyPost_ret (results_none rfl _ _ _) rfl ?_
          exact ⟨rfl, by rw [← HE.out, sd_left_stop ltp dk (by omega) (fun h => absurd h h1) hG]; exact HP.out.drewN _, HK.out.drewN _⟩

theorem siftDownAt (w : World) (h : Hp w B q cap n d) (hn : n ≤ 4294967296) (lo hi first : Nat) (hlo : lo ≤ hi) (hb : first + hi ≤ n) {x y z : Int} (hx : x = lo) (hy : y = hi) (hz : z = first) :
    Calls Tryd.prog 116 #[.iface 115 (rvp q n cap), .int .i64 x, .int .i64 y, .int .i64 z] w fun e w' => e = .returned (.tuple #[]) ∧ Hid (Hp w' B q cap n (siftDown ltp hi first lo d)) ∧ Hid (Kp (fun k => k = q) w w') := by
  subst hx; subst hy; subst hz
  exact siftDown_p w h hn lo hi first hlo hb

set_option maxHeartbeats 4000000 in
set_option maxRecDepth 1000000 in
theorem heapSort_p (w : World) (h : Hp w B q cap n d) (hn : n ≤ 4294967296) (a b : Nat) (hab : a ≤ b) (hb : b ≤ n) :
    Calls Tryd.prog 108 #[.iface 115 (rvp q n cap), .int .i64 a, .int .i64 b] w (SP w B q cap n (heapSort ltp d a b)) := by
  have mS := mSwap (rvp q n cap); have eS := eSwap
  have ecast : ((b - a : Nat) : Int) = (b : Int) - (a : Int) := by omega
  have HS := hid h
  clear h
  go_enter Tryd.func108, Tryd.ntmps108
  go_wp2
  go_loopg [9] ((b - a - 1) / 2 + 1) (fun g s9 wr => s9 = .int .i64 ((g : Int) - 1) ∧ g ≤ (b - a - 1) / 2 + 1 ∧ ∃ (dk : Array (Nat × Nat)), Hid (Hp wr B q cap n dk) ∧ Hid (Kp (fun k => k = q) w wr) ∧ Hid (heapBuild ltp (b - a) a g dk = heapBuild ltp (b - a) a ((b - a - 1) / 2 + 1) d))
  case atStart => exact ⟨by rw [half_start hab], Nat.le_refl _, d, HS, Kp.refl _ _, rfl⟩
  case round =>
    clear HS
    obtain ⟨rfl, hkk, dk, HP, HK, HE⟩ := hrel
    cases gk with
    | zero =>
      have hB : dk = heapBuild ltp (b - a) a ((b - a - 1) / 2 + 1) d := HE.out
      have HB := hid hB
      clear HE hkk hB
      go_wp2
      go_loopg [10] (b - a) (fun g s10 wr2 => s10 = .int .i64 ((g : Int) - 1) ∧ g ≤ b - a ∧ ∃ (dj : Array (Nat × Nat)), Hid (Hp wr2 B q cap n dj) ∧ Hid (Kp (fun k => k = q) w wr2) ∧ Hid (heapPop ltp a g dj = heapPop ltp a (b - a) dk))
      case atStart => exact ⟨by rw [ecast], Nat.le_refl _, dk, HP, HK, rfl⟩
      case round =>
        clear HP HK
        obtain ⟨rfl, hkk, dj, HP, HK, HE2⟩ := hrel
        cases gk with
        | zero =>
          go_wp2
          go_end0
          have e : dj = heapSort ltp d a b := by rw [heapSort, ← HB.out, ← HE2.out]; rfl
          rw [← e]
          exact ⟨rfl, HP.out, HK.out⟩
        | succ kx =>
          go_wp2_with (first
            | (go_at_fn 141; refine (swapAt _ HP.out hn a (a + kx) (by omega) (by omega) (by omega) (by omega)).mono ?_; rintro e w' ⟨rfl, HP2, HK2⟩)
            | (go_at_call 116; refine (siftDownAt _ HP2.out hn 0 kx a (by omega) (by omega) (by omega) (by omega) (by omega)).mono ?_; rintro e w1 ⟨rfl, HP3, HK3⟩))
          go_roundg kx
          case measure => omega
          case rel => exact ⟨by simp, by omega, siftDown ltp kx a 0 (swp dj a (a + kx)), HP3, (HK.out.trans HK2.out).trans HK3.out, HE2⟩
    | succ kx =>
      go_wp2_with (go_at_call 116; refine (siftDownAt _ HP.out hn kx (b - a) a (by omega) (by omega) (by omega) (by omega) (by omega)).mono ?_; rintro e w1 ⟨rfl, HP3, HK3⟩)
      go_roundg kx
      case measure => omega
      case rel => exact ⟨by simp, by omega, siftDown ltp (b - a) a kx dk, HP3, HK.out.trans HK3.out, HE⟩
end
end Go.Proofs.YtkocpijloiamcaaDoor
