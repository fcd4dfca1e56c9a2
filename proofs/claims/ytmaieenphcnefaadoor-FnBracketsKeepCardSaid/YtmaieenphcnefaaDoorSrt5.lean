/- sort.breakPatterns, choosePivot over bracketPairs: a permutation; a place in the range. -/
import Derived.Test.YtmaieenphcnefaaDoorSrt4
namespace Go.Proofs.YtmaieenphcnefaaDoor
set_option linter.unusedVariables false
set_option linter.unusedSimpArgs false
open Go.RowKit Go.Sort Go.Lib

section
variable {B q cap n : Nat} {d : Array (Nat × Nat)}

set_option maxHeartbeats 4000000 in
set_option maxRecDepth 100000 in
theorem breakPatterns_go (w : World) (h : Hp w B q cap n d) (hn : n < 4294967296) (a L : Nat) (hb : a + L ≤ n) (h8 : 8 ≤ L) :
    Calls Tryd.prog 66 #[.iface 62 (rvp q n cap), .int .i64 a, .int .i64 ((a + L : Nat) : Int)] w fun e w' => e = .returned (.tuple #[]) ∧ ∃ d', PermIn a (a + L) d d' ∧ Hp w' B q cap n d' ∧ Kp (fun k => k = q) w w' := by
  have mS := mSwap (rvp q n cap); have eS := eSwap
  obtain ⟨M, hM⟩ : ∃ M : Nat, M = 1 <<< bitsLen L := ⟨_, rfl⟩
  have hM1 : 1 ≤ M := by rw [hM, Nat.one_shiftLeft]; exact Nat.two_pow_pos _
  have hM2 : M ≤ 2 * L := by rw [hM, Nat.one_shiftLeft]; exact two_pow_bitsLen_le (by omega)
  have hNP : ∀ w, Calls Tryd.prog 76 #[.int .i64 (L : Int)] w fun e w' => e = .returned (.int .u64 (M : Int)) ∧ w' = w := by rw [hM]; exact nextPow_p L (by omega)
  clear hM
  have hLz : ((a : Int) + (L : Int) - (a : Int)) = (L : Int) := by omega
  have h8z : (8 : Int) ≤ (L : Int) := by omega
  have hql := h.lt
  obtain ⟨S, hS⟩ : ∃ S, S = w.heap.size := ⟨_, rfl⟩
  have hSq : S ≠ q := by omega
  have hsz := h.sz
  have HS := hid h
  clear h
  go_enter Tryd.func66, Tryd.ntmps66
  go_wp2_with (go_at_call 76; refine (hNP _).mono ?_; rintro e w' ⟨rfl, rfl⟩)
  rw [← hS]
  have HSS := hid hS
  clear hS hql
  go_loopg [9] 3 (fun g1 vi wr => ∃ (t r : Nat) (dk : Array (Nat × Nat)), vi = .int .i64 ((a : Int) + (L : Int) / 4 * 2 - 1 + (t : Int)) ∧ t ≤ 3 ∧ 3 - t ≤ g1 ∧ r < 18446744073709551616 ∧ Hid (PermIn a (a + L) d dk) ∧
      Hid (Hp wr B q cap n dk) ∧ Hid (Kp (fun k => k = q) w wr) ∧ Hid (wr.rowIs S 120 1 (fun _ => .int .u64 (r : Int))))
  case atStart =>
    rw [HSS.out]
    exact ⟨0, L, d, by simp, by omega, by omega, by omega, permIn_refl _ _ _, HS.out.kp ((Kp.refl (fun k => k = w.heap.size) _).alloc _) (by rw [← HSS.out]; exact hSq), (Kp.refl _ _).alloc _, World.rowIs_alloc w #[.int .u64 (L : Int)] 120 _ (fun i hi => by
      have h0 : i = 0 := by simpa using hi
      subst h0; rfl)⟩
  case round =>
    obtain ⟨t, r, dk, rfl, ht, hg1, hr, HPm, HP, HK, HX⟩ := hrel
    by_cases ht3 : t < 3
    · have hle : (a : Int) + (L : Int) / 4 * 2 - 1 + (t : Int) ≤ (a : Int) + (L : Int) / 4 * 2 + 1 := by omega
      have cR : wr.cell? ⟨S, 0, none⟩ = some (.int .u64 (r : Int)) := HX.out.cell (by omega)
      have fR := HX.out.frozen 0
      go_wp2_with fail
      refine (xorNext_p S r hr _ cR fR).mono ?_
      rintro e w1 ⟨Y, hY, rfl, k1, hw1⟩
      have k1' : Kp (fun k => k = S) wr w1 := by rw [hw1]; exact ((Kp.refl (fun k => k = S) _).setCell (a := ⟨S, 0, none⟩) (.inl rfl) _).drewN _
      have HP1 := hid (HP.out.kp k1' hSq)
      have HX1 : Hid (w1.rowIs S 120 1 (fun _ => .int .u64 (Y : Int))) := by
        rw [hw1]; exact (HX.out.set 0 _).congr (fun i hi => by rw [if_pos (by omega)])
      have HK1 : Hid (Kp (fun k => k = q) w w1) := by
        rw [hw1]; exact (HK.out.setCell (a := ⟨S, 0, none⟩) (.inr (by have := HSS.out; show w.heap.size ≤ S; omega)) _).drewN _
      obtain ⟨O, hO⟩ : ∃ O : Nat, O = Y &&& (M - 1) := ⟨_, rfl⟩
      have lO : O ≤ M - 1 := by rw [hO]; exact Nat.and_le_right
      have eAnd : bits .and .u64 (Y : Int) ((M : Int) - 1) = (O : Int) := by
        rw [show ((M : Int) - 1) = ((M - 1 : Nat) : Int) by omega, bits_and_u64_nat _ _ hY (by omega), hO]
      clear hw1 k1' cR fR HP HX HK hO
      by_cases hLO : L ≤ O
      · have hLOz : (L : Int) ≤ (O : Int) := by omega
        go_wp2_with (go_at_fn 101; refine (swapAt _ HP1.out (by omega) (a + L / 4 * 2 - 1 + t) (a + (O - L)) (by omega) (by omega) (by omega) (by omega)).mono ?_; rintro e w' ⟨rfl, HP2, HK2⟩)
        go_roundg (3 - (t + 1))
        case measure => omega
        case rel => exact ⟨t + 1, Y, swp dk (a + L / 4 * 2 - 1 + t) (a + (O - L)), by congr 1; push_cast; omega, by omega, Nat.le_refl _, hY, permIn_trans _ _ _ _ _ HPm.out (swp_permIn dk a (a + L) _ _ (by omega) (by omega) (by omega) (by omega) (by rw [HP1.out.sz]; omega)), HP2, HK1.out.trans HK2.out, HK2.out.row HX1.out hSq⟩
      · have hLOz : ¬ (L : Int) ≤ (O : Int) := by omega
        go_wp2_with (go_at_fn 101; refine (swapAt _ HP1.out (by omega) (a + L / 4 * 2 - 1 + t) (a + O) (by omega) (by omega) (by omega) (by omega)).mono ?_; rintro e w' ⟨rfl, HP2, HK2⟩)
        go_roundg (3 - (t + 1))
        case measure => omega
        case rel => exact ⟨t + 1, Y, swp dk (a + L / 4 * 2 - 1 + t) (a + O), by congr 1; push_cast; omega, by omega, Nat.le_refl _, hY, permIn_trans _ _ _ _ _ HPm.out (swp_permIn dk a (a + L) _ _ (by omega) (by omega) (by omega) (by omega) (by rw [HP1.out.sz]; omega)), HP2, HK1.out.trans HK2.out, HK2.out.row HX1.out hSq⟩
    · obtain rfl : t = 3 := by omega
      have hle : ¬ ((a : Int) + (L : Int) / 4 * 2 - 1 + ((3 : Nat) : Int) ≤ (a : Int) + (L : Int) / 4 * 2 + 1) := by omega
      go_wp2
      go_end0
      exact ⟨rfl, dk, HPm.out, HP.out, HK.out⟩

set_option maxHeartbeats 1000000 in
theorem breakPatterns_p (w : World) (h : Hp w B q cap n d) (hn : n < 4294967296) (a b : Nat) (hab : a ≤ b) (hb : b ≤ n) :
    Calls Tryd.prog 66 #[.iface 62 (rvp q n cap), .int .i64 a, .int .i64 b] w fun e w' => e = .returned (.tuple #[]) ∧ ∃ d', PermIn a b d d' ∧ Hp w' B q cap n d' ∧ Kp (fun k => k = q) w w' := by
  obtain ⟨L, rfl⟩ : ∃ L, b = a + L := ⟨b - a, by omega⟩
  by_cases h8 : 8 ≤ L
  · exact breakPatterns_go w h hn a L hb h8
  · have hLz : ((a : Int) + (L : Int) - (a : Int)) = (L : Int) := by omega
    have h8z : ¬ (8 : Int) ≤ (L : Int) := by omega
    have HS := hid h
    clear h
    go_enter Tryd.func66, Tryd.ntmps66
    go_wp2
    go_end0
    exact ⟨rfl, d, permIn_refl _ _ _, HS.out, Kp.refl _ _⟩

set_option maxHeartbeats 4000000 in
set_option maxRecDepth 100000 in
theorem choosePivot_p (w : World) (h : Hp w B q cap n d) (hn : n < 4294967296) (a b : Nat) (hab : a < b) (hb : b ≤ n) :
    Calls Tryd.prog 67 #[.iface 62 (rvp q n cap), .int .i64 a, .int .i64 b] w fun e w' =>
      ∃ (p : Nat) (ht : Int), e = .returned (.tuple #[.int .i64 p, .int .i64 ht]) ∧ (a ≤ p ∧ p < b) ∧ (ht = 0 ∨ ht = 1 ∨ ht = 2) ∧ w.Since w.heap.size w' := by
  obtain ⟨S, hS⟩ : ∃ S, S = w.heap.size := ⟨_, rfl⟩
  have hql := h.lt
  have hSq : S ≠ q := by omega
  obtain ⟨wA, hwA⟩ : ∃ wA, wA = w.alloc (.cells #[.int .i64 0] 3) := ⟨_, rfl⟩
  have KA : Kp (fun k => k = S) w wA := by rw [hwA]; exact (Kp.refl _ _).alloc _
  have hA := h.kp KA hSq
  have CA : Ctr wA S 0 := by
    rw [hwA, hS]
    exact World.rowIs_alloc w #[.int .i64 0] 3 _ (fun i hi => by
      have h0 : i = 0 := by simpa using hi
      subst h0; rfl)
  have HSS := hid hS
  have HWA := hid hwA
  have FIN : ∀ w', Kp (fun k => k = S) wA w' → w.Since w.heap.size w' := fun w' k => (KA.trans k).toSince (fun k hk e => by have := HSS.out; omega)
  have HF := hid FIN
  obtain ⟨I, hI⟩ : ∃ I : Nat, I = a + (b - a) / 4 * 1 := ⟨_, rfl⟩
  obtain ⟨J, hJ⟩ : ∃ J : Nat, J = a + (b - a) / 4 * 2 := ⟨_, rfl⟩
  obtain ⟨K, hK⟩ : ∃ K : Nat, K = a + (b - a) / 4 * 3 := ⟨_, rfl⟩
  have eI : ((a : Int) + ((b : Int) - (a : Int)) / 4) = (I : Int) := by omega
  have eJ : ((a : Int) + ((b : Int) - (a : Int)) / 4 * 2) = (J : Int) := by omega
  have eK : ((a : Int) + ((b : Int) - (a : Int)) / 4 * 3) = (K : Int) := by omega
  clear h hS hwA KA FIN hql
  by_cases h8 : b - a ≥ 8
  · have h8z : (8 : Int) ≤ (b : Int) - (a : Int) := by omega
    have hIb : a + 2 ≤ I ∧ I + 2 < b := by omega
    have hJb : a + 2 ≤ J ∧ J + 2 < b := by omega
    have hKb : a + 2 ≤ K ∧ K + 2 ≤ b := by omega
    by_cases h50 : b - a ≥ 50
    · have h50z : (50 : Int) ≤ (b : Int) - (a : Int) := by omega
      clear hI hJ hK
      go_enter Tryd.func67, Tryd.ntmps67
      go_wp2_with fail
      rw [← HSS.out, ← HWA.out]
      refine (medianAdjacent_p _ hA (by omega) I S 0 (by omega) (by omega) CA hSq (by omega) rfl).mono ?_
      rintro e w1 ⟨i1, s1, rfl, o1, l1, C1, K1⟩
      have h1 := hA.kp K1 hSq
      go_wp2_with fail
      refine (medianAdjacent_p _ h1 (by omega) J S s1 (by omega) (by omega) C1 hSq (by omega) rfl).mono ?_
      rintro e w2 ⟨j1, s2, rfl, o2, l2, C2, K2⟩
      have h2 := h1.kp K2 hSq
      go_wp2_with fail
      refine (medianAdjacent_p _ h2 (by omega) K S s2 (by omega) (by omega) C2 hSq (by omega) rfl).mono ?_
      rintro e w3 ⟨k1, s3, rfl, o3, l3, C3, K3⟩
      have h3 := h2.kp K3 hSq
      go_wp2_with fail
      refine (median_p _ h3 (by omega) i1 j1 k1 S s3 (by omega) (by omega) (by omega) C3 hSq (by omega)).mono ?_
      rintro e w4 ⟨p, s4, rfl, o4, l4, C4, K4⟩
      have HP := hid (show a ≤ p ∧ p < b by omega)
      have HK := hid (HF.out w4 (((K1.trans K2).trans K3).trans K4))
      have c4 : w4.cell? ⟨S, 0, none⟩ = some (.int .i64 s4) := C4.cell (by omega)
      clear o1 o2 o3 o4 l1 l2 l3 l4 C1 C2 C3 C4 K1 K2 K3 K4 h1 h2 h3 hA CA HF HWA
      go_wp2
      all_goals
        go_ret2
        exact ⟨p, _, rfl, HP.out, by first | exact .inl rfl | exact .inr (.inl rfl) | exact .inr (.inr rfl), HK.out⟩
    · have h50z : ¬ (50 : Int) ≤ (b : Int) - (a : Int) := by omega
      clear hI hJ hK
      go_enter Tryd.func67, Tryd.ntmps67
      go_wp2_with fail
      rw [← HSS.out, ← HWA.out]
      refine (median_p _ hA (by omega) I J K S 0 (by omega) (by omega) (by omega) CA hSq (by omega)).mono ?_
      rintro e w4 ⟨p, s4, rfl, o4, l4, C4, K4⟩
      have HP := hid (show a ≤ p ∧ p < b by omega)
      have HK := hid (HF.out w4 K4)
      have c4 : w4.cell? ⟨S, 0, none⟩ = some (.int .i64 s4) := C4.cell (by omega)
      clear o4 l4 C4 K4 hA CA HF HWA
      go_wp2
      all_goals
        go_ret2
        exact ⟨p, _, rfl, HP.out, by first | exact .inl rfl | exact .inr (.inl rfl) | exact .inr (.inr rfl), HK.out⟩
  · have h8z : ¬ (8 : Int) ≤ (b : Int) - (a : Int) := by omega
    have HP := hid (show a ≤ J ∧ J < b by omega)
    have HK := hid (HF.out wA (Kp.refl _ _))
    rw [HWA.out] at HK
    clear hI hJ hK hA CA HF HWA
    go_enter Tryd.func67, Tryd.ntmps67
    go_wp2
    all_goals
      go_ret2
      exact ⟨J, _, rfl, HP.out, by first | exact .inl rfl | exact .inr (.inl rfl) | exact .inr (.inr rfl), HK.out⟩
end
end Go.Proofs.YtmaieenphcnefaaDoor
