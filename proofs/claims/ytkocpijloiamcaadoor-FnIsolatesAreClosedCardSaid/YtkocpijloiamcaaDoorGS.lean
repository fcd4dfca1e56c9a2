/- sort.order2, median, medianAdjacent, choosePivot, breakPatterns over bracketPairs: what is wanted of them: a place in the range; a permutation. -/
import Derived.Test.YtkocpijloiamcaaDoorGF
import Derived.Shelf.SlSortFunc.Xorshift
import Derived.Sort.LotD4
import Derived.Lib.BitFns
import Derived.Lib.Small
import Derived.Lib.Tables
import Derived.Sort.Walk7a
import Derived.Sort.WalkA14
import Derived.Sort.LotD1
namespace Go.Proofs.YtkocpijloiamcaaDoor
set_option linter.unusedVariables false
set_option linter.unusedSimpArgs false
open Go.RowKit Go.Sort Go.Lib

section
variable {B q cap n : Nat} {d : Array (Nat × Nat)}

/-- The counter of exchanges. -/
abbrev Ctr (w : World) (cb s : Nat) : Prop := w.rowIs cb 3 1 (fun _ => .int .i64 ((s : Nat) : Int))

set_option maxHeartbeats 1000000 in
set_option maxRecDepth 100000 in
theorem order2_p (w : World) (h : Hp w B q cap n d) (hn : n ≤ 4294967296) (a b cb s : Nat) (ha : a < n) (hb : b < n) (hc : Ctr w cb s) (hs : s < 4611686018427387904) :
    Calls Tryd.prog 121 #[.iface 115 (rvp q n cap), .int .i64 a, .int .i64 b, .pointer (some ⟨cb, 0, none⟩)] w fun e w' =>
      ∃ x y s' : Nat, e = .returned (.tuple #[.int .i64 x, .int .i64 y]) ∧ ((x = a ∧ y = b) ∨ (x = b ∧ y = a)) ∧ s' ≤ s + 1 ∧ Ctr w' cb s' ∧ Kp (fun k => k = cb) w w' := by
  have mL := mLess (rvp q n cap); have eL := eLess
  have c0 : w.cell? ⟨cb, 0, none⟩ = some (.int .i64 s) := hc.cell (by omega)
  have f0 := hc.frozen 0
  have HC := hid hc
  clear hc
  have HS := hid h
  clear h
  go_enter Tryd.func121, Tryd.ntmps121
  cases hlv : ltp d[b]! d[a]! with
  | true =>
    go_wp2_with (go_at_fn 140; refine (lessAt _ HS.out hn b a hlv (by omega) (by omega) (by omega) (by omega)).mono ?_; rintro e w' ⟨rfl, k, rfl⟩)
    go_ret2
    exact ⟨b, a, s + 1, rfl, .inr ⟨rfl, rfl⟩, Nat.le_refl _, (HC.out.set 0 (.int .i64 ((s : Int) + 1))).congr (fun i hi => by rw [if_pos (by omega)]; exact congrArg _ (by omega)), ((Kp.refl (fun k => k = cb) _).drewN _).setCell (a := ⟨cb, 0, none⟩) (.inl rfl) _⟩
  | false =>
    go_wp2_with (go_at_fn 140; refine (lessAt _ HS.out hn b a hlv (by omega) (by omega) (by omega) (by omega)).mono ?_; rintro e w' ⟨rfl, k, rfl⟩)
    go_ret2
    exact ⟨a, b, s, rfl, .inl ⟨rfl, rfl⟩, by omega, HC.out, (Kp.refl _ _).drewN _⟩

theorem Hp.kp {w w' : World} {cb : Nat} (h : Hp w B q cap n d) (hk : Kp (fun k => k = cb) w w') (hne : cb ≠ q) : Hp w' B q cap n d := h.kept (hk.block q h.lt.2 (fun e => hne e.symm))

set_option maxHeartbeats 1000000 in
set_option maxRecDepth 100000 in
theorem median_p (w : World) (h : Hp w B q cap n d) (hn : n ≤ 4294967296) (a b c cb s : Nat) (ha : a < n) (hb : b < n) (hc : c < n) (hC : Ctr w cb s) (hne : cb ≠ q) (hs : s < 2305843009213693952) :
    Calls Tryd.prog 120 #[.iface 115 (rvp q n cap), .int .i64 a, .int .i64 b, .int .i64 c, .pointer (some ⟨cb, 0, none⟩)] w fun e w' =>
      ∃ m s' : Nat, e = .returned (.int .i64 m) ∧ (m = a ∨ m = b ∨ m = c) ∧ s' ≤ s + 3 ∧ Ctr w' cb s' ∧ Kp (fun k => k = cb) w w' := by
  go_enter Tryd.func120, Tryd.ntmps120
  go_wp2_with fail
  refine (order2_p _ h hn a b cb s ha hb hC (by omega)).mono ?_
  rintro e w1 ⟨x1, y1, s1, rfl, o1, l1, C1, K1⟩
  have h1 := h.kp K1 hne
  have hx1 : x1 < n := by omega
  have hy1 : y1 < n := by omega
  clear h hC
  go_wp2_with fail
  refine (order2_p _ h1 hn y1 c cb s1 hy1 hc C1 (by omega)).mono ?_
  rintro e w2 ⟨x2, y2, s2, rfl, o2, l2, C2, K2⟩
  have h2 := h1.kp K2 hne
  have hx2 : x2 < n := by omega
  clear h1 C1
  go_wp2_with fail
  refine (order2_p _ h2 hn x1 x2 cb s2 hx1 hx2 C2 (by omega)).mono ?_
  rintro e w3 ⟨x3, y3, s3, rfl, o3, l3, C3, K3⟩
  have HO := hid (show y3 = a ∨ y3 = b ∨ y3 = c by omega)
  have HL := hid (show s3 ≤ s + 3 by omega)
  clear o1 o2 o3 l1 l2 l3 h2 C2
  go_wp2_with fail
  go_ret
  exact ⟨y3, s3, rfl, HO.out, HL.out, C3, (K1.trans K2).trans K3⟩

set_option maxHeartbeats 1000000 in
set_option maxRecDepth 100000 in
theorem medianAdjacent_p (w : World) (h : Hp w B q cap n d) (hn : n ≤ 4294967296) (a cb s : Nat) (ha1 : 1 ≤ a) (ha : a + 1 < n) (hC : Ctr w cb s) (hne : cb ≠ q) (hs : s < 2305843009213693952) {x : Int} (hx : x = a) :
    Calls Tryd.prog 119 #[.iface 115 (rvp q n cap), .int .i64 x, .pointer (some ⟨cb, 0, none⟩)] w fun e w' =>
      ∃ m s' : Nat, e = .returned (.int .i64 m) ∧ (a ≤ m + 1 ∧ m ≤ a + 1) ∧ s' ≤ s + 3 ∧ Ctr w' cb s' ∧ Kp (fun k => k = cb) w w' := by
  subst hx
  have hm := median_p w h hn (a - 1) a (a + 1) cb s (by omega) (by omega) ha hC hne hs
  rw [show ((a - 1 : Nat) : Int) = (a : Int) - 1 by omega, show ((a + 1 : Nat) : Int) = (a : Int) + 1 by omega] at hm
  clear hC h
  go_enter Tryd.func119, Tryd.ntmps119
  go_wp2_with fail
  refine hm.mono ?_
  rintro e w1 ⟨m, s1, rfl, o1, l1, C1, K1⟩
  have HO := hid (show a ≤ m + 1 ∧ m ≤ a + 1 by omega)
  clear o1
  go_wp2_with fail
  go_ret
  exact ⟨m, s1, rfl, HO.out, l1, C1, K1⟩
end
end Go.Proofs.YtkocpijloiamcaaDoor

/- math/bits.Len; sort.nextPowerOfTwo, xorshift.Next, breakPatterns, choosePivot over bracketPairs: what is wanted of them: a permutation; a place in the range. -/
namespace Go.Proofs.YtkocpijloiamcaaDoor
set_option linter.unusedVariables false
set_option linter.unusedSimpArgs false
open Go.RowKit Go.Sort Go.Lib

theorem tab8 (v : Nat) (h : v < Lib.len8tab.size) : (((Lib.len8tab[v]'h).toNat : Nat) : Int) = (Lib.bitLen v : Int) := by
  have hs : v < 256 := by rw [Lib.len8tab_size] at h; exact h
  have e := Lib.len8_of (v : Int) (by omega) (by omega)
  rw [Int.toNat_natCast] at e
  rw [← e]
  unfold Lib.len8
  rw [Int.toNat_natCast, ByteArray.getElem?_lt' _ _ h, Option.getD_some]

theorem wrap_small {k : Nat} (B : Nat) (hB : B ≤ 8) (hk : k ≤ 24) : wrap64 ((k : Int) + wrap64 (B : Int)) = ((k + B : Nat) : Int) := by
  unfold wrap64; omega
theorem wrap_small0 (B : Nat) (hB : B ≤ 8) : wrap64 (wrap64 (B : Int)) = (B : Int) := by
  unfold wrap64; omega

set_option maxHeartbeats 4000000 in
set_option maxRecDepth 100000 in
theorem len64_p (x : Int) (h0 : 0 ≤ x) (h1 : x ≤ 4294967295) (w : World) : Calls Tryd.prog 106 #[.int .u64 x] w fun e w' => e = .returned (.int .i64 (Lib.bitLen x.toNat)) ∧ w' = w := by
  have u9 : Tryd.prog.underlying 9 = some .string := Tryd.underlying9
  go_enter Tryd.func106, Tryd.ntmps106
  generalize hT : ByteArray.mk _ = T
  have hT2 : T = Lib.len8tab := by rw [← hT]; kernel_rfl
  clear hT
  subst hT2
  have hsz := Lib.len8tab_size
  go_wp2
  all_goals (go_ret; refine ⟨congrArg Ending.returned (congrArg (Value.int IntKind.i64) ?_), rfl⟩)
  all_goals rw [tab8]
  · have e : (x / 65536 / 256).toNat = x.toNat / 16777216 := by omega
    have l := Lib.bitLen_le8' (x / 65536 / 256) (by omega) (by omega)
    have s := Lib.bitLen_shift24 x.toNat (by omega) (by omega)
    rw [e] at l ⊢
    generalize Lib.bitLen (x.toNat / 16777216) = B at l s ⊢
    generalize Lib.bitLen x.toNat = C at s ⊢
    subst s
    exact wrap_small (k := 24) _ (by omega) (by omega)
  · have e : (x / 65536).toNat = x.toNat / 65536 := by omega
    have l := Lib.bitLen_le8' (x / 65536) (by omega) (by omega)
    have s := Lib.bitLen_shift16 x.toNat (by omega) (by omega)
    rw [e] at l ⊢
    generalize Lib.bitLen (x.toNat / 65536) = B at l s ⊢
    generalize Lib.bitLen x.toNat = C at s ⊢
    subst s
    exact wrap_small (k := 16) _ (by omega) (by omega)
  · have e : (x / 256).toNat = x.toNat / 256 := by omega
    have l := Lib.bitLen_le8' (x / 256) (by omega) (by omega)
    have s := Lib.bitLen_shift8 x.toNat (by omega) (by omega)
    rw [e] at l ⊢
    generalize Lib.bitLen (x.toNat / 256) = B at l s ⊢
    generalize Lib.bitLen x.toNat = C at s ⊢
    subst s
    exact wrap_small (k := 8) _ (by omega) (by omega)
  · have l := Lib.bitLen_le8' x (by omega) (by omega)
    generalize Lib.bitLen x.toNat = C at l ⊢
    exact wrap_small0 _ l

set_option maxHeartbeats 1000000 in
theorem len_bits (x : Nat) (hx : x < 4294967296) (w : World) : Calls Tryd.prog 99 #[.int .u64 x] w fun e w' => e = .returned (.int .i64 (bitsLen x : Nat)) ∧ w' = w := by
  have h := len64_p (x : Int) (by omega) (by omega)
  rw [Int.toNat_natCast, bitLen_eq x (by omega)] at h
  go_enter Tryd.func99, Tryd.ntmps99
  go_wp2_with (go_at_call 106; refine (h _).mono ?_; rintro e w' ⟨rfl, rfl⟩)
  go_ret
  exact ⟨rfl, rfl⟩

set_option maxHeartbeats 1000000 in
theorem nextPow_p (n : Nat) (hn : n < 4294967296) (w : World) : Calls Tryd.prog 117 #[.int .i64 n] w fun e w' => e = .returned (.int .u64 ((1 <<< bitsLen n : Nat) : Int)) ∧ w' = w := by
  have hk : bitsLen n ≤ 62 := (bitsLen_le_iff n 62).2 (by omega)
  have hp := wrap_two_pow (bitsLen n) hk
  have wr : IntKind.u64.wrap (n : Int) = n := by simp [IntKind.wrap, IntKind.bits, IntKind.signed]; omega
  go_enter Tryd.func117, Tryd.ntmps117
  go_wp2_with (go_at_call 99; refine (len_bits n hn _).mono ?_; rintro e w' ⟨rfl, rfl⟩)
  go_ret
  exact ⟨rfl, rfl⟩

set_option maxHeartbeats 2000000 in
set_option maxRecDepth 1000000 in
/-- '*r ^= *r << 13; *r ^= *r >> 7; *r ^= *r << 17': some number comes back; nothing but the cell has turned. -/
theorem xorNext_p (rb X : Nat) (hX : X < 18446744073709551616) (w : World) (hc : w.cell? ⟨rb, 0, none⟩ = some (.int .u64 X)) (hf : w.frozen? ⟨rb, 0, none⟩ = false) :
    Calls Tryd.prog 118 #[.pointer (some ⟨rb, 0, none⟩)] w fun e w' => ∃ Y : Nat, Y < 18446744073709551616 ∧ e = .returned (.int .u64 Y) ∧ ∃ k, w' = (w.setCell ⟨rb, 0, none⟩ (.int .u64 Y)).drewN k := by
  obtain ⟨A, hA⟩ : ∃ A : Nat, A = X ^^^ (X * 8192 % 18446744073709551616) := ⟨_, rfl⟩
  obtain ⟨B, hB⟩ : ∃ B : Nat, B = A ^^^ (A / 128) := ⟨_, rfl⟩
  obtain ⟨C, hC⟩ : ∃ C : Nat, C = B ^^^ (B * 131072 % 18446744073709551616) := ⟨_, rfl⟩
  have lA : A < 18446744073709551616 := by rw [hA]; exact Nat.xor_lt_two_pow (n := 64) (by omega) (by omega)
  have lB : B < 18446744073709551616 := by rw [hB]; exact Nat.xor_lt_two_pow (n := 64) (by omega) (by omega)
  have lC : C < 18446744073709551616 := by rw [hC]; exact Nat.xor_lt_two_pow (n := 64) (by omega) (by omega)
  have e1 : bits .xor .u64 (X : Int) (IntKind.u64.wrap ((X : Int) * 8192)) = (A : Int) := by
    rw [IntKind.wrap_u64, show ((X : Int) * 8192 % 18446744073709551616) = ((X * 8192 % 18446744073709551616 : Nat) : Int) by omega, bits_xor_u64_nat _ _ hX (by omega), hA]
  have e2 : bits .xor .u64 (A : Int) ((A : Int) / 128) = (B : Int) := by
    rw [show ((A : Int) / 128) = ((A / 128 : Nat) : Int) by omega, bits_xor_u64_nat _ _ lA (by omega), hB]
  have e3 : bits .xor .u64 (B : Int) (IntKind.u64.wrap ((B : Int) * 131072)) = (C : Int) := by
    rw [IntKind.wrap_u64, show ((B : Int) * 131072 % 18446744073709551616) = ((B * 131072 % 18446744073709551616 : Nat) : Int) by omega, bits_xor_u64_nat _ _ lB (by omega), hC]
  clear hA hB hC
  have hss : ∀ v v', (w.setCell ⟨rb, 0, none⟩ v).setCell ⟨rb, 0, none⟩ v' = w.setCell ⟨rb, 0, none⟩ v' := setCell_setCell w rb 0
  go_enter Tryd.func118, Tryd.ntmps118
  go_wp2
  go_region
  all_goals go_wp2
  all_goals go_region
  all_goals go_wp2
  all_goals go_region
  all_goals go_wp2
  go_ret
  exact ⟨C, lC, rfl, 3, rfl⟩
end Go.Proofs.YtkocpijloiamcaaDoor

/- sort.breakPatterns, choosePivot over bracketPairs: a permutation; a place in the range. -/
namespace Go.Proofs.YtkocpijloiamcaaDoor
set_option linter.unusedVariables false
set_option linter.unusedSimpArgs false
open Go.RowKit Go.Sort Go.Lib

section
variable {B q cap n : Nat} {d : Array (Nat × Nat)}

set_option maxHeartbeats 4000000 in
set_option maxRecDepth 100000 in
theorem breakPatterns_go (w : World) (h : Hp w B q cap n d) (hn : n < 4294967296) (a L : Nat) (hb : a + L ≤ n) (h8 : 8 ≤ L) :
    Calls Tryd.prog 109 #[.iface 115 (rvp q n cap), .int .i64 a, .int .i64 ((a + L : Nat) : Int)] w fun e w' => e = .returned (.tuple #[]) ∧ ∃ d', PermIn a (a + L) d d' ∧ Hp w' B q cap n d' ∧ Kp (fun k => k = q) w w' := by
  have mS := mSwap (rvp q n cap); have eS := eSwap
  obtain ⟨M, hM⟩ : ∃ M : Nat, M = 1 <<< bitsLen L := ⟨_, rfl⟩
  have hM1 : 1 ≤ M := by rw [hM, Nat.one_shiftLeft]; exact Nat.two_pow_pos _
  have hM2 : M ≤ 2 * L := by rw [hM, Nat.one_shiftLeft]; exact two_pow_bitsLen_le (by omega)
  have hNP : ∀ w, Calls Tryd.prog 117 #[.int .i64 (L : Int)] w fun e w' => e = .returned (.int .u64 (M : Int)) ∧ w' = w := by rw [hM]; exact nextPow_p L (by omega)
  clear hM
  have hLz : ((a : Int) + (L : Int) - (a : Int)) = (L : Int) := by omega
  have h8z : (8 : Int) ≤ (L : Int) := by omega
  have hql := h.lt
  obtain ⟨S, hS⟩ : ∃ S, S = w.heap.size := ⟨_, rfl⟩
  have hSq : S ≠ q := by omega
  have hsz := h.sz
  have HS := hid h
  clear h
  go_enter Tryd.func109, Tryd.ntmps109
  go_wp2_with (go_at_call 117; refine (hNP _).mono ?_; rintro e w' ⟨rfl, rfl⟩)
  rw [← hS]
  have HSS := hid hS
  clear hS hql
  go_loopg [9] 3 (fun g1 vi wr => ∃ (t r : Nat) (dk : Array (Nat × Nat)), vi = .int .i64 ((a : Int) + (L : Int) / 4 * 2 - 1 + (t : Int)) ∧ t ≤ 3 ∧ 3 - t ≤ g1 ∧ r < 18446744073709551616 ∧ Hid (PermIn a (a + L) d dk) ∧
      Hid (Hp wr B q cap n dk) ∧ Hid (Kp (fun k => k = q) w wr) ∧ Hid (wr.rowIs S 159 1 (fun _ => .int .u64 (r : Int))))
  case atStart =>
    rw [HSS.out]
    exact ⟨0, L, d, by simp, by omega, by omega, by omega, permIn_refl _ _ _, HS.out.kp ((Kp.refl (fun k => k = w.heap.size) _).alloc _) (by rw [← HSS.out]; exact hSq), (Kp.refl _ _).alloc _, World.rowIs_alloc w #[.int .u64 (L : Int)] 159 _ (fun i hi => by
      have h0 : i = 0 := by simpa using hi
      subst h0; rfl)⟩
  case round =>
    obtain ⟨t, r, dk, rfl, ht, hg1, hr, HPm, HP, HK, HX⟩ := hrel
    by_cases ht3 : t < 3
    · have hle : (a : Int) + (L : Int) / 4 * 2 - 1 + (t : Int) ≤ (a : Int) + (L : Int) / 4 * 2 + 1 := by omega
      have cR : wr.cell? ⟨S, 0, none⟩ = some (.int .u64 (r : Int)) := HX.out.cell (by omega)
      have fR := HX.out.frozen 0
      go_wp2_with fail
      refine (xorNext_p S r hr _ cR fR).mono ?_
      rintro e w1 ⟨Y, hY, rfl, k1, hw1⟩
      have k1' : Kp (fun k => k = S) wr w1 := by rw [hw1]; exact ((Kp.refl (fun k => k = S) _).setCell (a := ⟨S, 0, none⟩) (.inl rfl) _).drewN _
      have HP1 := hid (HP.out.kp k1' hSq)
      have HX1 : Hid (w1.rowIs S 159 1 (fun _ => .int .u64 (Y : Int))) := by
        rw [hw1]; exact (HX.out.set 0 _).congr (fun i hi => by rw [if_pos (by omega)])
      have HK1 : Hid (Kp (fun k => k = q) w w1) := by
        rw [hw1]; exact (HK.out.setCell (a := ⟨S, 0, none⟩) (.inr (by have := HSS.out; show w.heap.size ≤ S; omega)) _).drewN _
      obtain ⟨O, hO⟩ : ∃ O : Nat, O = Y &&& (M - 1) := ⟨_, rfl⟩
      have lO : O ≤ M - 1 := by rw [hO]; exact Nat.and_le_right
      have eAnd : bits .and .u64 (Y : Int) ((M : Int) - 1) = (O : Int) := by
        rw [show ((M : Int) - 1) = ((M - 1 : Nat) : Int) by omega, bits_and_u64_nat _ _ hY (by omega), hO]
      clear hw1 k1' cR fR HP HX HK hO
      by_cases hLO : L ≤ O
      · have hLOz : (L : Int) ≤ (O : Int) := by omega
        go_wp2_with (go_at_fn 141; refine (swapAt _ HP1.out (by omega) (a + L / 4 * 2 - 1 + t) (a + (O - L)) (by omega) (by omega) (by omega) (by omega)).mono ?_; rintro e w' ⟨rfl, HP2, HK2⟩)
        go_roundg (3 - (t + 1))
        case measure => omega
        case rel => exact ⟨t + 1, Y, swp dk (a + L / 4 * 2 - 1 + t) (a + (O - L)), by congr 1; push_cast; omega, by omega, Nat.le_refl _, hY, permIn_trans _ _ _ _ _ HPm.out (swp_permIn dk a (a + L) _ _ (by omega) (by omega) (by omega) (by omega) (by rw [HP1.out.sz]; omega)), HP2, HK1.out.trans HK2.out, HK2.out.row HX1.out hSq⟩
      · have hLOz : ¬ (L : Int) ≤ (O : Int) := by omega
        go_wp2_with (go_at_fn 141; refine (swapAt _ HP1.out (by omega) (a + L / 4 * 2 - 1 + t) (a + O) (by omega) (by omega) (by omega) (by omega)).mono ?_; rintro e w' ⟨rfl, HP2, HK2⟩)
        go_roundg (3 - (t + 1))
        case measure => omega
        case rel => exact ⟨t + 1, Y, swp dk (a + L / 4 * 2 - 1 + t) (a + O), by congr 1; push_cast; omega, by omega, Nat.le_refl _, hY, permIn_trans _ _ _ _ _ HPm.out (swp_permIn dk a (a + L) _ _ (by omega) (by omega) (by omega) (by omega) (by rw [HP1.out.sz]; omega)), HP2, HK1.out.trans HK2.out, HK2.out.row HX1.out hSq⟩
    · obtain rfl : t = 3 := by omega
      have hle : ¬ ((a : Int) + (L : Int) / 4 * 2 - 1 + ((3 : Nat) : Int) ≤ (a : Int) + (L : Int) / 4 * 2 + 1) := by omega
      go_wp2
      go_end0
      exact ⟨rfl, dk, HPm.out, HP.out, HK.out⟩

set_option maxHeartbeats 1000000 in
theorem breakPatterns_p (w : World) (h : Hp w B q cap n d) (hn : n < 4294967296) (a b : Nat) (hab : a ≤ b) (hb : b ≤ n) :
    Calls Tryd.prog 109 #[.iface 115 (rvp q n cap), .int .i64 a, .int .i64 b] w fun e w' => e = .returned (.tuple #[]) ∧ ∃ d', PermIn a b d d' ∧ Hp w' B q cap n d' ∧ Kp (fun k => k = q) w w' := by
  obtain ⟨L, rfl⟩ : ∃ L, b = a + L := ⟨b - a, by omega⟩
  by_cases h8 : 8 ≤ L
  · exact breakPatterns_go w h hn a L hb h8
  · have hLz : ((a : Int) + (L : Int) - (a : Int)) = (L : Int) := by omega
    have h8z : ¬ (8 : Int) ≤ (L : Int) := by omega
    have HS := hid h
    clear h
    go_enter Tryd.func109, Tryd.ntmps109
    go_wp2
    go_end0
    exact ⟨rfl, d, permIn_refl _ _ _, HS.out, Kp.refl _ _⟩

set_option maxHeartbeats 4000000 in
set_option maxRecDepth 100000 in
theorem choosePivot_p (w : World) (h : Hp w B q cap n d) (hn : n < 4294967296) (a b : Nat) (hab : a < b) (hb : b ≤ n) :
    Calls Tryd.prog 110 #[.iface 115 (rvp q n cap), .int .i64 a, .int .i64 b] w fun e w' =>
      ∃ (p : Nat) (ht : Int), e = .returned (.tuple #[.int .i64 p, .int .i64 ht]) ∧ (a ≤ p ∧ p < b) ∧ (ht = 0 ∨ ht = 1 ∨ ht = 2) ∧ w.Since w.heap.size w' := by
  obtain ⟨S, hS⟩ : ∃ S, S = w.heap.size := ⟨_, rfl⟩
  have hql := h.lt
  have hSq : S ≠ q := by omega
  obtain ⟨wA, hwA⟩ : ∃ wA, wA = w.alloc (.cells #[.int .i64 0] 3) := ⟨_, rfl⟩
  have KA : Kp (fun k => k = S) w wA := by rw [hwA]; exact (Kp.refl _ _).alloc _
  have hA := h.kp KA hSq
  have CA : Ctr wA S 0 := by
    rw [hwA, hS]
    exact World.rowIs_alloc w #[.int .i64 0] 3 _ (fun i hi => by
      have h0 : i = 0 := by simpa using hi
      subst h0; rfl)
  have HSS := hid hS
  have HWA := hid hwA
  have FIN : ∀ w', Kp (fun k => k = S) wA w' → w.Since w.heap.size w' := fun w' k => (KA.trans k).toSince (fun k hk e => by have := HSS.out; omega)
  have HF := hid FIN
  obtain ⟨I, hI⟩ : ∃ I : Nat, I = a + (b - a) / 4 * 1 := ⟨_, rfl⟩
  obtain ⟨J, hJ⟩ : ∃ J : Nat, J = a + (b - a) / 4 * 2 := ⟨_, rfl⟩
  obtain ⟨K, hK⟩ : ∃ K : Nat, K = a + (b - a) / 4 * 3 := ⟨_, rfl⟩
  have eI : ((a : Int) + ((b : Int) - (a : Int)) / 4) = (I : Int) := by omega
  have eJ : ((a : Int) + ((b : Int) - (a : Int)) / 4 * 2) = (J : Int) := by omega
  have eK : ((a : Int) + ((b : Int) - (a : Int)) / 4 * 3) = (K : Int) := by omega
  clear h hS hwA KA FIN hql
  by_cases h8 : b - a ≥ 8
  · have h8z : (8 : Int) ≤ (b : Int) - (a : Int) := by omega
    have hIb : a + 2 ≤ I ∧ I + 2 < b := by omega
    have hJb : a + 2 ≤ J ∧ J + 2 < b := by omega
    have hKb : a + 2 ≤ K ∧ K + 2 ≤ b := by omega
    by_cases h50 : b - a ≥ 50
    · have h50z : (50 : Int) ≤ (b : Int) - (a : Int) := by omega
      clear hI hJ hK
      go_enter Tryd.func110, Tryd.ntmps110
      go_wp2_with fail
      rw [← HSS.out, ← HWA.out]
      refine (medianAdjacent_p _ hA (by omega) I S 0 (by omega) (by omega) CA hSq (by omega) rfl).mono ?_
      rintro e w1 ⟨i1, s1, rfl, o1, l1, C1, K1⟩
      have h1 := hA.kp K1 hSq
      go_wp2_with fail
      refine (medianAdjacent_p _ h1 (by omega) J S s1 (by omega) (by omega) C1 hSq (by omega) rfl).mono ?_
      rintro e w2 ⟨j1, s2, rfl, o2, l2, C2, K2⟩
      have h2 := h1.kp K2 hSq
      go_wp2_with fail
      refine (medianAdjacent_p _ h2 (by omega) K S s2 (by omega) (by omega) C2 hSq (by omega) rfl).mono ?_
      rintro e w3 ⟨k1, s3, rfl, o3, l3, C3, K3⟩
      have h3 := h2.kp K3 hSq
      go_wp2_with fail
      refine (median_p _ h3 (by omega) i1 j1 k1 S s3 (by omega) (by omega) (by omega) C3 hSq (by omega)).mono ?_
      rintro e w4 ⟨p, s4, rfl, o4, l4, C4, K4⟩
      have HP := hid (show a ≤ p ∧ p < b by omega)
      have HK := hid (HF.out w4 (((K1.trans K2).trans K3).trans K4))
      have c4 : w4.cell? ⟨S, 0, none⟩ = some (.int .i64 s4) := C4.cell (by omega)
      clear o1 o2 o3 o4 l1 l2 l3 l4 C1 C2 C3 C4 K1 K2 K3 K4 h1 h2 h3 hA CA HF HWA
      go_wp2
      all_goals
        go_ret2
        exact ⟨p, _, rfl, HP.out, by first | exact .inl rfl | exact .inr (.inl rfl) | exact .inr (.inr rfl), HK.out⟩
    · have h50z : ¬ (50 : Int) ≤ (b : Int) - (a : Int) := by omega
      clear hI hJ hK
      go_enter Tryd.func110, Tryd.ntmps110
      go_wp2_with fail
      rw [← HSS.out, ← HWA.out]
      refine (median_p _ hA (by omega) I J K S 0 (by omega) (by omega) (by omega) CA hSq (by omega)).mono ?_
      rintro e w4 ⟨p, s4, rfl, o4, l4, C4, K4⟩
      have HP := hid (show a ≤ p ∧ p < b by omega)
      have HK := hid (HF.out w4 K4)
      have c4 : w4.cell? ⟨S, 0, none⟩ = some (.int .i64 s4) := C4.cell (by omega)
      clear o4 l4 C4 K4 hA CA HF HWA
      go_wp2
      all_goals
        go_ret2
        exact ⟨p, _, rfl, HP.out, by first | exact .inl rfl | exact .inr (.inl rfl) | exact .inr (.inr rfl), HK.out⟩
  · have h8z : ¬ (8 : Int) ≤ (b : Int) - (a : Int) := by omega
    have HP := hid (show a ≤ J ∧ J < b by omega)
    have HK := hid (HF.out wA (Kp.refl _ _))
    rw [HWA.out] at HK
    clear hI hJ hK hA CA HF HWA
    go_enter Tryd.func110, Tryd.ntmps110
    go_wp2
    all_goals
      go_ret2
      exact ⟨J, _, rfl, HP.out, by first | exact .inl rfl | exact .inr (.inl rfl) | exact .inr (.inr rfl), HK.out⟩
end
end Go.Proofs.YtkocpijloiamcaaDoor
