/- math/bits.Len; sort.nextPowerOfTwo, xorshift.Next, breakPatterns, choosePivot over bracketPairs: what is wanted of them: a permutation; a place in the range. -/
import Derived.Test.YtmaieenphcnefaaDoorSrt3
import Derived.Lib.BitFns
import Derived.Lib.Small
import Derived.Lib.Tables
import Derived.Sort.Walk7a
import Derived.Sort.WalkA14
import Derived.Sort.LotD1
namespace Go.Proofs.YtmaieenphcnefaaDoor
set_option linter.unusedVariables false
set_option linter.unusedSimpArgs false
open Go.RowKit Go.Sort Go.Lib

theorem tab8 (v : Nat) (h : v < Lib.len8tab.size) : (((Lib.len8tab[v]'h).toNat : Nat) : Int) = (Lib.bitLen v : Int) := by
  have hs : v < 256 := by rw [Lib.len8tab_size] at h; exact h
  have e := Lib.len8_of (v : Int) (by omega) (by omega)
  rw [Int.toNat_natCast] at e
  rw [← e]
  unfold Lib.len8
  rw [Int.toNat_natCast, ByteArray.getElem?_lt' _ _ h, Option.getD_some]

theorem wrap_small {k : Nat} (B : Nat) (hB : B ≤ 8) (hk : k ≤ 24) : wrap64 ((k : Int) + wrap64 (B : Int)) = ((k + B : Nat) : Int) := by
  unfold wrap64; omega
theorem wrap_small0 (B : Nat) (hB : B ≤ 8) : wrap64 (wrap64 (B : Int)) = (B : Int) := by
  unfold wrap64; omega

set_option maxHeartbeats 4000000 in
set_option maxRecDepth 100000 in
theorem len64_p (x : Int) (h0 : 0 ≤ x) (h1 : x ≤ 4294967295) (w : World) : Calls Tryd.prog 63 #[.int .u64 x] w fun e w' => e = .returned (.int .i64 (Lib.bitLen x.toNat)) ∧ w' = w := by
  have u9 : Tryd.prog.underlying 9 = some .string := Tryd.underlying9
  go_enter Tryd.func63, Tryd.ntmps63
  generalize hT : ByteArray.mk _ = T
  have hT2 : T = Lib.len8tab := by rw [← hT]; kernel_rfl
  clear hT
  subst hT2
  have hsz := Lib.len8tab_size
  go_wp2
  all_goals (go_ret; refine ⟨congrArg Ending.returned (congrArg (Value.int IntKind.i64) ?_), rfl⟩)
  all_goals rw [tab8]
  · have e : (x / 65536 / 256).toNat = x.toNat / 16777216 := by omega
    have l := Lib.bitLen_le8' (x / 65536 / 256) (by omega) (by omega)
    have s := Lib.bitLen_shift24 x.toNat (by omega) (by omega)
    rw [e] at l ⊢
    generalize Lib.bitLen (x.toNat / 16777216) = B at l s ⊢
    generalize Lib.bitLen x.toNat = C at s ⊢
    subst s
    exact wrap_small (k := 24) _ (by omega) (by omega)
  · have e : (x / 65536).toNat = x.toNat / 65536 := by omega
    have l := Lib.bitLen_le8' (x / 65536) (by omega) (by omega)
    have s := Lib.bitLen_shift16 x.toNat (by omega) (by omega)
    rw [e] at l ⊢
    generalize Lib.bitLen (x.toNat / 65536) = B at l s ⊢
    generalize Lib.bitLen x.toNat = C at s ⊢
    subst s
    exact wrap_small (k := 16) _ (by omega) (by omega)
  · have e : (x / 256).toNat = x.toNat / 256 := by omega
    have l := Lib.bitLen_le8' (x / 256) (by omega) (by omega)
    have s := Lib.bitLen_shift8 x.toNat (by omega) (by omega)
    rw [e] at l ⊢
    generalize Lib.bitLen (x.toNat / 256) = B at l s ⊢
    generalize Lib.bitLen x.toNat = C at s ⊢
    subst s
    exact wrap_small (k := 8) _ (by omega) (by omega)
  · have l := Lib.bitLen_le8' x (by omega) (by omega)
    generalize Lib.bitLen x.toNat = C at l ⊢
    exact wrap_small0 _ l

set_option maxHeartbeats 1000000 in
theorem len_bits (x : Nat) (hx : x < 4294967296) (w : World) : Calls Tryd.prog 58 #[.int .u64 x] w fun e w' => e = .returned (.int .i64 (bitsLen x : Nat)) ∧ w' = w := by
  have h := len64_p (x : Int) (by omega) (by omega)
  rw [Int.toNat_natCast, bitLen_eq x (by omega)] at h
  go_enter Tryd.func58, Tryd.ntmps58
  go_wp2_with (go_at_call 63; refine (h _).mono ?_; rintro e w' ⟨rfl, rfl⟩)
  go_ret
  exact ⟨rfl, rfl⟩

set_option maxHeartbeats 1000000 in
theorem nextPow_p (n : Nat) (hn : n < 4294967296) (w : World) : Calls Tryd.prog 76 #[.int .i64 n] w fun e w' => e = .returned (.int .u64 ((1 <<< bitsLen n : Nat) : Int)) ∧ w' = w := by
  have hk : bitsLen n ≤ 62 := (bitsLen_le_iff n 62).2 (by omega)
  have hp := wrap_two_pow (bitsLen n) hk
  have wr : IntKind.u64.wrap (n : Int) = n := by simp [IntKind.wrap, IntKind.bits, IntKind.signed]; omega
  go_enter Tryd.func76, Tryd.ntmps76
  go_wp2_with (go_at_call 58; refine (len_bits n hn _).mono ?_; rintro e w' ⟨rfl, rfl⟩)
  go_ret
  exact ⟨rfl, rfl⟩

set_option maxHeartbeats 2000000 in
set_option maxRecDepth 1000000 in
/-- '*r ^= *r << 13; *r ^= *r >> 7; *r ^= *r << 17': some number comes back; nothing but the cell has turned. -/
theorem xorNext_p (rb X : Nat) (hX : X < 18446744073709551616) (w : World) (hc : w.cell? ⟨rb, 0, none⟩ = some (.int .u64 X)) (hf : w.frozen? ⟨rb, 0, none⟩ = false) :
    Calls Tryd.prog 77 #[.pointer (some ⟨rb, 0, none⟩)] w fun e w' => ∃ Y : Nat, Y < 18446744073709551616 ∧ e = .returned (.int .u64 Y) ∧ ∃ k, w' = (w.setCell ⟨rb, 0, none⟩ (.int .u64 Y)).drewN k := by
  obtain ⟨A, hA⟩ : ∃ A : Nat, A = X ^^^ (X * 8192 % 18446744073709551616) := ⟨_, rfl⟩
  obtain ⟨B, hB⟩ : ∃ B : Nat, B = A ^^^ (A / 128) := ⟨_, rfl⟩
  obtain ⟨C, hC⟩ : ∃ C : Nat, C = B ^^^ (B * 131072 % 18446744073709551616) := ⟨_, rfl⟩
  have lA : A < 18446744073709551616 := by rw [hA]; exact Nat.xor_lt_two_pow (n := 64) (by omega) (by omega)
  have lB : B < 18446744073709551616 := by rw [hB]; exact Nat.xor_lt_two_pow (n := 64) (by omega) (by omega)
  have lC : C < 18446744073709551616 := by rw [hC]; exact Nat.xor_lt_two_pow (n := 64) (by omega) (by omega)
  have e1 : bits .xor .u64 (X : Int) (IntKind.u64.wrap ((X : Int) * 8192)) = (A : Int) := by
    rw [IntKind.wrap_u64, show ((X : Int) * 8192 % 18446744073709551616) = ((X * 8192 % 18446744073709551616 : Nat) : Int) by omega, bits_xor_u64_nat _ _ hX (by omega), hA]
  have e2 : bits .xor .u64 (A : Int) ((A : Int) / 128) = (B : Int) := by
    rw [show ((A : Int) / 128) = ((A / 128 : Nat) : Int) by omega, bits_xor_u64_nat _ _ lA (by omega), hB]
  have e3 : bits .xor .u64 (B : Int) (IntKind.u64.wrap ((B : Int) * 131072)) = (C : Int) := by
    rw [IntKind.wrap_u64, show ((B : Int) * 131072 % 18446744073709551616) = ((B * 131072 % 18446744073709551616 : Nat) : Int) by omega, bits_xor_u64_nat _ _ lB (by omega), hC]
  clear hA hB hC
  have hss : ∀ v v', (w.setCell ⟨rb, 0, none⟩ v).setCell ⟨rb, 0, none⟩ v' = w.setCell ⟨rb, 0, none⟩ v' := setCell_setCell w rb 0
  go_enter Tryd.func77, Tryd.ntmps77
  go_wp2
  go_region
  all_goals go_wp2
  all_goals go_region
  all_goals go_wp2
  all_goals go_region
  all_goals go_wp2
  go_ret
  exact ⟨C, lC, rfl, 3, rfl⟩
end Go.Proofs.YtmaieenphcnefaaDoor
