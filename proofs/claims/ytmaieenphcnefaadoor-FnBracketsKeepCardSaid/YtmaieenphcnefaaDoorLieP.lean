/- laws.hasPair; what holds of the pairs of BD16, in plain Lean. -/
import Derived.Test.YtmaieenphcnefaaDoorLawP
namespace Go.Proofs.YtmaieenphcnefaaDoor
open Go.RowKit Go.Lib Go.Sort
set_option linter.unusedVariables false
set_option linter.unusedSimpArgs false

set_option maxHeartbeats 1000000 in
theorem hasPair_any {ao : Option Addr} {b o c u v n : Nat} {P0 P1 : Nat → Nat} {R : List (List Nat)} (w : World) (hn : R.length ≤ n) (hnn : n ≤ 2147483647) (hR : SeesLL w ao b o c R) (hP : ∀ k, k < R.length → R.getD k [] = [P0 k, P1 k] ∧ P0 k < n ∧ P1 k < n) (hu : u < n) (hv : v < n)
    (hm : ∃ j, j < R.length ∧ R.getD j [] = [u, v]) :
    Calls Tryd.prog 15 #[.slice ao R.length c, .int .i64 u, .int .i64 v] w fun e w' => e = .returned (.bool true) ∧ w = w' := by
  obtain ⟨f, hS, hr⟩ := hR
  have HR := hid hr
  have HP := hid hP
  have HM := hid hm
  clear hr hP hm
  go_enter Tryd.func15, Tryd.ntmps15
  go_wp2
  go_loopg [8, 11] R.length (fun g _ i wr => ∃ k : Nat, k ≤ R.length ∧ g = R.length - k ∧ i = .int .i64 k ∧ Hid (∀ j, j < k → R.getD j [] ≠ [u, v]) ∧ wr = w)
  case atStart => exact ⟨0, Nat.zero_le _, rfl, rfl, fun j hj => absurd hj (Nat.not_lt_zero _), rfl⟩
  case round =>
    obtain ⟨k, hk, rfl, rfl, HNE, rfl⟩ := hrel
    by_cases hkn : k < R.length
    · have hkz : (k : Int) < (R.length : Int) := by omega
      obtain ⟨rfl, hc⟩ := hS.get hkn
      obtain ⟨a3, b3, o3, c3, e3, s3⟩ := HR.out k hkn
      obtain ⟨hp, hp0, hp1⟩ := HP.out k hkn
      rw [e3] at hc
      rw [hp] at s3 hc
      obtain ⟨rfl, d0⟩ := s3.get (i := 0) (by simp)
      obtain ⟨_, d1⟩ := s3.get (i := 1) (by simp)
      change _ = some (Value.int .i64 ((P0 k : Nat) : Int)) at d0
      change _ = some (Value.int .i64 ((P1 k : Nat) : Int)) at d1
      change _ = some (Value.slice (some ⟨b3, o3, none⟩) 2 c3) at hc
      rw [Nat.add_zero] at d0
      have hle : 2 ≤ c3 := s3.le
      have HPK := hid hp
      obtain ⟨p0, h0⟩ : ∃ p0, p0 = P0 k := ⟨_, rfl⟩
      obtain ⟨p1, h1⟩ : ∃ p1, p1 = P1 k := ⟨_, rfl⟩
      rw [← h0] at d0 hp0 HPK
      rw [← h1] at d1 hp1 HPK
      clear s3 hS e3 h0 h1 hp
      by_cases q0 : p0 = u
      · subst q0
        by_cases q1 : p1 = v
        · subst q1
          go_wp2
          go_ret
          exact ⟨rfl, rfl⟩
        · have q1b : ((p1 : Int) == (v : Int)) = false := by simp; omega
          have HNE' : Hid (∀ j, j < k + 1 → R.getD j [] ≠ [p0, v]) := fun j hj => by
            by_cases e : j = k
            · subst e; rw [HPK.out]; intro h; simp at h; exact q1 h
            · exact HNE.out j (by omega)
          go_wp2
          go_roundg (R.length - (k + 1))
          case rel => exact ⟨k + 1, by omega, rfl, by go_num, HNE', rfl⟩
          case measure => omega
      · have q0b : ((p0 : Int) == (u : Int)) = false := by simp; omega
        have HNE' : Hid (∀ j, j < k + 1 → R.getD j [] ≠ [u, v]) := fun j hj => by
          by_cases e : j = k
          · subst e; rw [HPK.out]; intro h; simp at h; exact q0 h.1
          · exact HNE.out j (by omega)
        go_wp2
        go_roundg (R.length - (k + 1))
        case rel => exact ⟨k + 1, by omega, rfl, by go_num, HNE', rfl⟩
        case measure => omega
    · obtain rfl : k = R.length := by omega
      obtain ⟨j, hj, hj2⟩ := HM.out
      exact absurd hj2 (HNE.out j hj)

theorem wrap_mid {z : Int} (h1 : -4294967296 ≤ z) (h2 : z ≤ 4294967296) : IntKind.i64.wrap z = z := by
  simp [IntKind.wrap, IntKind.bits, IntKind.signed]; omega

theorem SeesLL.kept' {w w' : World} {ao : Option Addr} {b o c : Nat} {R : List (List Nat)} (h : SeesLL w ao b o c R) (hd : Drawn w w') : SeesLL w' ao b o c R := by
  obtain ⟨f, h1, h2⟩ := h
  obtain ⟨m, rfl⟩ := hd
  exact ⟨f, h1, h2⟩

/-- What FnPairsLie says of lists of two places each. -/
structure PairsOk (x kd vl : Nat → Int) (n : Nat) (R : List (List Nat)) (P0 P1 : Nat → Nat) : Prop where
  len : R.length ≤ n
  row : ∀ k, k < R.length → R.getD k [] = [P0 k, P1 k]
  lt : ∀ k, k < R.length → P0 k < P1 k ∧ P1 k < n
  x0 : ∀ k, k < R.length → x (P0 k) = 10 ∧ x (P1 k) = 10
  kds : ∀ k, k < R.length → kd (P0 k) = 1 ∧ kd (P1 k) = 2
  vls : ∀ k, k < R.length → vl (P0 k) = vl (P1 k)
  two : ∀ j k, j < k → k < R.length → P0 j < P0 k ∧ P1 j ≠ P1 k ∧ (P0 k < P1 j → P1 k < P1 j)
  side : ∀ i, i + 1 < n → x i = 10 → x (i + 1) = 10 → kd i = 1 → kd (i + 1) = 2 → vl i = vl (i + 1) → ∃ j, j < R.length ∧ R.getD j [] = [i, i + 1]

theorem pairs_ok {x kd vl : Nat → Int} {n : Nat} (hc : ∀ i, i < n → 0 ≤ x i ∧ x i < 23) (hkd : ∀ j, j < n → kd j = 0 ∨ kd j = 1 ∨ kd j = 2) (hop : ops kd n ≤ 63) :
    ∃ P0 P1, PairsOk x kd vl n (pairLists (pairsOf kd vl (fun i => cls (x i)) n)) P0 P1 := by
  obtain ⟨nn, hnn⟩ : ∃ nn : Nat → Bool, nn = fun i => decide (cls (x i) = 10) := ⟨_, rfl⟩
  have hten : ∀ i, i < n → (nn i = true ↔ x i = 10) := fun i hi => by
    rw [hnn]
    show decide (cls (x i) = 10) = true ↔ _
    rw [cls_ten (hc i hi), decide_eq_true_iff]
  obtain ⟨m, hm⟩ : ∃ m, m = bk kd vl nn n := ⟨_, rfl⟩
  have hok : Bk.Ok kd vl nn m n := by rw [hm]; exact bk_ok n
  obtain ⟨PP, hPP⟩ : ∃ PP, PP = pairsOf kd vl (fun i => cls (x i)) n := ⟨_, rfl⟩
  have hPe : PP = prs m.cl n := by rw [hPP, hm, hnn]; rfl
  have hll : (pairLists PP).length = PP.length := by unfold pairLists; rw [List.length_map]
  have hmem : ∀ k, k < PP.length → (PP.getD k (0, 0)).1 < n ∧ m.cl (PP.getD k (0, 0)).1 ≠ 0 ∧ (PP.getD k (0, 0)).2 = m.cl (PP.getD k (0, 0)).1 := fun k hk => by
    have : PP.getD k (0, 0) ∈ prs m.cl n := by
      rw [← hPe, List.getD_eq_getElem?_getD, List.getElem?_eq_getElem hk]; exact List.getElem_mem hk
    exact prs_mem.1 this
  have hpr : ∀ k, k < PP.length → (PP.getD k (0, 0)).1 < (PP.getD k (0, 0)).2 ∧ (PP.getD k (0, 0)).2 < n ∧ kd (PP.getD k (0, 0)).1 = 1 ∧ kd (PP.getD k (0, 0)).2 = 2 ∧ vl (PP.getD k (0, 0)).1 = vl (PP.getD k (0, 0)).2 ∧ nn (PP.getD k (0, 0)).1 = true ∧ nn (PP.getD k (0, 0)).2 = true := fun k hk => by
    obtain ⟨h1, h2, h3⟩ := hmem k hk
    obtain ⟨a, b, c, d, e, f, g, h⟩ := hok.pr _ h2
    rw [h3]
    refine ⟨a, b, c, ?_, f, g, h⟩
    rcases hkd _ b with q | q | q
    · exact absurd q d
    · exact absurd q e
    · exact q
  have hsort : ∀ j k, j < k → k < PP.length → (PP.getD j (0, 0)).1 < (PP.getD k (0, 0)).1 := fun j k hj hk => by
    have h1 : PP.Pairwise (fun a b => a.1 < b.1) := by rw [hPe]; exact prs_sorted
    have := (List.pairwise_iff_getElem.1 h1) j k (by omega) hk hj
    rw [List.getD_eq_getElem?_getD, List.getElem?_eq_getElem (by omega), List.getD_eq_getElem?_getD, List.getElem?_eq_getElem hk]
    exact this
  rw [← hPP]
  refine ⟨fun k => (PP.getD k (0, 0)).1, fun k => (PP.getD k (0, 0)).2, ?_, ?_, ?_, ?_, ?_, ?_, ?_, ?_⟩
  · rw [hll, hPe]; exact prs_len
  · intro k hk; rw [hll] at hk; exact pairLists_getD hk
  · intro k hk; rw [hll] at hk; exact ⟨(hpr k hk).1, (hpr k hk).2.1⟩
  · intro k hk; rw [hll] at hk
    obtain ⟨a, b, _, _, _, g, h⟩ := hpr k hk
    exact ⟨(hten _ (by omega)).1 g, (hten _ b).1 h⟩
  · intro k hk; rw [hll] at hk
    exact ⟨(hpr k hk).2.2.1, (hpr k hk).2.2.2.1⟩
  · intro k hk; rw [hll] at hk
    exact (hpr k hk).2.2.2.2.1
  · intro j k hj hk
    rw [hll] at hk
    have h1 := hsort j k hj hk
    obtain ⟨_, a2, a3⟩ := hmem j (by omega)
    obtain ⟨_, b2, b3⟩ := hmem k hk
    have h2 := hok.nest _ _ a2 b2 h1
    have h3 := (hpr k hk).1
    refine ⟨h1, ?_, fun h => ?_⟩
    · show (PP.getD j (0, 0)).2 ≠ (PP.getD k (0, 0)).2
      omega
    · have h' : (PP.getD k (0, 0)).1 < (PP.getD j (0, 0)).2 := h
      show (PP.getD k (0, 0)).2 < (PP.getD j (0, 0)).2
      omega
  · intro i hi x0 x1 k0 k1 v0
    have hcl : m.cl i = i + 1 := by
      rw [hm]
      exact bk_side hop hi k0 (by rw [k1]; decide) (by rw [k1]; decide) ((hten i (by omega)).2 x0) ((hten (i + 1) hi).2 x1) v0
    have hin : (i, i + 1) ∈ PP := by
      rw [hPe]
      exact prs_mem.2 ⟨by show i < n; omega, by rw [hcl]; omega, hcl.symm⟩
    obtain ⟨j, hj, hj2⟩ := List.getElem_of_mem hin
    refine ⟨j, by rw [hll]; exact hj, ?_⟩
    rw [pairLists_getD hj, List.getD_eq_getElem?_getD, List.getElem?_eq_getElem hj, hj2]
    rfl

/-- The opener of the pair before. -/
def lastP (P : Nat → Nat) : Nat → Int
  | 0 => -1
  | k + 1 => (P k : Int)
end Go.Proofs.YtmaieenphcnefaaDoor
