/- The kept places of a text as a list. No program in sight. -/
import Derived.Test.YtkocpijloiamcaaDoorJnB
import Derived.Test.YtkocpijloiamcaaDoorTakeA
import Derived.Test.YtkocpijloiamcaaDoorCase
namespace Go.Proofs.YtkocpijloiamcaaDoor
set_option linter.unusedVariables false

def kl (x : Nat → Int) : Nat → List Nat
  | 0 => []
  | k + 1 => if x k = 11 then kl x k else kl x k ++ [k]

section
variable {x : Nat → Int}
theorem kl_len : ∀ k, (kl x k).length = kp x k
  | 0 => rfl
  | k + 1 => by
    rw [kl]
    by_cases e : x k = 11
    · rw [if_pos e, kp_bn e]; exact kl_len k
    · rw [if_neg e, kp_up e, List.length_append, kl_len k]; rfl
theorem kl_at : ∀ k t, t < kp x k → (kl x k).getD t 0 < k ∧ x ((kl x k).getD t 0) ≠ 11 ∧ kp x ((kl x k).getD t 0) = t
  | 0, t, h => absurd h (Nat.not_lt_zero _)
  | k + 1, t, h => by
    rw [kl]
    by_cases e : x k = 11
    · rw [if_pos e]
      rw [kp_bn e] at h
      have := kl_at k t h
      exact ⟨by omega, this.2⟩
    · rw [if_neg e]
      rw [kp_up e] at h
      by_cases et : t < kp x k
      · rw [getD_app_left (by rw [kl_len]; exact et)]
        have := kl_at k t et
        exact ⟨by omega, this.2⟩
      · have e2 : t = kp x k := by omega
        rw [getD_app_right (by rw [kl_len]; omega), kl_len, e2, Nat.sub_self]
        exact ⟨by show k < k + 1; omega, e, rfl⟩

theorem kp_le : ∀ k, kp x k ≤ k
  | 0 => Nat.le_refl _
  | k + 1 => by have := kp_le k; rw [kp]; split <;> omega

/-- The place of a kept character, n behind the last one. -/
def phi (x : Nat → Int) (n j : Nat) : Nat := if j < kp x n then (kl x n).getD j 0 else n

variable {n : Nat}
theorem phi_lt {j : Nat} (h : j < kp x n) : phi x n j < n ∧ x (phi x n j) ≠ 11 ∧ kp x (phi x n j) = j := by
  unfold phi; rw [if_pos h]; exact kl_at n j h
theorem phi_kp {i : Nat} (hi : i < n) (e : x i ≠ 11) : phi x n (kp x i) = i := by
  have h := phi_lt (x := x) (n := n) (kp_lt hi e)
  exact kp_inj h.2.1 e h.2.2
theorem phi_end : phi x n (kp x n) = n := if_neg (Nat.lt_irrefl _)

theorem less_phi : Less x (fun j => x (phi x n j)) n := ⟨fun i hi e => by show x (phi x n (kp x i)) = x i; rw [phi_kp hi e]⟩

theorem phi_b7 (hB : ∀ i, i < n → x i = 7 → n ≤ i + 1) : ∀ j, j < kp x n → x (phi x n j) = 7 → kp x n ≤ j + 1 := fun j hj h => by
  obtain ⟨a, b, c⟩ := phi_lt hj
  have h1 := hB _ a h
  have h2 : n = phi x n j + 1 := by omega
  rw [← c, ← kp_up b, ← h2]
  exact Nat.le_refl _

theorem baseP_less {g : Int} : baseP (fun j => x (phi x n j)) (kp x n) g = baseP x n g := less_phi.base g
end
end Go.Proofs.YtkocpijloiamcaaDoor
