/- FnPlainRow and what its walk calls. -/
import Derived.Test.YtkocpijloiamcaaDoorLns
import Derived.Test.YtkocpijloiamcaaDoorJn1
import Derived.Test.YtkocpijloiamcaaDoorMkd
import Derived.Test.YtkocpijloiamcaaDoorOrd2
namespace Go.Proofs.YtkocpijloiamcaaDoor
open Lib
set_option linter.unusedVariables false

def wantQ (base : Int) (n i : Nat) : Int := ((if base = 1 then n - 1 - i else i : Nat) : Int)
def baseQ (n : Int) : Bool := (n == 0 || n == 1)
theorem baseQ_iff {n : Int} : baseQ n = true ↔ n = 0 ∨ n = 1 := by unfold baseQ; simp
theorem isBase_q (n : Int) (w : World) : Calls Tryd.prog 10 #[.int .i64 n] w fun e w' => e = .returned (.bool (baseQ n)) ∧ w = w' := by
  by_cases h0 : n = 0
  · subst h0
    go_enter Tryd.func10, Tryd.ntmps10
    go_wp2
    go_ret
    exact ⟨rfl, rfl⟩
  · by_cases h1 : n = 1
    · subst h1
      go_enter Tryd.func10, Tryd.ntmps10
      go_wp2
      go_ret
      exact ⟨rfl, rfl⟩
    · go_enter Tryd.func10, Tryd.ntmps10
      go_wp2
      go_ret
      exact ⟨rfl, rfl⟩

section
variable {x fs : Nat → Int} {base : Int}
def quietQ (x : Nat → Int) (i : Nat) : Prop := x i = 0 ∨ x i = 1 ∨ (7 ≤ x i ∧ x i ≤ 10) ∨ x i = 12

theorem mst_row : ∀ n, (∀ i, i < n → quietQ x i) → mst x fs base n = Mst.start base
  | 0, _ => rfl
  | n + 1, h => by
    have ih := mst_row n (fun i hi => h i (by omega))
    have hn : x n = 0 ∨ x n = 1 ∨ (7 ≤ x n ∧ x n ≤ 10) ∨ x n = 12 := h n (by omega)
    show (mst x fs base n).step (x n) (fs n) = _
    rw [ih]
    unfold Mst.step
    rw [if_neg (by omega), if_neg (by omega), if_neg (by omega), if_neg (by omega)]
    split
    · rfl
    · rw [if_neg (by omega), if_neg (by omega), if_neg (by omega)]
      split <;> rfl

theorem row_at {i : Nat} (h : ∀ j, j < i + 1 → quietQ x j) : tI x fs base i = x i ∧ lvl x fs base i = base := by
  have hm := mst_row (x := x) (fs := fs) (base := base) i (fun j hj => h j (by omega))
  refine ⟨?_, ?_⟩
  · unfold tI
    split
    · rfl
    · rw [hm]; rfl
  · unfold lvl
    rw [hm]
    split
    · rfl
    · split <;> rfl
end

section
variable {x kd vl : Nat → Int} {base : Int} {n : Nat} {ft fl : Nat → Int}
/-- A text of letters of one side, and neutral characters: one level. -/
theorem row_flat (hb : base = 0 ∨ base = 1) (hB : ∀ i, i < n → x i = 7 → n ≤ i + 1) (hkd : ∀ j, kd j = 0) (h : Done x kd vl base n ft fl) (hx : ∀ i, i < n → x i = base ∨ (7 ≤ x i ∧ x i ≤ 10) ∨ x i = 12) {i : Nat} (hi : i < n) : fl i = base := by
  have hq : ∀ j, j < n → quietQ x j := fun j hj => by have := hx j hj; unfold quietQ; omega
  have hr : ∀ j, j < n → remN (x j) = false := fun j hj => by have := hx j hj; unfold remN; exact decide_eq_false (by omega)
  obtain ⟨l, t, hl, ht, e, _, e2⟩ := h.at_ hb hB hi (hr i hi)
  have hc := chs_ok (x := x) (n := n) hb hB
  have hlt : ∀ j, j < l.length → l.getD j 0 < n := fun j hj => (hc.mem l hl _ (getD_mem0 hj)).1
  have hv : ∀ j, j < n → LVP x base n j = base := fun j hj => by
    unfold LVP
    rw [lvR_of (hr j hj)]
    exact (row_at (fun k hk => hq k (by omega))).2
  have ht' : ∀ j, j < n → CTP x base n j = cls (x j) := fun j hj => by
    unfold CTP
    rw [(row_at (fun k hk => hq k (by omega))).1]
  have hV : sqV x base n l = base := hv _ (hlt 0 (by omega))
  have hhd : hd l < n := hlt 0 (by omega)
  have hbef : ∀ k, k ≤ n → lastL (LVP x base n) k = -1 ∨ lastL (LVP x base n) k = base := by
    intro k
    induction k with
    | zero => intro _; exact .inl rfl
    | succ k ih =>
      intro hk
      rw [lastL]
      split
      · exact ih (by omega)
      · exact .inr (hv k (by omega))
  have haft : ∀ f k, k + f = n → aftL (LVP x base n) base f k = base := by
    intro f
    induction f with
    | zero => intro k _; rfl
    | succ f ih =>
      intro k hk
      rw [aftL, hv k (by omega), if_neg (by omega)]
  have hS : sqS x base n l = base := by
    have hbf : befL (LVP x base n) base (hd l) = base := by
      unfold befL
      rcases hbef (hd l) (by omega) with q | q
      · rw [if_pos q]
      · rw [if_neg (by omega)]; exact q
    unfold sqS dirN
    rw [hbf, hV, Int.max_self]
    omega
  have hE : sqE x base n l = base := by
    have hls : lst0 l < n := hlt (l.length - 1) (by omega)
    have hes : eosL (LVP x base n) (CTP x base n) base n (lst0 l) = base := by
      unfold eosL
      split
      · rfl
      · exact haft _ _ (by omega)
    unfold sqE dirN
    rw [hes, hV, Int.max_self]
    omega
  have hT : sqT x kd vl base n l t = base := by
    unfold sqT
    rw [hS, hE]
    refine resT_row (fun j => hkd _) hb rfl (fun j hj => ?_) ht
    have h1 := hx _ (hlt j hj)
    unfold sqC
    rw [if_pos hj, ht' _ (hlt j hj)]
    unfold cls
    omega
  rw [e2, hV, hT]
  unfold imp
  rcases hb with rfl | rfl <;> decide

/-- Its order on one line. -/
theorem row_order {lv : Nat → Int} (hb : base = 0 ∨ base = 1) (hlv : ∀ i, i < n → lv i = base) {p : Nat} (hp : p < n) : mo lv (fun _ => n) 1 p = if base = 1 then n - 1 - p else p := by
  obtain ⟨b, rfl⟩ := Int.eq_ofNat_of_zero_le (show 0 ≤ base by omega)
  have h := Ord.U_one (lv := fun i => lv (0 + i)) (n := n) (l := b) (fun i hi => by show lv (0 + i) = _; rw [Nat.zero_add]; exact hlv i hi) (by omega) hp
  show mo2 (mo lv (fun _ => n) 0) lv (st (fun _ => n) 0) (n - st (fun _ => n) 0) (n - st (fun _ => n) 0) p = _
  rw [st_zero]
  unfold mo2
  rw [if_pos (by omega)]
  show 0 + Ord.U (fun i => lv (0 + i)) n 126 p = _
  rw [h, Nat.zero_add]
  unfold Ord.flat
  rcases hb with q | q
  · rw [if_pos (by omega), if_neg (by omega)]
  · rw [if_neg (by omega), if_pos (by omega)]
end
end Go.Proofs.YtkocpijloiamcaaDoor
