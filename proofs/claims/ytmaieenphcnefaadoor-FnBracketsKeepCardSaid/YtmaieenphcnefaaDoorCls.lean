/- Classes by their numbers: the numbers 0 to 22 of the thin package and the values of the package. No program in sight. -/
namespace Go.Proofs.YtmaieenphcnefaaDoor

/-- The class with a number; ON for a number that is none. -/
def cls (n : Int) : Int := if n < 0 ∨ 23 ≤ n then 10 else if n ≤ 13 then n else n + 2

/-- Is a value one of a list? -/
def memB (l : List Int) (c : Int) : Bool := l.contains c

theorem memB_iff {l : List Int} {c : Int} : memB l c = true ↔ c ∈ l := by unfold memB; simp
theorem memB_not {l : List Int} {c : Int} : memB l c = false ↔ ¬ c ∈ l := by unfold memB; simp

def iniB (n : Int) : Bool := decide (n = 19 ∨ n = 20 ∨ n = 21)
def pdiB (n : Int) : Bool := decide (n = 22)
def clsOk (n : Int) : Prop := 0 ≤ n ∧ n < 23

theorem cls_ini {n : Int} (h : clsOk n) : memB [21, 22, 23] (cls n) = iniB n := by
  unfold clsOk at h
  rw [Bool.eq_iff_iff, memB_iff]
  unfold iniB cls
  rw [if_neg (by omega), decide_eq_true_eq]
  simp only [List.mem_cons, List.not_mem_nil, or_false]
  split <;> omega

theorem cls_pdi {n : Int} (h : clsOk n) : (cls n == 24) = pdiB n := by
  unfold clsOk at h
  rw [Bool.eq_iff_iff]
  unfold pdiB cls
  rw [if_neg (by omega), decide_eq_true_eq, beq_iff_eq]
  split <;> omega

theorem cls_range (n : Int) : 0 ≤ cls n ∧ cls n ≤ 24 := by
  unfold cls
  split
  · omega
  · split <;> omega

/-- A paragraph: classes, at least one, B nowhere but at its end. -/
def paraB (n : Nat) (x : Nat → Int) : Bool := decide (0 < n ∧ ∀ i, i < n → 0 ≤ x i ∧ x i < 23 ∧ (x i = 7 → n ≤ i + 1))

end Go.Proofs.YtmaieenphcnefaaDoor
