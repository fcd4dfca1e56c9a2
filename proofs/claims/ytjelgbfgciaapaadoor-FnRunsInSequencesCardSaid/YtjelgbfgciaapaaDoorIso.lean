/- BD9 in plain Lean: the matching PDI of an isolate initiator, over two rows of Booleans (initiator? PDI?). No program in sight. -/
namespace Go.Proofs.YtjelgbfgciaapaaDoor
variable (ini pdi : Nat → Bool) (n : Nat)

/-- From place j on, at a depth: the place at which the depth falls to 0, n if there is none. The first number bounds the places that are left. -/
def scan : Nat → Nat → Nat → Nat
  | 0, _, _ => n
  | f + 1, j, d => if ini j = true then scan f (j + 1) (d + 1) else if pdi j = true then (if d = 1 then j else scan f (j + 1) (d - 1)) else scan f (j + 1) d

def mat (i : Nat) : Nat := scan ini pdi n (n - (i + 1)) (i + 1) 1

/-- What the list of matching PDIs holds. -/
def mt (i : Nat) : Int := if ini i = true then (mat ini pdi n i : Int) else -1

/-- What the list of matching initiators holds behind the first k places. -/
def bg : Nat → Nat → Int
  | 0, _ => -1
  | k + 1, j => if ini k = true ∧ mat ini pdi n k < n ∧ j = mat ini pdi n k then (k : Int) else bg k j

variable {ini pdi : Nat → Bool} {n : Nat}

theorem scan_ini {f j d : Nat} (h : ini j = true) : scan ini pdi n (f + 1) j d = scan ini pdi n f (j + 1) (d + 1) := by rw [scan, if_pos h]
theorem scan_pdi {f j d : Nat} (h : ini j = false) (hp : pdi j = true) (hd : d ≠ 1) : scan ini pdi n (f + 1) j d = scan ini pdi n f (j + 1) (d - 1) := by
  rw [scan, if_neg (by rw [h]; decide), if_pos hp, if_neg hd]
theorem scan_hit {f j : Nat} (h : ini j = false) (hp : pdi j = true) : scan ini pdi n (f + 1) j 1 = j := by
  rw [scan, if_neg (by rw [h]; decide), if_pos hp, if_pos rfl]
theorem scan_other {f j d : Nat} (h : ini j = false) (hp : pdi j = false) : scan ini pdi n (f + 1) j d = scan ini pdi n f (j + 1) d := by
  rw [scan, if_neg (by rw [h]; decide), if_neg (by rw [hp]; decide)]
theorem scan_none (j d : Nat) : scan ini pdi n 0 j d = n := rfl

theorem scan_ge : ∀ f j d, j + f ≤ n → j ≤ scan ini pdi n f j d
  | 0, j, d, h => by simpa [scan] using h
  | f + 1, j, d, h => by
    have a := fun d => scan_ge f (j + 1) d (by omega)
    rw [scan]
    split
    · have := a (d + 1); omega
    · split
      · split
        · omega
        · have := a (d - 1); omega
      · have := a d; omega

theorem scan_le : ∀ f j d, j + f ≤ n → scan ini pdi n f j d ≤ n
  | 0, _, _, _ => Nat.le_refl _
  | f + 1, j, d, h => by
    have a := fun d => scan_le f (j + 1) d (by omega)
    rw [scan]
    split
    · exact a _
    · split
      · split
        · omega
        · exact a _
      · exact a _

theorem mat_gt {i : Nat} (hi : i < n) : i < mat ini pdi n i := by
  have := scan_ge (ini := ini) (pdi := pdi) (n := n) (n - (i + 1)) (i + 1) 1 (by omega)
  unfold mat; omega

theorem mat_le {i : Nat} (hi : i < n) : mat ini pdi n i ≤ n := scan_le _ _ _ (by omega)

theorem mt_ini {i : Nat} (h : ini i = true) : mt ini pdi n i = (mat ini pdi n i : Int) := if_pos h
theorem mt_not {i : Nat} (h : ini i = false) : mt ini pdi n i = -1 := if_neg (by rw [h]; decide)

theorem bg_not {k : Nat} (h : ini k = false) (j : Nat) : bg ini pdi n (k + 1) j = bg ini pdi n k j := by rw [bg, if_neg (by rw [h]; simp)]
theorem bg_none {k : Nat} (h : mat ini pdi n k = n) (j : Nat) : bg ini pdi n (k + 1) j = bg ini pdi n k j := by rw [bg, if_neg (by rw [h]; omega)]
theorem bg_hit {k q : Nat} (h : ini k = true) (hm : mat ini pdi n k = q) (hq : q < n) (j : Nat) : bg ini pdi n (k + 1) j = if j = q then (k : Int) else bg ini pdi n k j := by
  rw [bg, hm]
  by_cases e : j = q
  · rw [if_pos ⟨h, hq, e⟩, if_pos e]
  · rw [if_neg (fun x => e x.2.2), if_neg e]

/-- Rows that agree below n give the same. -/
theorem scan_congr {ini' pdi' : Nat → Bool} (h1 : ∀ i, i < n → ini i = ini' i) (h2 : ∀ i, i < n → pdi i = pdi' i) : ∀ f j d, j + f ≤ n → scan ini pdi n f j d = scan ini' pdi' n f j d
  | 0, _, _, _ => rfl
  | f + 1, j, d, h => by
    have a := fun d => scan_congr h1 h2 f (j + 1) d (by omega)
    rw [scan, scan, h1 j (by omega), h2 j (by omega), a, a, a]

theorem mat_congr {ini' pdi' : Nat → Bool} (h1 : ∀ i, i < n → ini i = ini' i) (h2 : ∀ i, i < n → pdi i = pdi' i) {i : Nat} (hi : i < n) : mat ini pdi n i = mat ini' pdi' n i := scan_congr h1 h2 _ _ _ (by omega)

theorem mt_congr {ini' pdi' : Nat → Bool} (h1 : ∀ i, i < n → ini i = ini' i) (h2 : ∀ i, i < n → pdi i = pdi' i) {i : Nat} (hi : i < n) : mt ini pdi n i = mt ini' pdi' n i := by
  unfold mt; rw [h1 i hi, mat_congr h1 h2 hi]

theorem bg_congr {ini' pdi' : Nat → Bool} (h1 : ∀ i, i < n → ini i = ini' i) (h2 : ∀ i, i < n → pdi i = pdi' i) : ∀ k, k ≤ n → ∀ j, bg ini pdi n k j = bg ini' pdi' n k j
  | 0, _, _ => rfl
  | k + 1, hk, j => by rw [bg, bg, bg_congr h1 h2 k (by omega), mat_congr h1 h2 (by omega), h1 k (by omega)]

end Go.Proofs.YtjelgbfgciaapaaDoor
