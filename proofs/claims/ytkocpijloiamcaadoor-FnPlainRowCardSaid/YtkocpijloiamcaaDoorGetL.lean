/- validateLineBreaks, isWhitespace, (*paragraph).getLevels (rule L1). -/
import Derived.Test.YtkocpijloiamcaaDoorRsv
import Derived.Test.YtkocpijloiamcaaDoorMo
import Derived.Deep.LoopGhost
namespace Go.Proofs.YtkocpijloiamcaaDoor
open Go.RowKit
set_option linter.unusedVariables false
set_option linter.unusedSimpArgs false

def wsL : List Int := [18, 19, 16, 17, 20, 21, 22, 23, 24, 11, 9]
def wsX (x : Nat → Int) (i : Nat) : Bool := memB wsL (cls (x i))
def sepX (x : Nat → Int) (i : Nat) : Bool := memB [7, 8] (cls (x i))
/-- Does a separator among the first k take a place back to the level of the paragraph? -/
def e1 (x : Nat → Int) (k j : Nat) : Bool := decide (∃ i, i < k ∧ sepX x i = true ∧ j ≤ i ∧ ∀ t, t < i → j ≤ t → wsX x t = true)
/-- .. or the end of one of the first b lines? -/
def e2 (x : Nat → Int) (br : Nat → Nat) (b j : Nat) : Bool := decide (∃ l, l < b ∧ st br l ≤ j ∧ j < br l ∧ ∀ t, t < br l → j ≤ t → wsX x t = true)
def g1 (x fl : Nat → Int) (base : Int) (k j : Nat) : Int := if e1 x k j = true then base else fl j
def g2 (x fl : Nat → Int) (base : Int) (br : Nat → Nat) (N b j : Nat) : Int := if e2 x br b j = true then base else g1 x fl base N j
/-- While a separator's spaces are taken back, down to m. -/
def h1 (x fl : Nat → Int) (base : Int) (k m j : Nat) : Int := if m ≤ j ∧ j ≤ k then base else g1 x fl base k j
def h2 (x fl : Nat → Int) (base : Int) (br : Nat → Nat) (N b m j : Nat) : Int := if m ≤ j ∧ j < br b then base else g2 x fl base br N b j

section
variable {x fl : Nat → Int} {base : Int} {br : Nat → Nat} {N k m b : Nat}
theorem g1_zero {j : Nat} : g1 x fl base 0 j = fl j := if_neg (by unfold e1; rw [decide_eq_true_iff]; rintro ⟨i, h, _⟩; exact absurd h (Nat.not_lt_zero _))
theorem g1_no (h : sepX x k = false) (j : Nat) : g1 x fl base (k + 1) j = g1 x fl base k j := by
  unfold g1
  have : e1 x (k + 1) j = e1 x k j := by
    unfold e1
    rw [Bool.eq_iff_iff, decide_eq_true_iff, decide_eq_true_iff]
    constructor
    · rintro ⟨i, a, r⟩
      by_cases e : i = k
      · subst e; rw [h] at r; exact absurd r.1 (by decide)
      · exact ⟨i, by omega, r⟩
    · rintro ⟨i, a, r⟩; exact ⟨i, by omega, r⟩
  rw [this]
theorem h1_start (j : Nat) : h1 x fl base k k j = if j = k then base else g1 x fl base k j := by
  unfold h1
  by_cases e : j = k
  · rw [if_pos e, if_pos (by omega)]
  · rw [if_neg e, if_neg (by omega)]
theorem h1_step (hm : m + 1 ≤ k) (j : Nat) : h1 x fl base k m j = if j = m then base else h1 x fl base k (m + 1) j := by
  unfold h1
  by_cases e : j = m
  · rw [if_pos e, if_pos (by omega)]
  · rw [if_neg e]
    by_cases q : m + 1 ≤ j ∧ j ≤ k
    · rw [if_pos q, if_pos (by omega)]
    · rw [if_neg q, if_neg (by omega)]
theorem h1_end (hs : sepX x k = true) (hm : m ≤ k) (hw : ∀ t, m ≤ t → t < k → wsX x t = true) (he : m = 0 ∨ wsX x (m - 1) = false) (j : Nat) : h1 x fl base k m j = g1 x fl base (k + 1) j := by
  unfold h1 g1
  by_cases q : m ≤ j ∧ j ≤ k
  · rw [if_pos q, if_pos]
    unfold e1; rw [decide_eq_true_iff]
    exact ⟨k, by omega, hs, q.2, fun t a b => hw t (by omega) a⟩
  · rw [if_neg q]
    have : e1 x (k + 1) j = e1 x k j := by
      unfold e1
      rw [Bool.eq_iff_iff, decide_eq_true_iff, decide_eq_true_iff]
      constructor
      · rintro ⟨i, a, r1, r2, r3⟩
        by_cases e : i = k
        · subst e
          rcases he with he | he
          · exact absurd ⟨by omega, r2⟩ q
          · have hj : j < m := by
              apply Classical.byContradiction; intro z; exact q ⟨by omega, r2⟩
            have := r3 (m - 1) (by omega) (by omega)
            rw [he] at this; cases this
        · exact ⟨i, by omega, r1, r2, r3⟩
      · rintro ⟨i, a, r⟩; exact ⟨i, by omega, r⟩
    rw [this]
theorem g2_zero {j : Nat} : g2 x fl base br N 0 j = g1 x fl base N j := if_neg (by unfold e2; rw [decide_eq_true_iff]; rintro ⟨i, h, _⟩; exact absurd h (Nat.not_lt_zero _))
theorem h2_start (j : Nat) : h2 x fl base br N b (br b) j = g2 x fl base br N b j := if_neg (by omega)
theorem h2_step (hm : m + 1 ≤ br b) (j : Nat) : h2 x fl base br N b m j = if j = m then base else h2 x fl base br N b (m + 1) j := by
  unfold h2
  by_cases e : j = m
  · rw [if_pos e, if_pos (by omega)]
  · rw [if_neg e]
    by_cases q : m + 1 ≤ j ∧ j < br b
    · rw [if_pos q, if_pos (by omega)]
    · rw [if_neg q, if_neg (by omega)]
theorem h2_end (hm : st br b ≤ m) (hm2 : m ≤ br b) (hw : ∀ t, m ≤ t → t < br b → wsX x t = true) (he : m = st br b ∨ (0 < m ∧ wsX x (m - 1) = false)) (j : Nat) : h2 x fl base br N b m j = g2 x fl base br N (b + 1) j := by
  unfold h2 g2
  by_cases q : m ≤ j ∧ j < br b
  · rw [if_pos q, if_pos]
    unfold e2; rw [decide_eq_true_iff]
    exact ⟨b, by omega, by omega, q.2, fun t a c => hw t (by omega) a⟩
  · rw [if_neg q]
    have : e2 x br (b + 1) j = e2 x br b j := by
      unfold e2
      rw [Bool.eq_iff_iff, decide_eq_true_iff, decide_eq_true_iff]
      constructor
      · rintro ⟨l, a, r1, r2, r3⟩
        by_cases e : l = b
        · subst e
          rcases he with he | he
          · exact absurd ⟨by omega, r2⟩ q
          · have hj : j < m := by
              apply Classical.byContradiction; intro z; exact q ⟨by omega, r2⟩
            have := r3 (m - 1) (by omega) (by omega)
            rw [he.2] at this; cases this
        · exact ⟨l, by omega, r1, r2, r3⟩
      · rintro ⟨l, a, r⟩; exact ⟨l, by omega, r⟩
    rw [this]
end

set_option maxHeartbeats 1000000 in
theorem isWs_any (n : Int) (w : World) : Calls Tryd.prog 56 #[.int .u64 n] w fun e w' => e = .returned (.bool (memB wsL n)) ∧ w = w' := by
  by_cases h18 : n = 18
  · subst h18
    go_enter Tryd.func56, Tryd.ntmps56
    go_wp2_with fail
    go_ret
    exact ⟨rfl, rfl⟩
  have b18 : (n == 18) = false := beq_eq_false_iff_ne.2 h18
  by_cases h19 : n = 19
  · subst h19
    go_enter Tryd.func56, Tryd.ntmps56
    go_wp2_with fail
    go_ret
    exact ⟨rfl, rfl⟩
  have b19 : (n == 19) = false := beq_eq_false_iff_ne.2 h19
  by_cases h16 : n = 16
  · subst h16
    go_enter Tryd.func56, Tryd.ntmps56
    go_wp2_with fail
    go_ret
    exact ⟨rfl, rfl⟩
  have b16 : (n == 16) = false := beq_eq_false_iff_ne.2 h16
  by_cases h17 : n = 17
  · subst h17
    go_enter Tryd.func56, Tryd.ntmps56
    go_wp2_with fail
    go_ret
    exact ⟨rfl, rfl⟩
  have b17 : (n == 17) = false := beq_eq_false_iff_ne.2 h17
  by_cases h20 : n = 20
  · subst h20
    go_enter Tryd.func56, Tryd.ntmps56
    go_wp2_with fail
    go_ret
    exact ⟨rfl, rfl⟩
  have b20 : (n == 20) = false := beq_eq_false_iff_ne.2 h20
  by_cases h21 : n = 21
  · subst h21
    go_enter Tryd.func56, Tryd.ntmps56
    go_wp2_with fail
    go_ret
    exact ⟨rfl, rfl⟩
  have b21 : (n == 21) = false := beq_eq_false_iff_ne.2 h21
  by_cases h22 : n = 22
  · subst h22
    go_enter Tryd.func56, Tryd.ntmps56
    go_wp2_with fail
    go_ret
    exact ⟨rfl, rfl⟩
  have b22 : (n == 22) = false := beq_eq_false_iff_ne.2 h22
  by_cases h23 : n = 23
  · subst h23
    go_enter Tryd.func56, Tryd.ntmps56
    go_wp2_with fail
    go_ret
    exact ⟨rfl, rfl⟩
  have b23 : (n == 23) = false := beq_eq_false_iff_ne.2 h23
  by_cases h24 : n = 24
  · subst h24
    go_enter Tryd.func56, Tryd.ntmps56
    go_wp2_with fail
    go_ret
    exact ⟨rfl, rfl⟩
  have b24 : (n == 24) = false := beq_eq_false_iff_ne.2 h24
  by_cases h11 : n = 11
  · subst h11
    go_enter Tryd.func56, Tryd.ntmps56
    go_wp2_with fail
    go_ret
    exact ⟨rfl, rfl⟩
  have b11 : (n == 11) = false := beq_eq_false_iff_ne.2 h11
  by_cases h9 : n = 9
  · subst h9
    go_enter Tryd.func56, Tryd.ntmps56
    go_wp2_with fail
    go_ret
    exact ⟨rfl, rfl⟩
  have b9 : (n == 9) = false := beq_eq_false_iff_ne.2 h9
  have HE : memB wsL n = false := memB_not.2 (by
    unfold wsL
    simp only [List.mem_cons, List.not_mem_nil, or_false]
    omega)
  rw [HE]
  clear HE h18 h19 h16 h17 h20 h21 h22 h23 h24 h11 h9
  go_enter Tryd.func56, Tryd.ntmps56
  go_wp2_with fail
  go_ret
  exact ⟨rfl, rfl⟩
set_option maxHeartbeats 1000000 in
theorem valBrk_any {ao : Option Addr} {b o nb c n : Nat} {br : Nat → Nat} (w : World) (hnb : nb ≤ 8589934592) (hy : Sees w ao b o nb c (fun i => .int .i64 (br i : Int))) (hbr : Brk br nb n) :
    Calls Tryd.prog 54 #[.slice ao nb c, .int .i64 n] w fun e w' => e = .returned .nilIface ∧ w = w' := by
  have HB := Lib.hid hbr
  have hlast : st br nb = n := by unfold st; rw [if_neg (by have := hbr.pos; omega)]; exact hbr.last
  have HL := Lib.hid hlast
  clear hbr hlast
  go_enter Tryd.func54, Tryd.ntmps54
  go_wp2_with fail
  go_loopg [5, 7, 10] nb (fun g s _ i wr => ∃ k : Nat, k ≤ nb ∧ g = nb - k ∧ i = .int .i64 k ∧ s = .int .i64 (st br k : Nat) ∧ w = wr)
  case atStart => exact ⟨0, Nat.zero_le _, rfl, rfl, rfl, rfl⟩
  case round =>
    obtain ⟨k, hk, rfl, rfl, rfl, rfl⟩ := hrel
    by_cases hkn : k < nb
    · have hkz : (k : Int) < (nb : Int) := by omega
      obtain ⟨rfl, hc⟩ := hy.get hkn
      have hle := hy.le
      have h1 := HB.out.asc k hkn
      have h2 := st_succ br k
      obtain ⟨S, hS⟩ : ∃ S, S = st br k := ⟨_, rfl⟩
      obtain ⟨L, hL⟩ : ∃ L, L = br k := ⟨_, rfl⟩
      rw [← hS] at h1 ⊢
      rw [← hL] at h1 h2 hc
      have H2 := Lib.hid h2
      have hn : ¬ ((L : Int) ≤ (S : Int)) := by omega
      have hn2 : ¬ (L ≤ S) := by omega
      clear hS hL h2
      go_wp2_with fail
      go_roundg (nb - (k + 1))
      case rel => exact ⟨k + 1, by omega, rfl, by go_num, by rw [H2.out], rfl⟩
      case measure => omega
    · obtain rfl : k = nb := by omega
      rw [HL.out]
      have hnn : ((n : Int) != (n : Int)) = false := by simp
      go_wp2_with fail
      go_ret
      exact ⟨rfl, rfl⟩

/-- The levels while L1 turns them in place. -/
structure Gs (wA : World) (B q cap n : Nat) (F : Nat → Int) (wx : World) : Prop where
  kept : Kp (fun k => k = q) wA wx
  levels : Gr wx B 62 (.slice (some ⟨q, 0, none⟩) n cap) n (fun i => .int .i8 (F i))

section
variable {wA wx : World} {B q cap n : Nat} {F G : Nat → Int}
theorem Gs.congr (h : Gs wA B q cap n F wx) (e : ∀ i, F i = G i) : Gs wA B q cap n G wx := ⟨h.kept, h.levels.congr (fun i _ => by rw [e i])⟩
theorem Gs.set (h : Gs wA B q cap n F wx) (k : Nat) (v : Int) (e : ∀ i, G i = if i = k then v else F i) : Gs wA B q cap n G (wx.setCell ⟨q, k, none⟩ (.int .i8 v)) :=
  ⟨h.kept.setCell (a := ⟨q, k, none⟩) (.inl rfl) _, (h.levels.set k (.int .i8 v)).congr (fun i _ => by rw [e i]; split <;> rfl)⟩
theorem Gs.alloc (h : Gs wA B q cap n F wx) (o : Obj) : Gs wA B q cap n F (wx.alloc o) := ⟨h.kept.alloc o, h.levels.alloc o⟩
theorem Gs.drew (h : Gs wA B q cap n F wx) : Gs wA B q cap n F wx.drew := ⟨h.kept.drew, h.levels⟩
end

set_option maxHeartbeats 8000000 in
set_option maxRecDepth 100000 in
theorem getLevels_any {p b0 c0 R N : Nat} {base : Int} {x fl : Nat → Int} {ao : Option Addr} {b o nb c : Nat} {br : Nat → Nat} (w : World) (hN : N ≤ 4294967296) (h0 : 0 < N) (hnb : nb ≤ 4294967296)
    (p0 : w.cell? ⟨p, 0, none⟩ = some (.slice (some ⟨b0, 0, none⟩) N c0)) (p3 : w.cell? ⟨p, 3, none⟩ = some (.int .i8 base)) (p5 : w.cell? ⟨p, 5, none⟩ = some (.slice (some ⟨R, 0, none⟩) N N))
    (hx : Sees w (some ⟨b0, 0, none⟩) b0 0 N c0 (fun i => .int .u64 (cls (x i)))) (hl : w.rowIs R 62 N (fun i => .int .i8 (fl i))) (hy : Sees w ao b o nb c (fun i => .int .i64 (br i : Int))) (hbr : Brk br nb N) :
    Calls Tryd.prog 41 #[.pointer (some ⟨p, 0, none⟩), .slice ao nb c] w (RetSees w N (fun i => .int .i8 (g2 x fl base br N nb i))) := by
  have HB := Lib.hid hbr
  have HX := Lib.hid hx
  have HY := Lib.hid hy
  have hls := Sees.ofRow hl
  have hplt := World.block_lt_of_cell? _ _ p0
  have hlex := hx.le
  have hley := hy.le
  clear hx
  go_enter Tryd.func41, Tryd.ntmps41
  go_wp2_with fail
  refine (len_any _ p0).mono ?_
  rintro e w1 ⟨rfl, rfl⟩
  go_wp2_with fail
  refine (valBrk_any _ (by omega) hy HB.out).mono ?_
  rintro e w1 ⟨rfl, rfl⟩
  have gA := Gr.nil w w.heap.size 62 (fun _ => .int .i8 0)
  clear hy
  go_wp2_with (at_builtin; go_must (refine wpList_cat _ rfl _ _ 64 rfl w.heap.size 62 (.int .i8 0) 1 Tryd.underlying64 Tryd.infoLevel rfl _ _ _ rfl gA rfl hls (fun _ _ => rfl) (by omega) (by omega) (by omega) ?_))
  intro v2 w2 hg2 hgr2 _
  have hs12 : w.Since w.heap.size w2 := (World.Since.refl _ _).grown hgr2 (Nat.le_refl _) (by simp [Value.ownBlock])
  have hg2' : Gr w2 w.heap.size 62 v2 N (fun i => .int .i8 (fl i)) := by first | exact hg2 | (rw [Nat.zero_add] at hg2; exact hg2.congr fun i _ => by simp)
  obtain ⟨q, cap, rfl, hq⟩ := hg2'.form h0
  have HC := Lib.hid (show ∀ wx, Kp (fun k => k = q) w2 wx → wx.cell? ⟨p, 0, none⟩ = some (.slice (some ⟨b0, 0, none⟩) N c0) ∧ wx.cell? ⟨p, 3, none⟩ = some (.int .i8 base) from fun wx h =>
    ⟨h.cell ((hs12.cell hplt).trans p0) (by show p ≠ q; have : p < w.heap.size := hplt; omega), h.cell ((hs12.cell (a := ⟨p, 3, none⟩) hplt).trans p3) (by show p ≠ q; have : p < w.heap.size := hplt; omega)⟩)
  have HI := Lib.hid (show ∀ wx, Kp (fun k => k = q) w2 wx → Sees wx (some ⟨b0, 0, none⟩) b0 0 N c0 (fun i => .int .u64 (cls (x i))) from fun wx h => h.sees (HX.out.since hs12) (fun _ => by have := HX.out.lt h0; omega))
  have HYY := Lib.hid (show ∀ wx, Kp (fun k => k = q) w2 wx → Sees wx ao b o nb c (fun i => .int .i64 (br i : Int)) from fun wx h => h.sees (HY.out.since hs12) (fun h1 => by have := HY.out.lt h1; omega))
  have HST := Lib.hid (show Gs w2 w.heap.size q cap N (g1 x fl base 0) w2 from ⟨Kp.refl _ _, hg2'.congr (fun i _ => by rw [g1_zero])⟩)
  have HS12 := Lib.hid hs12
  clear gA hg2 hgr2 hs12 hg2' hls hl p0 p3 p5 HX HY
  obtain ⟨u0, u3⟩ := HC.out w2 (Kp.refl _ _)
  go_wp2_with fail
  clear u0 u3
  go_loopg [6, 7, 8, 27] N (fun g _ _ _ i wr => ∃ k : Nat, k ≤ N ∧ g = N - k ∧ i = .int .i64 k ∧ Hid (Gs w2 w.heap.size q cap N (g1 x fl base k) wr))
  case atStart => exact ⟨0, Nat.zero_le _, rfl, rfl, HST⟩
  case round =>
    clear HST
    obtain ⟨k, hk, rfl, rfl, HA⟩ := hrel
    by_cases hkn : k < N
    · have hkz : (k : Int) < (N : Int) := by omega
      obtain ⟨u0, u3⟩ := HC.out _ HA.out.kept
      obtain ⟨_, u4⟩ := (HI.out _ HA.out.kept).get hkn
      rw [Nat.zero_add] at u4
      have hh := heap_alloc_new wr (.cells #[.int .u64 7, .int .u64 8] 67)
      have HH := Lib.hid hh
      have hA2 := HA.out.alloc (.cells #[.int .u64 7, .int .u64 8] 67)
      have HA2 := Lib.hid hA2
      clear hh hA2
      obtain ⟨C, hC⟩ : ∃ C, C = cls (x k) := ⟨_, rfl⟩
      have hmem : memB [7, 8] C = sepX x k := by rw [hC]; rfl
      rw [← hC] at u4
      clear hC
      go_wp2_with fail
      refine (in_any [7, 8] C _ (by decide) HH.out).mono ?_
      rintro e w3 ⟨rfl, rfl⟩
      rw [hmem]
      cases hs : sepX x k with
      | false =>
        have HG := Lib.hid (HA2.out.congr (fun j => (g1_no (fl := fl) (base := base) hs j).symm))
        clear hmem
        go_wp2_with fail
        go_roundg (N - (k + 1))
        case rel => exact ⟨k + 1, by omega, rfl, by go_num, HG⟩
        case measure => omega
      | true =>
        have HSE := Lib.hid hs
        clear hmem hs HH u0 u3 u4 HA
        have hA3 := HA2.out
        generalize World.alloc _ _ = wz at hA3 ⊢
        clear HA2
        obtain ⟨u0, u3⟩ := HC.out _ hA3.kept
        have z1 := hA3.levels.frozen k
        have y1 := hA3.levels.cell hkn
        have HA4 := Lib.hid (hA3.set k base (G := h1 x fl base k k) (fun j => h1_start j))
        clear hA3
        go_wp2_with fail
        go_loopg [8] k (fun g i wr => ∃ m : Nat, m ≤ k ∧ Hid (g = m) ∧ i = .int .i64 ((m : Int) - 1) ∧ Hid (∀ t, m ≤ t → t < k → wsX x t = true) ∧ Hid (Gs w2 w.heap.size q cap N (h1 x fl base k m) wr))
        case atStart => exact ⟨k, Nat.le_refl _, rfl, rfl, fun t a c => absurd c (by omega), HA4⟩
        case round =>
          clear HA4 u0 u3 z1 y1
          rename World => wo
          obtain ⟨m, hm, HGM, rfl, HW, HA⟩ := hrel
          obtain ⟨u0, u3⟩ := HC.out _ HA.out.kept
          cases m with
          | zero =>
            have HG := Lib.hid (HA.out.congr (fun j => h1_end (fl := fl) (base := base) HSE.out (Nat.zero_le _) HW.out (.inl rfl) j))
            clear HA
            go_wp2_with fail
            go_roundg (N - (k + 1))
            case rel => exact ⟨k + 1, by omega, rfl, by go_num, HG⟩
            case measure => omega
          | succ m =>
            have hmn : m < N := by omega
            have hmz : (m : Int) < (N : Int) := by omega
            have hme : ((m + 1 : Nat) : Int) - 1 = (m : Int) := by omega
            rw [hme]
            have hge : (0 : Int) ≤ (m : Int) := by omega
            obtain ⟨_, u4⟩ := (HI.out _ HA.out.kept).get hmn
            rw [Nat.zero_add] at u4
            have z1 := HA.out.levels.frozen m
            have y1 := HA.out.levels.cell hmn
            obtain ⟨C, hC⟩ : ∃ C, C = cls (x m) := ⟨_, rfl⟩
            have hws : memB wsL C = wsX x m := by rw [hC]; rfl
            rw [← hC] at u4
            clear hC
            go_wp2_with fail
            refine (isWs_any C _).mono ?_
            rintro e w3 ⟨rfl, rfl⟩
            rw [hws]
            cases hs : wsX x m with
            | false =>
              have HG := Lib.hid (HA.out.congr (fun j => h1_end (fl := fl) (base := base) HSE.out hm HW.out (.inr (by rw [Nat.add_sub_cancel]; exact hs)) j))
              clear HA hws hs
              go_wp2_with fail
              go_roundg (N - (k + 1))
              case rel => exact ⟨k + 1, by omega, rfl, by go_num, HG⟩
              case measure => omega
            | true =>
              have HG := Lib.hid (HA.out.set m base (G := h1 x fl base k m) (fun j => h1_step hm j))
              have HW2 : Hid (∀ t, m ≤ t → t < k → wsX x t = true) := fun t a c => by
                by_cases e : t = m
                · rw [e]; exact hs
                · exact HW.out t (by omega) c
              clear HA hws hs HW
              go_wp2_with fail
              go_roundg m
              case rel => exact ⟨m, by omega, rfl, by go_num, HW2, HG⟩
              case measure => have := HGM.out; omega
    · obtain rfl : k = N := by omega
      have HA1 := Lib.hid (HA.out.congr (G := g2 x fl base br k 0) (fun j => g2_zero.symm))
      clear HA
      go_wp2_with fail
      go_loopg [9, 11, 12, 66] nb (fun g s _ _ i wr => ∃ l : Nat, l ≤ nb ∧ g = nb - l ∧ i = .int .i64 l ∧ s = .int .i64 (st br l : Nat) ∧ Hid (Gs w2 w.heap.size q cap k (g2 x fl base br k l) wr))
      case atStart => exact ⟨0, Nat.zero_le _, rfl, rfl, rfl, HA1⟩
      case round =>
        clear HA1
        rename World => wo
        obtain ⟨l, hl, rfl, rfl, rfl, HA⟩ := hrel
        by_cases hln : l < nb
        · have hlz : (l : Int) < (nb : Int) := by omega
          obtain ⟨rfl, u5⟩ := (HYY.out _ HA.out.kept).get hln
          have hasc := HB.out.asc l hln
          have hle := HB.out.le l hln
          have HSU := Lib.hid (st_succ br l)
          have HA2 := Lib.hid (HA.out.congr (G := h2 x fl base br k l (br l)) (fun j => (h2_start j).symm))
          obtain ⟨S, hS⟩ : ∃ S, S = st br l := ⟨_, rfl⟩
          have HS := Lib.hid hS
          rw [← hS] at hasc ⊢
          obtain ⟨L, hL⟩ : ∃ L, L = br l := ⟨_, rfl⟩
          have HLL := Lib.hid hL
          rw [← hL] at hasc hle u5 HSU HA2
          clear hS hL HA
          go_wp2_with fail
          go_loopg [12] (L - S) (fun g i wr => ∃ m : Nat, S ≤ m ∧ m ≤ L ∧ g = m - S ∧ i = .int .i64 ((m : Int) - 1) ∧ Hid (∀ t, m ≤ t → t < L → wsX x t = true) ∧ Hid (Gs w2 w.heap.size q cap k (h2 x fl base br k l m) wr))
          case atStart => exact ⟨L, by omega, Nat.le_refl _, rfl, rfl, fun t a c => absurd c (by omega), HA2⟩
          case round =>
            clear HA2 u5
            rename World => wi
            obtain ⟨m, hm1, hm2, rfl, rfl, HW, HA⟩ := hrel
            obtain ⟨u0, u3⟩ := HC.out _ HA.out.kept
            by_cases hmS : m = S
            · have HG := Lib.hid (HA.out.congr (G := g2 x fl base br k (l + 1)) (fun j => h2_end (fl := fl) (base := base) (by rw [← HS.out]; exact hm1) (by rw [← HLL.out]; exact hm2) (fun t a c => HW.out t a (by rw [HLL.out]; exact c)) (.inl (by rw [← HS.out]; exact hmS)) j))
              have hlt : ¬ ((S : Int) ≤ (m : Int) - 1) := by omega
              clear HA
              go_wp2_with fail
              go_roundg (nb - (l + 1))
              case rel => exact ⟨l + 1, by omega, rfl, by go_num, by rw [HSU.out], HG⟩
              case measure => omega
            · obtain ⟨m, rfl⟩ : ∃ m', m = m' + 1 := ⟨m - 1, by omega⟩
              have hmn : m < k := by omega
              have hmz : (m : Int) < (k : Int) := by omega
              have hme : ((m + 1 : Nat) : Int) - 1 = (m : Int) := by omega
              rw [hme]
              have hge : (S : Int) ≤ (m : Int) := by omega
              obtain ⟨_, u4⟩ := (HI.out _ HA.out.kept).get hmn
              rw [Nat.zero_add] at u4
              have z1 := HA.out.levels.frozen m
              have y1 := HA.out.levels.cell hmn
              obtain ⟨C, hC⟩ : ∃ C, C = cls (x m) := ⟨_, rfl⟩
              have hws : memB wsL C = wsX x m := by rw [hC]; rfl
              rw [← hC] at u4
              clear hC
              go_wp2_with fail
              refine (isWs_any C _).mono ?_
              rintro e w3 ⟨rfl, rfl⟩
              rw [hws]
              cases hs : wsX x m with
              | false =>
                have HG := Lib.hid (HA.out.congr (G := g2 x fl base br k (l + 1)) (fun j => h2_end (fl := fl) (base := base) (by rw [← HS.out]; exact hm1) (by rw [← HLL.out]; exact hm2) (fun t a c => HW.out t a (by rw [HLL.out]; exact c)) (.inr ⟨by omega, by rw [Nat.add_sub_cancel]; exact hs⟩) j))
                clear HA hws hs
                go_wp2_with fail
                go_roundg (nb - (l + 1))
                case rel => exact ⟨l + 1, by omega, rfl, by go_num, by rw [HSU.out], HG⟩
                case measure => omega
              | true =>
                have HG := Lib.hid (HA.out.set m base (G := h2 x fl base br k l m) (fun j => h2_step (by rw [← HLL.out]; exact hm2) j))
                have HW2 : Hid (∀ t, m ≤ t → t < L → wsX x t = true) := fun t a c => by
                  by_cases e : t = m
                  · rw [e]; exact hs
                  · exact HW.out t (by omega) c
                clear HA hws hs HW
                go_wp2_with fail
                go_roundg (m - S)
                case rel => exact ⟨m, by omega, by omega, rfl, by go_num, HW2, HG⟩
                case measure => omega
        · obtain rfl : l = nb := by omega
          go_wp2_with fail
          go_ret
          exact ⟨_, q, 0, _, rfl, HA.out.levels.sees' h0, hq, since_kp HS12.out HA.out.kept HS12.out.size (fun k hk => by rw [hk]; exact hq)⟩
end Go.Proofs.YtkocpijloiamcaaDoor
