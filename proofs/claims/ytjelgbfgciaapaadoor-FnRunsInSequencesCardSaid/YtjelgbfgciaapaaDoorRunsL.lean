/- bidi.LevelRuns, impl.LevelRuns, spec.SameLists. -/
import Derived.Test.YtjelgbfgciaapaaDoorExpl
import Derived.Test.YtjelgbfgciaapaaDoorRunsI
import Derived.Test.YtjelgbfgciaapaaDoorRunsP
import Derived.Test.YtjelgbfgciaapaaDoorLawX
import Derived.Test.YtjelgbfgciaapaaDoorSame
import Derived.Test.YtjelgbfgciaapaaDoorCopy
namespace Go.Proofs.YtjelgbfgciaapaaDoor
open Go.RowKit
set_option linter.unusedVariables false

theorem LL.base {w : World} {base base' : Nat} {v : Value} {R : List (List Nat)} (h : LL w base v R) (hb : base' ≤ base) : LL w base' v R := by
  obtain ⟨f, h1, h2, h3, h4⟩ := h
  exact ⟨f, h1.base hb, fun j hj => (h2 j hj).base hb, h3, h4⟩

theorem RetLL.trans {w w1 : World} {R : List (List Nat)} {e : Ending} {w' : World} (s : w.Since w.heap.size w1) (h : RetLL w1 R e w') : RetLL w R e w' := by
  obtain ⟨v, he, hl, hs⟩ := h
  exact ⟨v, he, hl.base s.size, since2 s hs⟩

theorem lvS_range {x : Nat → Int} {fs : Nat → Int} {base : Int} (hb : base = 0 ∨ base = 1) (i : Nat) : -1 ≤ lvS x fs base i ∧ lvS x fs base i ≤ 125 := by
  unfold lvS
  split
  · omega
  · have := lvl_range (x := x) (fs := fs) (base := base) (by omega) (by omega) i; omega

set_option maxHeartbeats 1000000 in
theorem bidiLevelRuns_any {ao : Option Addr} {b o n cc : Nat} {base : Int} {x : Nat → Int} (w : World) (hn : n ≤ 4294967296) (h0 : 0 < n) (hb : base = 0 ∨ base = 1) (hok : ∀ i, i < n → clsOk (x i)) (hB : ∀ i, i < n → x i = 7 → n ≤ i + 1)
    (hx : Sees w ao b o n cc (fun i => .int .u64 (cls (x i)))) :
    Calls Tryd.prog 36 #[.slice ao n cc, .int .i8 base] w (RetLL w (runs (lvS x (fsI n x) base) n)) := by
  have HOK := Lib.hid hok
  have HB := Lib.hid hB
  have HBB := Lib.hid hb
  clear hok hB hb
  go_enter Tryd.func36, Tryd.ntmps36
  go_wp2_with fail
  refine (explicit_any _ hn h0 HBB.out HOK.out HB.out hx).mono ?_
  rintro e w1 ⟨p, b0, T, R, N6, N7, c0, capT, cl, rfl, hX⟩
  have k0 : w1.cell? ⟨p, 0, none⟩ = some (.slice (some ⟨b0, 0, none⟩) n c0) := hX.para.cell (by omega)
  have k5 : w1.cell? ⟨p, 5, none⟩ = some (.slice (some ⟨R, 0, none⟩) n n) := hX.para.cell (by omega)
  have HR := Lib.hid (dlr_any (lv := lvS x (fsI n x) base) w1 hn h0 k0 k5 hX.init hX.levels HOK.out (fun i hi => by
    unfold lvS
    by_cases h : remN (x i) = true
    · rw [if_pos h, if_pos h]
    · rw [if_neg h, if_neg h, hX.lev i hi (by simpa using h)]) (fun i _ => lvS_range HBB.out i) (fun i _ hr => by
    rw [lvS_of hr]
    have := lvl_range (x := x) (fs := fsI n x) (base := base) (by have := HBB.out; omega) (by have := HBB.out; omega) i
    have := HBB.out
    omega))
  have hs := hX.since
  clear hX k0 k5
  go_wp2_with fail
  refine HR.out.mono ?_
  rintro e w2 ⟨v, rfl, hl, hs2⟩
  obtain ⟨ao2, c2, rfl⟩ := hl.form
  go_wp2_with fail
  go_ret
  exact RetLL.trans hs ⟨_, rfl, hl, hs2⟩

/-- A new row beside lists that were there. -/
theorem LL.beside {w w' : World} {base : Nat} {v u : Value} {R : List (List Nat)} {r : List Nat} (h : LL w base v R) (s : w.Since w.heap.size w') (hu : Gr w' w.heap.size 3 u r.length (cellsOf r)) (hb : base ≤ w.heap.size) : ∃ f, LLp w' base v R u r f := by
  obtain ⟨f, h1, h2, h3, h4⟩ := h
  refine ⟨f, h1.since s, fun j hj => (h2 j hj).since s, h3, h4, hu.base hb, fun k q1 q2 => ?_, fun j hj k q1 q2 => ?_⟩
  · have := (h1.ge k q1).2
    have := (hu.ge k q2).1
    omega
  · have := ((h2 j hj).ge k q1).2
    have := (hu.ge k q2).1
    omega

theorem since_kp {w w1 w2 : World} {B : Nat} {S : Nat → Prop} (h : w.Since B w1) (k : Kp S w1 w2) (hB : B ≤ w1.heap.size) (hS : ∀ q, S q → B ≤ q) : w.Since B w2 :=
  ⟨k.os.trans h.os, k.tape.trans h.tape, k.output.trans h.output, Nat.le_trans h.size k.size, fun q hq => (k.block q (by omega) (fun s => by have := hS q s; omega)).trans (h.block q hq)⟩

/-- Lists that lie from a place on stay where no block from there on has turned. -/
theorem LL.keptFrom {w w' : World} {base : Nat} {v : Value} {R : List (List Nat)} {S : Nat → Prop} (h : LL w base v R) (s : Kp S w w') (hS : ∀ q, S q → q < base) : LL w' base v R :=
  h.kept s (fun k hk hs => by
    obtain ⟨f, h1, _⟩ := h
    have := (h1.ge k hk).1
    have := hS k hs
    omega) (fun f h2 _ j hj k hk hs => by
    have := ((h2 j hj).ge k hk).1
    have := hS k hs
    omega)

theorem take_snoc {R : List (List Nat)} {k : Nat} (hk : k < R.length) : R.take (k + 1) = R.take k ++ [R.getD k []] := by
  rw [List.take_add_one, List.getElem?_eq_getElem hk, List.getD_eq_getElem?_getD, List.getElem?_eq_getElem hk]; rfl

set_option maxHeartbeats 4000000 in
theorem implLevelRuns_any {ao : Option Addr} {b o n cc : Nat} {base : Int} {x : Nat → Int} (w : World) (ht : Tab w) (hn : n ≤ 4294967296) (h0 : 0 < n) (hb : base = 0 ∨ base = 1) (hok : ∀ i, i < n → clsOk (x i)) (hB : ∀ i, i < n → x i = 7 → n ≤ i + 1)
    (hx : Sees w ao b o n cc (fun i => .int .i64 (x i))) :
    Calls Tryd.prog 19 #[.slice ao n cc, .int .i64 base] w (RetLL w (runs (lvS x (fsI n x) base) n)) := by
  have HOK := Lib.hid hok
  have HB := Lib.hid hB
  have HBB := Lib.hid hb
  have hb0 : 0 ≤ base := by omega
  have hb1 : base ≤ 1 := by omega
  have g2 := Gr.empty w w.heap.size 22 (fun _ => .slice none 0 0) (Nat.le_refl _)
  have H0 : LL (w.alloc (.cells #[] 22)) w.heap.size (.slice (some ⟨w.heap.size, 0, none⟩) 0 0) [] := LL.nil _ _ _ _ g2
  have hs0 : w.Since w.heap.size (w.alloc (.cells #[] 22)) := (World.Since.refl _ _).alloc (Nat.le_refl _) _
  have ht0 := ht.since hs0
  have hx0 := hx.since hs0
  have hrl := runs_len (lvS x (fsI n x) base) n
  have HRO := Lib.hid (fun i => @runs_len (lvS x (fsI n x) base) i)
  obtain ⟨RR, hRR⟩ : ∃ RR, RR = runs (lvS x (fsI n x) base) n := ⟨_, rfl⟩
  rw [← hRR] at hrl ⊢
  have HRR := Lib.hid hRR
  have HRL := Lib.hid (show ∀ j, j < RR.length → (RR.getD j []).length ≤ n from fun j hj => by rw [hRR] at hj ⊢; exact runs_row_len hj)
  clear hok hB hb g2 ht hx hRR
  go_enter Tryd.func19, Tryd.ntmps19
  go_wp2_with fail
  refine (classesOf_any _ ht0 hn hx0).mono ?_
  rintro e w1 ⟨a1, b1, o1, c1, rfl, hs1, hf1, hsi1⟩
  have H1 := H0.since hsi1
  have hs01 := since2 hs0 hsi1
  clear H0 hs0 ht0 hx0
  go_wp2_with fail
  refine (bidiLevelRuns_any _ hn h0 HBB.out HOK.out HB.out hs1).mono ?_
  rintro e w2 ⟨v, rfl, hl, hs2⟩
  rw [← HRR.out] at hl
  have H2 := H1.since hs2
  have hs02 := since2 hs01 hs2
  obtain ⟨ao2, c2, rfl⟩ := hl.form
  have hHL := hl
  have hz01 := hs01.size
  have hz1 : w.heap.size < w1.heap.size := by
    have := hsi1.size
    simp at this; omega
  clear H1 hs01 hs1 hl
  go_wp2_with fail
  go_loopg [5, 7, 15] RR.length (fun g out _ i wr => ∃ k : Nat, k ≤ RR.length ∧ g = RR.length - k ∧ i = .int .i64 k ∧ LL wr w.heap.size out (RR.take k) ∧ (∀ q, out.ownBlock = some q → q = w.heap.size ∨ w2.heap.size ≤ q) ∧ Kp (fun q => q = w.heap.size) w2 wr)
  case atStart => exact ⟨0, by omega, rfl, rfl, H2, fun q hq => by simp only [Value.ownBlock, Option.some.injEq] at hq; exact .inl hq.symm, Kp.refl _ _⟩
  case round =>
    clear H2
    obtain ⟨k, hk, rfl, rfl, hL, hob, hs⟩ := hrel
    by_cases hkn : k < RR.length
    · have hkz : (k : Int) < (RR.length : Int) := by omega
      obtain ⟨_, b2, hb2, f, q1, q2⟩ := (hHL.keptFrom hs (fun q hq => by omega)).sees
      obtain ⟨rfl, hc⟩ := q1.get hkn
      rw [Nat.zero_add] at hc
      obtain ⟨a3, b3, o3, c3, hv3, hs3⟩ := q2 k hkn
      rw [hv3] at hc
      have hlen := HRL.out k hkn
      have hs3' : Sees wr a3 b3 o3 (RR.getD k []).length c3 (fun i => .int .i64 (((RR.getD k []).getD i 0 : Nat) : Int)) := hs3
      have hsw := hs02.size
      have hswr := hs.size
      have HTK := Lib.hid (take_snoc hkn)
      clear q1 q2 hv3 hs3
      obtain ⟨r, hr⟩ : ∃ r, r = RR.getD k [] := ⟨_, rfl⟩
      rw [← hr] at hc hs3' hlen HTK
      have HRD := Lib.hid hr
      clear hr
      go_wp2_with fail
      refine (copyOf_gr _ (by omega) hs3').mono ?_
      rintro e w4 ⟨a4, c4, rfl, hg4, hs4⟩
      obtain ⟨f4, hP⟩ := hL.beside hs4 hg4 (by omega)
      have hz4 : w.heap.size ≤ w4.heap.size := by have := hs4.size; omega
      have hk24 := hs.call hs4
      have hob' : ∀ q, u5.ownBlock = some q → q = w.heap.size ∨ w2.heap.size ≤ q := hob
      have hz24 := hk24.size
      have htl : (RR.take k).length ≤ 4294967296 := by simp; omega
      have HTLN := Lib.hid (show (RR.take k).length = k by simp; omega)
      clear hL hs3' hg4
      go_wp2_with (at_builtin; go_must (refine wpList_push w4 rfl _ _ 31 rfl w.heap.size 22 (.slice none 0 0) 24 Tryd.underlying31 Tryd.infoInts rfl _ _ _ _ (by rfl) hP.outer (by rfl) rfl htl (by omega) hz4 ?_))
      intro v' w5 hg5 hgr5 hat5
      have hL5 := (hP.pushOuter (by rw [HTLN.out]; exact hg5) hgr5 hat5).ll
      have hs5 : Kp (fun q => q = w.heap.size) w2 w5 := (hk24.alloc _).grown hgr5 (fun q hq => hob' q hq)
      have hob5 : ∀ q, v'.ownBlock = some q → q = w.heap.size ∨ w2.heap.size ≤ q := fun q hq => by
        rcases hat5 with e | e
        · exact hob' q (by rw [← e]; exact hq)
        · rw [e] at hq
          simp only [Option.some.injEq] at hq
          right; omega
      clear hP hg5 hgr5 hat5 hk24 hs hob hob'
      go_wp2_with fail
      go_roundg (RR.length - (k + 1))
      case rel => exact ⟨k + 1, by omega, rfl, by go_num, by rw [HTK.out]; exact hL5, hob5, hs5⟩
      case measure => omega
    · obtain rfl : k = RR.length := by omega
      have hL' : LL wr w.heap.size u5 RR := by rw [List.take_length] at hL; exact hL
      obtain ⟨ao6, c6, hu5⟩ := hL'.form
      subst hu5
      go_wp2_with fail
      go_ret
      exact ⟨_, rfl, hL', since_kp hs02 hs hs02.size (fun q hq => by omega)⟩

/-- Nothing but draws. -/
def Drawn (w w' : World) : Prop := ∃ m, w' = w.drewN m
theorem Drawn.refl (w : World) : Drawn w w := ⟨0, rfl⟩
theorem Drawn.cell {w w' : World} (h : Drawn w w') (a : Addr) : w'.cell? a = w.cell? a := by obtain ⟨m, rfl⟩ := h; rfl
theorem Drawn.drewN {w w' : World} (h : Drawn w w') (n : Nat) : Drawn w (w'.drewN n) := by obtain ⟨m, rfl⟩ := h; exact ⟨m + n, World.drewN_drewN _ _ _⟩

set_option maxHeartbeats 400000 in
theorem same_q {ao : Option Addr} {b o n c : Nat} {x : Nat → Int} {ao' : Option Addr} {b' o' n' c' : Nat} {y : Nat → Int} (w : World) (hn : n ≤ 17179869184) (hn' : n' ≤ 17179869184)
    (hx : Sees w ao b o n c (fun i => .int .i64 (x i))) (hy : Sees w ao' b' o' n' c' (fun i => .int .i64 (y i))) :
    Calls Tryd.prog 21 #[.slice ao n c, .slice ao' n' c'] w fun e w' => e = .returned (.bool (sameB n n' x y)) ∧ Drawn w w' := by
  by_cases hne : n = n'
  · subst hne
    go_enter Tryd.func21, Tryd.ntmps21
    go_wp2
    go_loopg [5, 13] n (fun g _ i wr => ∃ k : Nat, k ≤ n ∧ g = n - k ∧ i = .int .i64 k ∧ (∀ j, j < k → x j = y j) ∧ Drawn w wr)
    case atStart => exact ⟨0, by omega, rfl, rfl, fun j hj => absurd hj (Nat.not_lt_zero _), Drawn.refl _⟩
    case round =>
      obtain ⟨k, hk, rfl, rfl, hall, hs⟩ := hrel
      have HA := Lib.hid hall
      clear hall
      by_cases hlt : k < n
      · obtain ⟨rfl, hc⟩ := hx.get hlt
        obtain ⟨rfl, hd⟩ := hy.get hlt
        have hc' : wr.cell? ⟨b, o + k, none⟩ = some (.int .i64 (x k)) := (hs.cell _).trans hc
        have hd' : wr.cell? ⟨b', o' + k, none⟩ = some (.int .i64 (y k)) := (hs.cell _).trans hd
        have hlz : (k : Int) < (n : Int) := by omega
        clear hc hd
        by_cases hxy : x k = y k
        · have hb1 : (x k != y k) = false := by simp [hxy]
          have HX := Lib.hid hxy
          clear hxy
          go_wp2
          go_quiet (fail)
          go_wp2
          go_roundg (n - (k + 1))
          case rel => exact ⟨k + 1, by omega, rfl, by go_num, fun j hj => by rcases Nat.lt_succ_iff_lt_or_eq.1 hj with h | h; exact HA.out j h; subst h; exact HX.out, hs.drewN _⟩
          case measure => omega
        · have hb1 : (x k != y k) = true := by simp [hxy]
          go_wp2
          go_quiet (fail)
          go_wp2
          go_ret
          exact ⟨ret_bool (by unfold sameB; symm; rw [decide_eq_false_iff_not]; exact fun h => hxy (h.2 k hlt)), hs.drewN _⟩
      · obtain rfl : k = n := by omega
        go_wp2
        go_ret
        exact ⟨ret_bool (by unfold sameB; symm; rw [decide_eq_true_eq]; exact ⟨rfl, HA.out⟩), hs⟩
  · have hb0 : ((n : Int) != (n' : Int)) = true := by simp; omega
    go_enter Tryd.func21, Tryd.ntmps21
    go_wp2
    go_ret
    exact ⟨ret_bool (by unfold sameB; symm; rw [decide_eq_false_iff_not]; exact fun h => hne h.1), Drawn.refl _⟩


set_option maxHeartbeats 1000000 in
/-- Lists that hold the same. -/
theorem sameLists_any {a1 a2 : Option Addr} {b1 o1 c1 b2 o2 c2 : Nat} {R : List (List Nat)} (w : World) (hn : R.length ≤ 17179869184) (hr : ∀ j, j < R.length → (R.getD j []).length ≤ 17179869184) (h1 : SeesLL w a1 b1 o1 c1 R) (h2 : SeesLL w a2 b2 o2 c2 R) :
    Calls Tryd.prog 18 #[.slice a1 R.length c1, .slice a2 R.length c2] w fun e w' => e = .returned (.bool true) ∧ w.Since w.heap.size w' := by
  have HR := Lib.hid hr
  clear hr
  go_enter Tryd.func18, Tryd.ntmps18
  go_wp2_with fail
  go_loopg [5, 13] R.length (fun g _ i wr => ∃ k : Nat, k ≤ R.length ∧ g = R.length - k ∧ i = .int .i64 k ∧ w.Since w.heap.size wr)
  case atStart => exact ⟨0, by omega, rfl, rfl, World.Since.refl _ _⟩
  case round =>
    obtain ⟨k, hk, rfl, rfl, hs⟩ := hrel
    by_cases hkn : k < R.length
    · have hkz : (k : Int) < (R.length : Int) := by omega
      obtain ⟨f1, q1, r1⟩ := h1.since hs
      obtain ⟨f2, q2, r2⟩ := h2.since hs
      obtain ⟨rfl, hc1⟩ := q1.get hkn
      obtain ⟨rfl, hc2⟩ := q2.get hkn
      obtain ⟨a3, b3, o3, c3, e3, s3⟩ := r1 k hkn
      obtain ⟨a4, b4, o4, c4, e4, s4⟩ := r2 k hkn
      rw [e3] at hc1
      rw [e4] at hc2
      have hlen := HR.out k hkn
      have s3' : Sees wr a3 b3 o3 (R.getD k []).length c3 (fun i => .int .i64 (((R.getD k []).getD i 0 : Nat) : Int)) := s3
      have s4' : Sees wr a4 b4 o4 (R.getD k []).length c4 (fun i => .int .i64 (((R.getD k []).getD i 0 : Nat) : Int)) := s4
      clear q1 r1 q2 r2 e3 e4 s3 s4
      have HB := Lib.hid (show sameB (R.getD k []).length (R.getD k []).length (fun i => (((R.getD k []).getD i 0 : Nat) : Int)) (fun i => (((R.getD k []).getD i 0 : Nat) : Int)) = true from decide_eq_true ⟨rfl, fun _ _ => rfl⟩)
      obtain ⟨r, hr⟩ : ∃ r, r = R.getD k [] := ⟨_, rfl⟩
      rw [← hr] at hc1 hc2 hlen s3' s4' HB
      clear hr
      have HS := Lib.hid (fun m => same_q (wr.drewN m) hlen hlen (show Sees (wr.drewN m) a3 b3 o3 r.length c3 (fun i => .int .i64 ((r.getD i 0 : Nat) : Int)) from s3') (show Sees (wr.drewN m) a4 b4 o4 r.length c4 (fun i => .int .i64 ((r.getD i 0 : Nat) : Int)) from s4'))
      rw [Hid, HB.out] at HS
      clear s3' s4'
      go_upto_region 6 with fail
      go_quiet ((go_at_call 21; exact Calls.quiet_of (HS _)))
      go_wp2_with fail
      go_roundg (R.length - (k + 1))
      case rel => exact ⟨k + 1, by omega, rfl, by go_num, since_drewN hs _⟩
      case measure => omega
    · obtain rfl : k = R.length := by omega
      go_wp2_with fail
      go_ret
      exact ⟨rfl, hs⟩

end Go.Proofs.YtjelgbfgciaapaaDoor
