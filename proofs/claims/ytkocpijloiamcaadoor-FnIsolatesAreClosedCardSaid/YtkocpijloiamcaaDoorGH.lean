/- N1 and N2 in plain Lean. No program in sight. -/
import Derived.Test.YtkocpijloiamcaaDoorGG
import Derived.Deep.DeepCutAuto
import Derived.Deep.CutBlock
import Derived.Deep.QuietTactic
import Derived.BigQuiet
import Derived.StillTailTactics
namespace Go.Proofs.YtkocpijloiamcaaDoor

/-- The last that is not neutral ahead of a place, as a side; sos if there is none. -/
def bef (N : Nat → Bool) (st : Nat → Int) (sos : Int) : Nat → Int
  | 0 => sos
  | i + 1 => if N i = true then bef N st sos i else st i

/-- The first that is not neutral from a place on, as a side; eos if there is none. The first number counts the places that are left. -/
def beh (N : Nat → Bool) (st : Nat → Int) (eos : Int) : Nat → Nat → Int
  | 0, _ => eos
  | f + 1, i => if N i = true then beh N st eos f (i + 1) else st i

/-- Where the run of neutrals from a place on ends. -/
def nxt (N : Nat → Bool) : Nat → Nat → Nat
  | 0, i => i
  | f + 1, i => if N i = true then nxt N f (i + 1) else i

/-- N1 and N2. -/
def nout (N : Nat → Bool) (st : Nat → Int) (sos eos e : Int) (n : Nat) (c : Nat → Int) (i : Nat) : Int :=
  if N i = true then (if bef N st sos i = beh N st eos (n - i) i then bef N st sos i else e) else c i

variable {N : Nat → Bool} {st : Nat → Int} {sos eos e : Int} {n : Nat} {c : Nat → Int}

theorem bef_succ_neu {i : Nat} (h : N i = true) : bef N st sos (i + 1) = bef N st sos i := by rw [bef, if_pos h]
theorem bef_succ_not {i : Nat} (h : N i = false) : bef N st sos (i + 1) = st i := by rw [bef, if_neg (by rw [h]; decide)]
theorem beh_neu {i : Nat} (hi : i < n) (h : N i = true) : beh N st eos (n - i) i = beh N st eos (n - (i + 1)) (i + 1) := by
  rw [show n - i = n - (i + 1) + 1 by omega, beh, if_pos h]
theorem beh_not {i : Nat} (hi : i < n) (h : N i = false) : beh N st eos (n - i) i = st i := by
  rw [show n - i = n - (i + 1) + 1 by omega, beh, if_neg (by rw [h]; decide)]
theorem beh_end {i : Nat} (hi : n ≤ i) : beh N st eos (n - i) i = eos := by rw [show n - i = 0 by omega, beh]

theorem nxt_neu {i : Nat} (hi : i < n) (h : N i = true) : nxt N (n - i) i = nxt N (n - (i + 1)) (i + 1) := by
  rw [show n - i = n - (i + 1) + 1 by omega, nxt, if_pos h]
theorem nxt_not {i : Nat} (hi : i < n) (h : N i = false) : nxt N (n - i) i = i := by
  rw [show n - i = n - (i + 1) + 1 by omega, nxt, if_neg (by rw [h]; decide)]
theorem nxt_end {i : Nat} (hi : n ≤ i) : nxt N (n - i) i = i := by rw [show n - i = 0 by omega, nxt]

theorem nxt_ge : ∀ f i, i ≤ nxt N f i
  | 0, _ => Nat.le_refl _
  | f + 1, i => by
    rw [nxt]
    split
    · have := nxt_ge f (i + 1); omega
    · omega

theorem nxt_le : ∀ f i, nxt N f i ≤ i + f
  | 0, _ => Nat.le_refl _
  | f + 1, i => by
    rw [nxt]
    split
    · have := nxt_le f (i + 1); omega
    · omega

theorem nxt_at : ∀ f i, nxt N f i < i + f → N (nxt N f i) = false
  | 0, i, h => by rw [nxt] at h; omega
  | f + 1, i, h => by
    rw [nxt] at h ⊢
    split
    · next h1 => rw [if_pos h1] at h; exact nxt_at f (i + 1) (by omega)
    · next h1 => simpa using h1

theorem nxt_in : ∀ f i j, i ≤ j → j < nxt N f i → N j = true
  | 0, i, j, h1, h2 => by rw [nxt] at h2; omega
  | f + 1, i, j, h1, h2 => by
    rw [nxt] at h2
    split at h2
    · next h => by_cases e : j = i
                · rw [e]; exact h
                · exact nxt_in f (i + 1) j (by omega) h2
    · omega

/-- Within a run of neutrals both sides are the same. -/
theorem run_bef {i j : Nat} (hij : i ≤ j) (h : ∀ k, i ≤ k → k < j → N k = true) : bef N st sos j = bef N st sos i := by
  induction j with
  | zero => rw [show i = 0 by omega]
  | succ j ih =>
    by_cases e : i = j + 1
    · rw [e]
    · rw [bef_succ_neu (h j (by omega) (by omega))]; exact ih (by omega) (fun k h1 h2 => h k h1 (by omega))

theorem run_beh {i j : Nat} (hij : i ≤ j) (hj : j ≤ n) (h : ∀ k, i ≤ k → k < j → N k = true) : beh N st eos (n - i) i = beh N st eos (n - j) j := by
  induction j with
  | zero => rw [show i = 0 by omega]
  | succ j ih =>
    by_cases e : i = j + 1
    · rw [e]
    · rw [ih (by omega) (by omega) (fun k h1 h2 => h k h1 (by omega)), beh_neu (by omega) (h j (by omega) (by omega))]

theorem nout_not {i : Nat} (h : N i = false) : nout N st sos eos e n c i = c i := by unfold nout; rw [if_neg (by rw [h]; decide)]

/-- The whole run that begins at a place gets one type. -/
theorem nout_run {i j : Nat} (hi : i < n) (h1 : i ≤ j) (h2 : j < nxt N (n - i) i) : nout N st sos eos e n c j = if bef N st sos i = beh N st eos (n - nxt N (n - i) i) (nxt N (n - i) i) then bef N st sos i else e := by
  have hle := nxt_le (N := N) (n - i) i
  have hN := fun k h1 h2 => nxt_in (N := N) (n - i) i k h1 h2
  unfold nout
  rw [if_pos (hN j h1 h2), run_bef h1 (fun k a b => hN k a (by omega)), ← run_beh (i := j) (j := nxt N (n - i) i) (by omega) (by omega) (fun k a b => hN k (by omega) b)]

theorem bef_side (hs : sos = 0 ∨ sos = 1) (hst : ∀ i, i < n → N i = false → st i = 0 ∨ st i = 1) : ∀ i, i ≤ n → bef N st sos i = 0 ∨ bef N st sos i = 1
  | 0, _ => hs
  | i + 1, h => by
    by_cases hN : N i = true
    · rw [bef_succ_neu hN]; exact bef_side hs hst i (by omega)
    · rw [bef_succ_not (by simpa using hN)]; exact hst i (by omega) (by simpa using hN)

/-- A neutral becomes a side. -/
theorem nout_side (hs : sos = 0 ∨ sos = 1) (he : e = 0 ∨ e = 1) (hst : ∀ i, i < n → N i = false → st i = 0 ∨ st i = 1) {i : Nat} (hi : i < n) (h : N i = true) : nout N st sos eos e n c i = 0 ∨ nout N st sos eos e n c i = 1 := by
  unfold nout
  rw [if_pos h]
  split
  · exact bef_side hs hst i (by omega)
  · exact he

theorem bef_congr {N' : Nat → Bool} {st' : Nat → Int} (h1 : ∀ i, i < n → N i = N' i) (h2 : ∀ i, i < n → N i = false → st i = st' i) : ∀ i, i ≤ n → bef N st sos i = bef N' st' sos i
  | 0, _ => rfl
  | i + 1, h => by
    have hN := h1 i (by omega)
    by_cases hc : N i = true
    · rw [bef_succ_neu hc, bef_succ_neu (hN ▸ hc)]; exact bef_congr h1 h2 i (by omega)
    · have hc' : N i = false := by simpa using hc
      rw [bef_succ_not hc', bef_succ_not (hN ▸ hc')]; exact h2 i (by omega) hc'

theorem beh_congr {N' : Nat → Bool} {st' : Nat → Int} (h1 : ∀ i, i < n → N i = N' i) (h2 : ∀ i, i < n → N i = false → st i = st' i) : ∀ f i, i + f = n → beh N st eos f i = beh N' st' eos f i
  | 0, _, _ => rfl
  | f + 1, i, h => by
    have hN := h1 i (by omega)
    rw [beh, beh, ← hN, beh_congr h1 h2 f (i + 1) (by omega)]
    split
    · rfl
    · next hc => exact h2 i (by omega) (by simpa using hc)

theorem nout_congr {N' : Nat → Bool} {st' : Nat → Int} {c' : Nat → Int} (g : Int → Int) (h1 : ∀ i, i < n → N i = N' i) (h2 : ∀ i, i < n → N i = false → st i = st' i) (h3 : ∀ i, i < n → c i = g (c' i)) (hs : sos = 0 ∨ sos = 1) (he : e = 0 ∨ e = 1) (hst : ∀ i, i < n → N i = false → st i = 0 ∨ st i = 1)
    (g0 : g 0 = 0) (g1 : g 1 = 1) {i : Nat} (hi : i < n) : nout N st sos eos e n c i = g (nout N' st' sos eos e n c' i) := by
  have hN := h1 i hi
  by_cases h : N i = true
  · have hsd := nout_side (eos := eos) (c := c) hs he hst hi h
    have heq : nout N st sos eos e n c i = nout N' st' sos eos e n c' i := by
      unfold nout
      rw [bef_congr h1 h2 i (by omega), beh_congr h1 h2 (n - i) i (by omega), ← hN]
      rw [if_pos h, if_pos h]
    rw [← heq]
    rcases hsd with q | q <;> rw [q]
    · exact g0.symm
    · exact g1.symm
  · have h' : N i = false := by simpa using h
    rw [nout_not h', nout_not (hN ▸ h'), h3 i hi]

end Go.Proofs.YtkocpijloiamcaaDoor

/- (*isolatingRunSequence).findRunLimit, bidi.setTypes, bidi.typeForLevel. -/
namespace Go.Proofs.YtkocpijloiamcaaDoor
open Go.RowKit

set_option maxHeartbeats 1000000 in
theorem findRunLimit_any (l : List Int) {S b2 : Nat} {ao : Option Addr} {b o n cc i0 : Nat} {c : Nat → Int} (w : World) (hn : n ≤ 8589934592) (hi0 : i0 ≤ n) (hl : l.length ≤ 1000) (hc : w.cell? ⟨S, 2, none⟩ = some (.slice ao n cc)) (hx : Sees w ao b o n cc (fun i => .int .u64 (c i)))
    (hh : w.heap[b2]? = some (.cells (l.map (Value.int .u64)).toArray 67 (0, 0))) :
    Calls Tryd.prog 80 #[.pointer (some ⟨S, 0, none⟩), .int .i64 i0, .slice (some ⟨b2, 0, none⟩) l.length l.length] w fun e w' => e = .returned (.int .i64 (nxt (fun j => memB l (c j)) (n - i0) i0 : Nat)) ∧ w = w' := by
  have HC : ∀ i, i < l.length → w.cell? ⟨b2, i, none⟩ = some (.int .u64 (l.getD i 0)) := fun i hi => by rw [lits_cell hh hi]; simp [hi]
  have HH := Lib.hid HC
  clear HC hh
  obtain ⟨m, hm⟩ : ∃ m, m = l.length := ⟨_, rfl⟩
  rw [← hm]
  rw [← hm] at hl
  have HM := Lib.hid hm
  clear hm
  go_enter Tryd.func80, Tryd.ntmps80
  go_wp2
  go_step3
  go_wp2
  go_step3
  go_wp2
  go_loop [1] (fun i => ∃ k : Nat, k ≤ n ∧ i = .int .i64 k ∧ Hid (nxt (fun j => memB l (c j)) (n - i0) i0 = nxt (fun j => memB l (c j)) (n - k) k)) (fun i => n - (intOf i).toNat)
  case atStart => exact ⟨i0, by omega, rfl, rfl⟩
  case round =>
    obtain ⟨k, hk, rfl, HA⟩ := hrel
    by_cases hkn : k < n
    · have hkz : (k : Int) < (n : Int) := by omega
      obtain ⟨rfl, hck⟩ := hx.get hkn
      go_wp2
      go_loop [28] (fun i => ∃ q : Nat, q ≤ m ∧ i = .int .i64 q ∧ Hid (∀ j, j < q → l.getD j 0 ≠ c k)) (fun i => m - (intOf i).toNat)
      case atStart => exact ⟨0, by omega, rfl, fun j hj => absurd hj (Nat.not_lt_zero _)⟩
      case round =>
        obtain ⟨q, hq, rfl, HB⟩ := hrel
        by_cases hqm : q < m
        · have hqz : (q : Int) < (m : Int) := by omega
          have hcq := HH.out q (by rw [← HM.out]; exact hqm)
          obtain ⟨u, hu⟩ : ∃ u, u = l.getD q 0 := ⟨_, rfl⟩
          rw [← hu] at hcq
          have HU := Lib.hid hu
          clear hu
          by_cases he : c k = u
          · have hb : (c k == u) = true := by simp [he]
            have hin : memB l (c k) = true := by
              rw [memB_iff, he, HU.out]
              have hk2 : q < l.length := by rw [← HM.out]; exact hqm
              simp [hk2]
            have HN := Lib.hid (HA.out.trans (nxt_neu (N := fun j => memB l (c j)) hkn hin))
            clear he hin
            go_wp2
            go_round
            case rel => exact ⟨k + 1, by omega, by go_num, HN.out⟩
            case measure => simp [intOf]; omega
          · have hb : (c k == u) = false := by simp [he]
            have HE := Lib.hid he
            clear he
            go_wp2
            go_round
            case rel => exact ⟨q + 1, by omega, by go_num, fun j hj => by
              rcases Nat.lt_succ_iff_lt_or_eq.1 hj with h | h
              · exact HB.out j h
              · subst h; rw [← HU.out]; exact fun e => HE.out e.symm⟩
            case measure => simp [intOf]; omega
        · obtain rfl : q = m := by omega
          have hout : memB l (c k) = false := by
            rw [memB_not]; intro hmem
            obtain ⟨i, hi, e⟩ := List.getElem_of_mem hmem
            exact HB.out i (by rw [HM.out]; exact hi) (by simp [hi, e])
          have HN := Lib.hid (HA.out.trans (nxt_not (N := fun j => memB l (c j)) hkn hout))
          clear hout
          go_wp2
          go_ret
          exact ⟨by rw [HN.out]; rfl, rfl⟩
    · obtain rfl : k = n := by omega
      have HN := Lib.hid (HA.out.trans (nxt_end (N := fun j => memB l (c j)) (Nat.le_refl _)))
      go_wp2
      go_ret
      exact ⟨by rw [HN.out]; rfl, rfl⟩

set_option maxHeartbeats 400000 in
theorem setTypes_any {q cap n lo hi cc B : Nat} {f : Nat → Value} {v : Int} (w : World) (hn : n ≤ 8589934592) (hlh : lo ≤ hi) (hhi : hi ≤ n) (hg : Gr w B 67 (.slice (some ⟨q, 0, none⟩) n cap) n f) :
    Calls Tryd.prog 81 #[.slice (some ⟨q, lo, none⟩) (hi - lo : Nat) cc, .int .u64 v] w fun e w' => e = .returned (.tuple #[]) ∧ Gr w' B 67 (.slice (some ⟨q, 0, none⟩) n cap) n (fun j => if lo ≤ j ∧ j < hi then .int .u64 v else f j) ∧ Kp (fun k => k = q) w w' := by
  obtain ⟨d, hd⟩ : ∃ d, d = hi - lo := ⟨_, rfl⟩
  obtain rfl : hi = lo + d := by omega
  rw [← hd]
  clear hd hlh
  go_enter Tryd.func81, Tryd.ntmps81
  go_wp2
  go_loopg [4, 7] d (fun g _ i wr => ∃ k : Nat, k ≤ d ∧ g = d - k ∧ i = .int .i64 k ∧ Gr wr B 67 (.slice (some ⟨q, 0, none⟩) n cap) n (fun j => if lo ≤ j ∧ j < lo + k then .int .u64 v else f j) ∧ Kp (fun k => k = q) w wr)
  case atStart => exact ⟨0, by omega, rfl, rfl, hg.congr (fun j _ => by rw [if_neg (by omega)]), Kp.refl _ _⟩
  case round =>
    clear hg
    obtain ⟨k, hk, rfl, rfl, hg, hs⟩ := hrel
    by_cases hkn : k < d
    · have hkz : (k : Int) < (d : Int) := by omega
      have g1 := hg.cell (i := lo + k) (by omega)
      rw [if_neg (by omega)] at g1
      have g2 := hg.frozen (lo + k)
      have R := (hg.set (lo + k) (.int .u64 v)).congr (g := fun j => if lo ≤ j ∧ j < lo + (k + 1) then .int .u64 v else f j) (fun j _ => by
        by_cases e : j = lo + k
        · rw [if_pos e, if_pos (by omega)]
        · rw [if_neg e]
          by_cases h : lo ≤ j ∧ j < lo + k
          · rw [if_pos h, if_pos (by omega)]
          · rw [if_neg h, if_neg (by omega)])
      have S := hs.setCell (a := ⟨q, lo + k, none⟩) (.inl rfl) (.int .u64 v)
      clear hg hs
      go_wp2
      go_roundg (d - (k + 1))
      case rel => exact ⟨k + 1, by omega, rfl, by go_num, R, S⟩
      case measure => omega
    · obtain rfl : k = d := by omega
      go_wp2
      go_end0
      exact ⟨rfl, hg, hs⟩

theorem and_one_i8n : ∀ k : Fin 128, bits BinOp.and IntKind.i8 ((k : Nat) : Int) 1 = (((k : Nat) % 2 : Nat) : Int) := by decide

theorem typeForLevel_any {lv : Int} (w : World) (h0 : 0 ≤ lv) (h1 : lv ≤ 127) : Calls Tryd.prog 85 #[.int .i8 lv] w fun e w' => e = .returned (.int .u64 (lv % 2)) ∧ w = w' := by
  obtain ⟨v, rfl⟩ := Int.eq_ofNat_of_zero_le h0
  have hand := and_one_i8n ⟨v, by omega⟩
  simp only at hand
  by_cases hev : v % 2 = 0
  · rw [hev] at hand
    have hz : (v : Int) % 2 = 0 := by omega
    rw [hz]
    clear hz
    go_enter Tryd.func85, Tryd.ntmps85
    go_wp2
    go_ret
    exact ⟨rfl, rfl⟩
  · rw [show v % 2 = 1 by omega] at hand
    have hz : (v : Int) % 2 = 1 := by omega
    rw [hz]
    clear hz
    go_enter Tryd.func85, Tryd.ntmps85
    go_wp2
    go_ret
    exact ⟨rfl, rfl⟩

end Go.Proofs.YtkocpijloiamcaaDoor

/- (*isolatingRunSequence).resolveNeutralTypes (N1, N2). -/
namespace Go.Proofs.YtkocpijloiamcaaDoor
open Go.RowKit

def neuL : List Int := [7, 8, 9, 10, 22, 21, 23, 24]
def NB (x : Int) : Bool := memB neuL x
/-- The side that a class counts as. -/
def sd (x : Int) : Int := if x = 5 ∨ x = 2 then 1 else x

theorem sd_num {x : Int} (h : memB [5, 2] x = true) : sd x = 1 := by
  have := memB_iff.1 h
  simp only [List.mem_cons, List.not_mem_nil, or_false] at this
  unfold sd; rw [if_pos this]
theorem sd_not {x : Int} (h : memB [5, 2] x = false) : sd x = x := by
  have := memB_not.1 h
  simp only [List.mem_cons, List.not_mem_nil, or_false] at this
  unfold sd; rw [if_neg this]

/-- N1 and N2 over classes. -/
def neu (sos eos e : Int) (n : Nat) (c : Nat → Int) (i : Nat) : Int := nout (fun j => NB (c j)) (fun j => sd (c j)) sos eos e n c i

/-- How far the rules have come. -/
def NSt (sos eos e : Int) (n : Nat) (c : Nat → Int) (k : Nat) (cur : Nat → Int) : Prop :=
  ∃ m, k ≤ m ∧ m ≤ n ∧ (∀ j, j < m → cur j = neu sos eos e n c j) ∧ (∀ j, m ≤ j → j < n → cur j = c j) ∧ (0 < m → m < n → NB (c m) = true → NB (c (m - 1)) = false)

variable {sos eos e : Int} {n : Nat} {c cur : Nat → Int} {k : Nat}

theorem NSt.start : NSt sos eos e n c 0 c := ⟨0, by omega, by omega, fun j hj => absurd hj (Nat.not_lt_zero _), fun _ _ _ => rfl, fun h => absurd h (Nat.lt_irrefl _)⟩

theorem NSt.fin (h : NSt sos eos e n c n cur) {j : Nat} (hj : j < n) : cur j = neu sos eos e n c j := by
  obtain ⟨m, h1, h2, h3, _⟩ := h
  exact h3 j (by omega)

theorem NSt.skip (h : NSt sos eos e n c k cur) (hk : k < n) (hN : NB (cur k) = false) : NSt sos eos e n c (k + 1) cur := by
  obtain ⟨m, h1, h2, h3, h4, h5⟩ := h
  by_cases he : m = k
  · subst he
    have hc := h4 m (by omega) hk
    rw [hc] at hN
    refine ⟨m + 1, by omega, by omega, fun j hj => ?_, fun j a b => h4 j (by omega) b, fun _ _ _ => by rw [Nat.add_sub_cancel]; exact hN⟩
    rcases Nat.lt_succ_iff_lt_or_eq.1 hj with q | q
    · exact h3 j q
    · subst q; rw [hc]; unfold neu; rw [nout_not hN]
  · exact ⟨m, by omega, h2, h3, h4, h5⟩

theorem nb_side {x : Int} (h : x = 0 ∨ x = 1) : NB x = false := by rcases h with rfl | rfl <;> decide

/-- A class that the rules meet. -/
theorem sd_side {x : Int} (h : memB [0, 1, 2, 5, 7, 8, 9, 10, 22, 21, 23, 24] x = true) (hN : NB x = false) : sd x = 0 ∨ sd x = 1 := by
  have h1 := memB_iff.1 h
  have h2 := memB_not.1 hN
  unfold neuL at h2
  simp only [List.mem_cons, List.not_mem_nil, or_false] at h1 h2
  unfold sd
  split <;> omega

theorem neu_nb (hs : sos = 0 ∨ sos = 1) (he : e = 0 ∨ e = 1) (hall : ∀ i, i < n → memB [0, 1, 2, 5, 7, 8, 9, 10, 22, 21, 23, 24] (c i) = true) {i : Nat} (hi : i < n) : NB (neu sos eos e n c i) = false := by
  unfold neu
  by_cases h : NB (c i) = true
  · exact nb_side (nout_side (N := fun j => NB (c j)) hs he (fun i hi hN => sd_side (hall i hi) hN) hi h)
  · have h' : NB (c i) = false := by simpa using h
    rw [nout_not (N := fun j => NB (c j)) h']; exact h'

theorem nxt_congr {N N' : Nat → Bool} : ∀ f i, (∀ j, i ≤ j → j < i + f → N j = N' j) → nxt N f i = nxt N' f i
  | 0, _, _ => rfl
  | f + 1, i, h => by
    rw [nxt, nxt, h i (Nat.le_refl _) (by omega), nxt_congr f (i + 1) (fun j a b => h j (by omega) (by omega))]

/-- At a neutral: the place is the first of its run; the sides that are looked up are those of the text. -/
theorem NSt.run (h : NSt sos eos e n c k cur) (hs : sos = 0 ∨ sos = 1) (he : e = 0 ∨ e = 1) (hall : ∀ i, i < n → memB [0, 1, 2, 5, 7, 8, 9, 10, 22, 21, 23, 24] (c i) = true) (hk : k < n) (hN : NB (cur k) = true)
    {E : Nat} (hE : E = nxt (fun j => NB (cur j)) (n - k) k) {ld tr : Int} (hld : ld = if k = 0 then sos else sd (cur (k - 1))) (htr : tr = if E = n then eos else sd (cur E)) {cur' : Nat → Int}
    (hcur : ∀ j, j < n → cur' j = if k ≤ j ∧ j < E then (if ld = tr then ld else e) else cur j) : NSt sos eos e n c (k + 1) cur' := by
  obtain ⟨m, h1, h2, h3, h4, h5⟩ := h
  have hmk : m = k := by
    rcases Nat.lt_or_ge k m with q | q
    · have := neu_nb (eos := eos) hs he hall hk
      rw [← h3 k q, hN] at this; cases this
    · omega
  subst hmk
  have hc : ∀ j, m ≤ j → j < n → cur j = c j := h4
  have hE' : E = nxt (fun j => NB (c j)) (n - m) m := by
    rw [hE]; exact nxt_congr _ _ (fun j a b => by rw [hc j a (by omega)])
  have hle := nxt_le (N := fun j => NB (c j)) (n - m) m
  rw [← hE'] at hle
  have hNc : NB (c m) = true := by rw [← hc m (Nat.le_refl _) hk]; exact hN
  have hge : m + 1 ≤ E := by
    rw [hE', nxt_neu (N := fun j => NB (c j)) hk hNc]; exact nxt_ge _ _
  have hEn : E < n → NB (c E) = false := fun q => by
    have := nxt_at (N := fun j => NB (c j)) (n - m) m (by rw [← hE']; omega)
    rw [← hE'] at this; exact this
  have hbef : ld = bef (fun j => NB (c j)) (fun j => sd (c j)) sos m := by
    rw [hld]
    by_cases z : m = 0
    · subst z; rw [if_pos rfl]; rfl
    · have hp := h5 (by omega) hk hNc
      rw [if_neg z, h3 (m - 1) (by omega)]
      unfold neu
      rw [nout_not (N := fun j => NB (c j)) hp]
      obtain ⟨r, rfl⟩ : ∃ r, m = r + 1 := ⟨m - 1, by omega⟩
      rw [Nat.add_sub_cancel] at hp ⊢
      rw [bef_succ_not (N := fun j => NB (c j)) hp]
  have hbeh : tr = beh (fun j => NB (c j)) (fun j => sd (c j)) eos (n - E) E := by
    rw [htr]
    by_cases z : E = n
    · rw [if_pos z, beh_end (N := fun j => NB (c j)) (by omega)]
    · rw [if_neg z, hc E (by omega) (by omega), beh_not (N := fun j => NB (c j)) (by omega) (hEn (by omega))]
  refine ⟨E, by omega, by omega, fun j hj => ?_, fun j a b => ?_, fun _ q hq => ?_⟩
  · rw [hcur j (by omega)]
    by_cases z : m ≤ j
    · rw [if_pos ⟨z, hj⟩]
      unfold neu
      rw [nout_run (N := fun j => NB (c j)) hk z (by rw [← hE']; exact hj), ← hE', ← hbef, ← hbeh]
    · rw [if_neg (by omega), h3 j (by omega)]
  · rw [hcur j b, if_neg (by omega), hc j (by omega) b]
  · rw [hEn q] at hq; cases hq

end Go.Proofs.YtkocpijloiamcaaDoor
