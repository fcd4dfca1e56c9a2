/- (*paragraph).determineExplicitEmbeddingLevels (X1 to X8): words and plain laws for the walk. -/
import Derived.Test.YtjelgbfgciaapaaDoorStk
import Derived.Test.YtjelgbfgciaapaaDoorFirst
import Derived.Deep.CutBlock
import Derived.Deep.Light
import Derived.Test.YtjelgbfgciaapaaDoorQTail
import Derived.Test.YtjelgbfgciaapaaDoorMtch
import Derived.Deep.RegionWith
namespace Go.Proofs.YtjelgbfgciaapaaDoor
open Go.RowKit
set_option linter.unusedVariables false

/-- Places in memory that differ. -/
structure Dis (p K T R N6 : Nat) : Prop where
  pK : p ≠ K
  pT : p ≠ T
  pR : p ≠ R
  TK : T ≠ K
  RK : R ≠ K
  TR : T ≠ R
  NK : N6 ≠ K
  NT : N6 ≠ T
  NR : N6 ≠ R

/-- The paragraph while the levels are found. -/
structure EX (w0 : World) (B p K T R N6 capT n : Nat) (f0 f1 f2 f7 : Value) (base : Int) (c ct cl : Nat → Int) (wx : World) : Prop where
  para : wx.rowIs p 79 8 (pf f0 f1 f2 (.int .i8 base) (.slice (some ⟨T, 0, none⟩) n capT) (.slice (some ⟨R, 0, none⟩) n n) (.slice (some ⟨N6, 0, none⟩) n n) f7)
  types : Gr wx B 67 (.slice (some ⟨T, 0, none⟩) n capT) n (fun i => .int .u64 (ct i))
  levels : wx.rowIs R 76 n (fun i => .int .i8 (cl i))
  mts : wx.rowIs N6 3 n (fun i => .int .i64 (mt (iniC c) (pdiC c) n i))
  kept : Kp (fun k => k = T ∨ k = R ∨ k = K) w0 wx

section
variable {w0 wx wy : World} {B p K T R N6 capT n : Nat} {f0 f1 f2 f7 : Value} {base : Int} {c ct cl ct' cl' : Nat → Int}

theorem EX.step (h : EX w0 B p K T R N6 capT n f0 f1 f2 f7 base c ct cl wx) (hd : Dis p K T R N6) (s : Kp (fun k => k = K) wx wy) : EX w0 B p K T R N6 capT n f0 f1 f2 f7 base c ct cl wy :=
  ⟨s.row h.para hd.pK, h.types.kept' (fun k hk => by
      simp only [Value.ownBlock, Option.some.injEq] at hk
      subst hk
      exact s.block _ (h.types.ge _ rfl).2 hd.TK), s.row h.levels hd.RK, s.row h.mts hd.NK, h.kept.trans (s.mono (fun k _ e => .inr (.inr e)))⟩

theorem EX.since (h : EX w0 B p K T R N6 capT n f0 f1 f2 f7 base c ct cl wx) (hd : Dis p K T R N6) (s : wx.Since wx.heap.size wy) : EX w0 B p K T R N6 capT n f0 f1 f2 f7 base c ct cl wy :=
  h.step hd (Kp.since s _)

theorem EX.drewN (h : EX w0 B p K T R N6 capT n f0 f1 f2 f7 base c ct cl wx) (k : Nat) : EX w0 B p K T R N6 capT n f0 f1 f2 f7 base c ct cl (wx.drewN k) :=
  ⟨h.para, h.types, h.levels, h.mts, h.kept.drewN k⟩

theorem EX.congr (h : EX w0 B p K T R N6 capT n f0 f1 f2 f7 base c ct cl wx) (e1 : ∀ i, i < n → ct i = ct' i) (e2 : ∀ i, i < n → cl i = cl' i) : EX w0 B p K T R N6 capT n f0 f1 f2 f7 base c ct' cl' wx :=
  ⟨h.para, h.types.congr (fun i hi => by rw [e1 i hi]), h.levels.congr (fun i hi => by rw [e2 i hi]), h.mts, h.kept⟩

theorem EX.setL (h : EX w0 B p K T R N6 capT n f0 f1 f2 f7 base c ct cl wx) (hd : Dis p K T R N6) (k : Nat) (v : Int) : EX w0 B p K T R N6 capT n f0 f1 f2 f7 base c ct (fun i => if i = k then v else cl i) (wx.setCell ⟨R, k, none⟩ (.int .i8 v)) :=
  ⟨h.para.setOther hd.pR _, h.types.kept' (fun q hq => by
      simp only [Value.ownBlock, Option.some.injEq] at hq
      subst hq
      exact Go.Deep.blk_setCell_other _ _ _ _ hd.TR), (h.levels.set k (.int .i8 v)).congr (fun i _ => by split <;> rfl), h.mts.setOther hd.NR _, h.kept.setCell (a := ⟨R, k, none⟩) (.inl (.inr (.inl rfl))) _⟩

theorem EX.setT (h : EX w0 B p K T R N6 capT n f0 f1 f2 f7 base c ct cl wx) (hd : Dis p K T R N6) (k : Nat) (v : Int) : EX w0 B p K T R N6 capT n f0 f1 f2 f7 base c (fun i => if i = k then v else ct i) cl (wx.setCell ⟨T, k, none⟩ (.int .u64 v)) :=
  ⟨h.para.setOther hd.pT _, (h.types.set k (.int .u64 v)).congr (fun i _ => by split <;> rfl), h.levels.setOther hd.TR.symm _, h.mts.setOther hd.NT _, h.kept.setCell (a := ⟨T, k, none⟩) (.inl (.inl rfl)) _⟩

theorem SRow.setOther {w : World} {m : Mst} (h : SRow w K m) {a : Addr} (ha : K ≠ a.block) (v : Value) : SRow (w.setCell a v) K m := h.of_block (Go.Deep.blk_setCell_other _ _ _ _ ha)
end


theorem SRow.congr {w : World} {K : Nat} {m m' : Mst} (h : SRow w K m) (e : m'.d = m.d) (e1 : ∀ j, j < m.d → m'.lv j = m.lv j) (e2 : ∀ j, j < m.d → m'.ov j = m.ov j) (e3 : ∀ j, j < m.d → m'.iso j = m.iso j) : SRow w K m' := by
  obtain ⟨g, hg, h0, h1⟩ := h
  refine ⟨g, hg, by rw [h0, e], fun j hj => ?_⟩
  rw [e] at hj
  rw [e1 j hj, e2 j hj, e3 j hj]
  exact h1 j hj

theorem zeros_size : (Tryd.zeroCells99).size = 379 := by kernel_rfl
theorem zeros_zero : (Tryd.zeroCells99)[0]? = some (.int .i64 0) := by kernel_rfl

theorem zeros_row (w : World) : (w.alloc (.cells Tryd.zeroCells99 99)).rowIs w.heap.size 99 379 (fun i => (Tryd.zeroCells99[i]?).getD undef) := by
  have := World.rowIs_alloc w Tryd.zeroCells99 99 (fun i => (Tryd.zeroCells99[i]?).getD undef) (fun i hi => by
    rw [Array.getElem?_eq_getElem hi]; rfl)
  rw [zeros_size] at this
  exact this

theorem zeros_srow (w : World) (base : Int) : SRow (w.alloc (.cells Tryd.zeroCells99 99)) w.heap.size ⟨0, fun _ => base, fun _ => -1, fun _ => false, 0, 0, 0⟩ := by
  refine ⟨_, zeros_row w, ?_, fun j hj => absurd hj (Nat.not_lt_zero _)⟩
  rw [zeros_zero]; rfl

theorem start_srow {w : World} {K : Nat} {base : Int} {x fs : Nat → Int} (h : SRow w K (Mst.push ⟨0, fun _ => base, fun _ => -1, fun _ => false, 0, 0, 0⟩ base (-1) false)) : SRow w K (mst x fs base 0) := by
  show SRow w K (Mst.start base)
  refine h.congr rfl (fun j hj => ?_) (fun j hj => ?_) (fun j hj => ?_)
  · show base = Mst.up (fun _ => base) 0 base j
    unfold Mst.up; split <;> rfl
  · show -1 = Mst.up (fun _ => (-1 : Int)) 0 (-1) j
    unfold Mst.up; split <;> rfl
  · show false = Mst.up (fun _ => false) 0 false j
    unfold Mst.up; split <;> rfl

/-- The side of an FSI. -/
def fsI (n : Nat) (x : Nat → Int) (i : Nat) : Int := fsN x 0 n (i + 1) (mat (iniN x) (pdiN x) n i)

/-- The types as the package leaves them. -/
def tI (x fs : Nat → Int) (base : Int) (j : Nat) : Int :=
  if x j = 14 ∨ x j = 15 ∨ x j = 16 ∨ x j = 17 ∨ x j = 18 ∨ x j = 22 ∨ x j = 7 then x j else if (mst x fs base j).tov = -1 then x j else (mst x fs base j).tov


theorem SRow.drewN {w : World} {K : Nat} {m : Mst} (h : SRow w K m) (k : Nat) : SRow (w.drewN k) K m := h

theorem push_of {K : Nat} {m : Mst} {l o oc : Int} {b : Bool} (w : World) (h : SRow w K m) (h2 : m.d < 126) (ho : ovc o = oc) :
    Calls Tryd.prog 57 #[.pointer (some ⟨K, 0, none⟩), .int .i8 l, .int .u64 oc, .bool b] w fun e w' => e = .returned (.tuple #[]) ∧ SRow w' K (m.push l o b) ∧ Kp (fun k => k = K) w w' := by
  subst ho; exact push_any w h h2

theorem in_of (l : List Int) (c : Int) (r : Bool) (w : World) {b : Nat} (hl : l.length ≤ 1000) (h : w.heap[b]? = some (.cells (l.map (Value.int .u64)).toArray 67 (0, 0))) (hr : memB l c = r) :
    Calls Tryd.prog 55 #[.int .u64 c, .slice (some ⟨b, 0, none⟩) l.length l.length] w fun e w' => e = .returned (.bool r) ∧ w = w' := by
  subst hr; exact in_any l c w hl h

theorem bits_or_i8 : ∀ k : Fin 127, bits BinOp.or IntKind.i8 ((k : Nat) : Int) 1 = (if ((k : Nat) : Int) % 2 = 1 then ((k : Nat) : Int) else ((k : Nat) : Int) + 1) := by decide
theorem bits_andNot_i8 : ∀ k : Fin 128, bits BinOp.andNot IntKind.i8 ((k : Nat) : Int) 1 = (if ((k : Nat) : Int) % 2 = 0 then ((k : Nat) : Int) else ((k : Nat) : Int) - 1) := by decide

theorem next_bits1 {m : Mst} {v : Nat} (hv : m.top = v) (h2 : v ≤ 125 := by omega) : bits BinOp.or IntKind.i8 ((v : Int) + 1) 1 = m.next 1 ∧ 0 ≤ m.next 1 ∧ m.next 1 ≤ 127 := by
  have h := bits_or_i8 ⟨v + 1, by omega⟩
  simp only at h
  rw [show ((v + 1 : Nat) : Int) = (v : Int) + 1 from by omega] at h
  unfold Mst.next
  rw [h, hv]
  refine ⟨?_, ?_, ?_⟩ <;> repeat' split
  all_goals omega
theorem next_bits0 {m : Mst} {v : Nat} (hv : m.top = v) (h2 : v ≤ 125 := by omega) : bits BinOp.andNot IntKind.i8 ((v : Int) + 2) 1 = m.next 0 ∧ 0 ≤ m.next 0 ∧ m.next 0 ≤ 127 := by
  have h := bits_andNot_i8 ⟨v + 2, by omega⟩
  simp only at h
  rw [show ((v + 2 : Nat) : Int) = (v : Int) + 2 from by omega] at h
  unfold Mst.next
  rw [h, hv]
  refine ⟨?_, ?_, ?_⟩ <;> repeat' split
  all_goals omega

theorem step_17 (m : Mst) (f : Int) : m.step 17 f = m.embed 1 (-1) := rfl
theorem step_16 (m : Mst) (f : Int) : m.step 16 f = m.embed 0 (-1) := rfl
theorem step_15 (m : Mst) (f : Int) : m.step 15 f = m.embed 1 1 := rfl
theorem step_14 (m : Mst) (f : Int) : m.step 14 f = m.embed 0 0 := rfl
theorem step_18 (m : Mst) (f : Int) : m.step 18 f = m.pop := rfl
theorem step_20 (m : Mst) (f : Int) : m.step 20 f = m.begin_ 1 := rfl
theorem step_19 (m : Mst) (f : Int) : m.step 19 f = m.begin_ 0 := rfl
theorem step_21 (m : Mst) (f : Int) : m.step 21 f = m.begin_ f := rfl
theorem step_22 (m : Mst) (f : Int) : m.step 22 f = m.close := rfl

/-- The types when k characters are done. -/
def ctK (x fs : Nat → Int) (base : Int) (k : Nat) : Nat → Int := fun i => if i < k then cls (tI x fs base i) else cls (x i)
theorem ctK_at {x fs : Nat → Int} {base : Int} {k : Nat} : ctK x fs base k k = cls (x k) := if_neg (Nat.lt_irrefl _)

theorem tI_rem {x fs : Nat → Int} {base : Int} {k : Nat} {t : Int} (h : x k = t) (ht : t = 14 ∨ t = 15 ∨ t = 16 ∨ t = 17 ∨ t = 18 ∨ t = 22 ∨ t = 7) : tI x fs base k = x k := by
  unfold tI; rw [if_pos (by rw [h]; exact ht)]

/-- An embedding, override or initiator. -/
def sevB (t : Int) : Bool := decide (t = 14 ∨ t = 15 ∨ t = 16 ∨ t = 17 ∨ t = 19 ∨ t = 20 ∨ t = 21)
/-- Does it ask for an odd level? -/
def rtlB (t fs : Int) : Bool := decide (t = 17 ∨ t = 15 ∨ t = 20 ∨ (t = 21 ∧ fs = 1))
/-- The override that it asks for. -/
def ovr (t : Int) : Int := if t = 14 then 0 else if t = 15 then 1 else -1

theorem sevB_iff {t : Int} : sevB t = true ↔ (t = 14 ∨ t = 15 ∨ t = 16 ∨ t = 17 ∨ t = 19 ∨ t = 20 ∨ t = 21) := by unfold sevB; rw [decide_eq_true_eq]
theorem sevB_cls {t : Int} (h : sevB t = true) : cls t = 19 ∨ cls t = 18 ∨ cls t = 17 ∨ cls t = 16 ∨ cls t = 22 ∨ cls t = 21 ∨ cls t = 23 := by
  rw [sevB_iff] at h
  rcases h with rfl | rfl | rfl | rfl | rfl | rfl | rfl <;> decide
theorem sevB_iso {t : Int} (h : sevB t = true) : memB [22, 21, 23] (cls t) = iniB t := by
  rw [sevB_iff] at h
  rcases h with rfl | rfl | rfl | rfl | rfl | rfl | rfl <;> decide
theorem sevB_rtl {t : Int} (f : Int) (h : sevB t = true) : rtlB t f = if t = 21 then (f == 1) else memB [19, 17, 22] (cls t) := by
  rw [sevB_iff] at h
  by_cases e : t = 21
  · subst e
    rw [if_pos rfl, Bool.eq_iff_iff, beq_iff_eq]
    unfold rtlB
    rw [decide_eq_true_eq]; omega
  · rw [if_neg e]
    have : rtlB t f = decide (t = 17 ∨ t = 15 ∨ t = 20) := by
      unfold rtlB; rw [Bool.eq_iff_iff, decide_eq_true_eq, decide_eq_true_eq]; omega
    rw [this]
    rcases h with rfl | rfl | rfl | rfl | rfl | rfl | rfl <;> first | decide | exact absurd rfl e
theorem fsN_small (x : Nat → Int) (n i z : Nat) : fsN x 0 n i z = 0 ∨ fsN x 0 n i z = 1 := by
  unfold fsN
  generalize z - i = f
  induction f generalizing i with
  | zero => exact .inl rfl
  | succ f ih =>
    rw [fsr]
    split
    · exact .inl rfl
    · split
      · exact .inl rfl
      · split
        · exact .inr rfl
        · exact ih _
theorem fsI_small {N : Nat} (_ : N ≤ 4294967296) (n : Nat) (x : Nat → Int) (k : Nat) : fsI n x k = 0 ∨ fsI n x k = 1 := fsN_small _ _ _ _
theorem sevB_step {m : Mst} {t : Int} (f : Int) (hf : f = 0 ∨ f = 1) (h : sevB t = true) : m.step t f = if iniB t = true then m.begin_ (if rtlB t f = true then 1 else 0) else m.embed (if rtlB t f = true then 1 else 0) (ovr t) := by
  rw [sevB_iff] at h
  by_cases e : t = 21
  · subst e
    rw [if_pos (by decide), step_21]
    rcases hf with rfl | rfl
    · rw [if_neg (by decide)]
    · rw [if_pos (by decide)]
  · have hr : rtlB t f = decide (t = 17 ∨ t = 15 ∨ t = 20) := by
      unfold rtlB; rw [Bool.eq_iff_iff, decide_eq_true_eq, decide_eq_true_eq]; omega
    rw [hr]
    rcases h with rfl | rfl | rfl | rfl | rfl | rfl | rfl <;> first | rfl | exact absurd rfl e
theorem sevB_noiso {t : Int} (h : sevB t = true) (hi : false = iniB t) : t = 14 ∨ t = 15 ∨ t = 16 ∨ t = 17 ∨ t = 18 ∨ t = 22 ∨ t = 7 := by
  rw [sevB_iff] at h
  have : iniB t = decide (t = 19 ∨ t = 20 ∨ t = 21) := rfl
  rw [this] at hi
  have := of_decide_eq_false hi.symm
  omega
theorem sevB_isorange {t : Int} (h : sevB t = true) (hi : true = iniB t) : ¬ (t = 14 ∨ t = 15 ∨ t = 16 ∨ t = 17 ∨ t = 18 ∨ t = 22 ∨ t = 7) := by
  have : iniB t = decide (t = 19 ∨ t = 20 ∨ t = 21) := rfl
  rw [this] at hi
  have := of_decide_eq_true hi.symm
  omega
theorem sevB_rem {t : Int} (h : sevB t = true) (hr : remN t = false) : iniB t = true := by
  rw [sevB_iff] at h
  rcases h with rfl | rfl | rfl | rfl | rfl | rfl | rfl <;> first | rfl | exact absurd hr (by decide)
theorem sevB_ne {t : Int} (h : sevB t = true) : t ≠ 22 ∧ t ≠ 7 := by rw [sevB_iff] at h; omega
theorem ovr_iso {t : Int} (hi : true = iniB t) : ovr t = -1 := by
  have : iniB t = decide (t = 19 ∨ t = 20 ∨ t = 21) := rfl
  rw [this] at hi
  have := of_decide_eq_true hi.symm
  unfold ovr
  rw [if_neg (by omega), if_neg (by omega)]
theorem cls_fsi {t : Int} (h : cls t = 23) : t = 21 := by
  unfold cls at h
  split at h
  · omega
  · split at h <;> omega
theorem cls_lro {t : Int} (h : cls t = 16) : t = 14 := by
  unfold cls at h
  split at h
  · omega
  · split at h <;> omega
theorem cls_rlo {t : Int} (h : cls t = 17) : t = 15 := by
  unfold cls at h
  split at h
  · omega
  · split at h <;> omega
theorem tI_same {x fs : Nat → Int} {base : Int} {k : Nat} (h : x k = 14 ∨ x k = 15 ∨ x k = 16 ∨ x k = 17 ∨ x k = 18 ∨ x k = 22 ∨ x k = 7) : tI x fs base k = x k := by unfold tI; rw [if_pos h]
theorem next_range {m : Mst} {v : Nat} {o : Int} (hv : m.top = v) (h2 : v ≤ 125) : 0 ≤ m.next o ∧ m.next o ≤ 127 := by
  unfold Mst.next
  rw [hv]
  split <;> omega
theorem Mst.Ok.tov_or {base : Int} {i : Nat} {m : Mst} (h : Mst.Ok base i m) : m.tov = -1 ∨ m.tov = 0 ∨ m.tov = 1 := h.ov _ (by have := h.d1; omega)
theorem lvl_b {x fs : Nat → Int} {base : Int} {k : Nat} (h : x k = 7) : lvl x fs base k = base := by unfold lvl; rw [if_neg (by omega), if_pos h]
theorem oth_range {t : Int} (h1 : ¬ sevB t = true) (h2 : t ≠ 22) (h3 : t ≠ 18) (h4 : t ≠ 7) : sevB t = false ∧ ¬ (t = 14 ∨ t = 15 ∨ t = 16 ∨ t = 17 ∨ t = 18 ∨ t = 22 ∨ t = 7) := by
  refine ⟨by simpa using h1, ?_⟩
  rw [sevB_iff] at h1
  omega
theorem oth_cls {t : Int} (hr : 0 ≤ t ∧ t < 23) (h : sevB t = false ∧ ¬ (t = 14 ∨ t = 15 ∨ t = 16 ∨ t = 17 ∨ t = 18 ∨ t = 22 ∨ t = 7)) :
    (cls t == 19) = false ∧ (cls t == 18) = false ∧ (cls t == 17) = false ∧ (cls t == 16) = false ∧ (cls t == 22) = false ∧ (cls t == 21) = false ∧ (cls t == 23) = false ∧ (cls t == 24) = false ∧ (cls t == 20) = false ∧ (cls t == 7) = false := by
  have h1 : ¬ sevB t = true := by rw [h.1]; decide
  rw [sevB_iff] at h1
  have h2 := h.2
  have : cls t = if t ≤ 13 then t else t + 2 := by unfold cls; rw [if_neg (by omega)]
  simp only [beq_eq_false_iff_ne]
  rw [this]
  split <;> omega
theorem oth_step {m : Mst} {t f : Int} (h : sevB t = false ∧ ¬ (t = 14 ∨ t = 15 ∨ t = 16 ∨ t = 17 ∨ t = 18 ∨ t = 22 ∨ t = 7)) : m.step t f = m := by
  have h1 : ¬ sevB t = true := by rw [h.1]; decide
  rw [sevB_iff] at h1
  have h2 := h.2
  unfold Mst.step
  rw [if_neg (by omega), if_neg (by omega), if_neg (by omega), if_neg (by omega), if_neg (by omega), if_neg (by omega), if_neg (by omega), if_neg (by omega), if_neg (by omega)]

/-- Behind the level and the override of an initiator. -/
def Mid (w : World) (B p K T R N6 capT n : Nat) (f0 f1 f2 f7 : Value) (base : Int) (x : Nat → Int) (k : Nat) (cl : Nat → Int) (M : Mst) (iso : Bool) (wx : World) : Prop :=
  ∃ ct cl2, (∀ i, i ≠ k → ct i = ctK x (fsI n x) base k i) ∧ ct k = cls (tI x (fsI n x) base k) ∧ (∀ i, i ≠ k → cl2 i = cl i) ∧ (iso = true → cl2 k = M.top) ∧
    EX w B p K T R N6 capT n f0 f1 f2 f7 base (fun i => cls (x i)) ct cl2 wx ∧ SRow wx K M

/-- What the loop holds when k characters are done. -/
def Nxt (w : World) (B p K T R N6 capT n : Nat) (f0 f1 f2 f7 : Value) (base : Int) (x : Nat → Int) (k : Nat) (o3 o4 o5 : Value) (wx : World) : Prop :=
  ∃ cl, (∀ i, i < k → remN (x i) = false → cl i = lvl x (fsI n x) base i) ∧ EX w B p K T R N6 capT n f0 f1 f2 f7 base (fun i => cls (x i)) (ctK x (fsI n x) base k) cl wx ∧
    (k < n → SRow wx K (mst x (fsI n x) base k) ∧ o3 = .int .i64 (mst x (fsI n x) base k).oi ∧ o4 = .int .i64 (mst x (fsI n x) base k).oe ∧ o5 = .int .i64 (mst x (fsI n x) base k).vi)

theorem Nxt.of {w : World} {B p K T R N6 capT n : Nat} {f0 f1 f2 f7 : Value} {base : Int} {x ct cl : Nat → Int} {k : Nat} {o3 o4 o5 : Value} {wx : World}
    (hE : EX w B p K T R N6 capT n f0 f1 f2 f7 base (fun i => cls (x i)) ct cl wx) (h1 : ∀ i, i < n → i ≠ k → ct i = ctK x (fsI n x) base k i) (h2 : ct k = cls (tI x (fsI n x) base k))
    (h3 : ∀ i, i < k → remN (x i) = false → cl i = lvl x (fsI n x) base i) (h4 : remN (x k) = false → cl k = lvl x (fsI n x) base k)
    (h5 : k + 1 < n → SRow wx K (mst x (fsI n x) base (k + 1)) ∧ o3 = .int .i64 (mst x (fsI n x) base (k + 1)).oi ∧ o4 = .int .i64 (mst x (fsI n x) base (k + 1)).oe ∧ o5 = .int .i64 (mst x (fsI n x) base (k + 1)).vi) :
    Nxt w B p K T R N6 capT n f0 f1 f2 f7 base x (k + 1) o3 o4 o5 wx := by
  refine ⟨cl, fun i hi hr => ?_, hE.congr (fun i hi => ?_) (fun _ _ => rfl), h5⟩
  · by_cases e : i = k
    · subst e; exact h4 hr
    · exact h3 i (by omega) hr
  · unfold ctK
    by_cases e : i = k
    · subst e; rw [h2, if_pos (by omega)]
    · rw [h1 i hi e]; unfold ctK
      by_cases h : i < k
      · rw [if_pos h, if_pos (by omega)]
      · rw [if_neg h, if_neg (by omega)]

end Go.Proofs.YtjelgbfgciaapaaDoor
