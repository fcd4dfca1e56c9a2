/- The methods of spec.explicit: the stack of X1 to X8 in the statements' own reference. -/
import Derived.Test.YtjelgbfgciaapaaDoorWide
import Derived.Deep.MidRow
import Derived.Test.YtjelgbfgciaapaaDoorQTail
import Derived.Test.YtjelgbfgciaapaaDoorStk
import Derived.Test.YtjelgbfgciaapaaDoorRet
import Derived.Test.YtjelgbfgciaapaaDoorInfo
import Derived.Test.YtjelgbfgciaapaaDoorExp
import Derived.Test.YtjelgbfgciaapaaDoorFirst
namespace Go.Proofs.YtjelgbfgciaapaaDoor
open Go.RowKit
set_option linter.unusedVariables false

def pf4 (f0 f1 f2 f3 : Value) : Nat → Value
  | 0 => f0 | 1 => f1 | 2 => f2 | 3 => f3 | _ => f3

theorem pf4_set0 {w : World} {p : Nat} {t : TypeId} {f0 f1 f2 f3 : Value} (h : w.rowIs p t 4 (pf4 f0 f1 f2 f3)) (v : Value) : (w.setCell ⟨p, 0, none⟩ v).rowIs p t 4 (pf4 v f1 f2 f3) :=
  (h.set 0 v).congr fun i hi => match i, hi with | 0, _ => rfl | 1, _ => rfl | 2, _ => rfl | 3, _ => rfl
theorem pf4_set1 {w : World} {p : Nat} {t : TypeId} {f0 f1 f2 f3 : Value} (h : w.rowIs p t 4 (pf4 f0 f1 f2 f3)) (v : Value) : (w.setCell ⟨p, 1, none⟩ v).rowIs p t 4 (pf4 f0 v f2 f3) :=
  (h.set 1 v).congr fun i hi => match i, hi with | 0, _ => rfl | 1, _ => rfl | 2, _ => rfl | 3, _ => rfl
theorem pf4_set2 {w : World} {p : Nat} {t : TypeId} {f0 f1 f2 f3 : Value} (h : w.rowIs p t 4 (pf4 f0 f1 f2 f3)) (v : Value) : (w.setCell ⟨p, 2, none⟩ v).rowIs p t 4 (pf4 f0 f1 v f3) :=
  (h.set 2 v).congr fun i hi => match i, hi with | 0, _ => rfl | 1, _ => rfl | 2, _ => rfl | 3, _ => rfl
theorem pf4_set3 {w : World} {p : Nat} {t : TypeId} {f0 f1 f2 f3 : Value} (h : w.rowIs p t 4 (pf4 f0 f1 f2 f3)) (v : Value) : (w.setCell ⟨p, 3, none⟩ v).rowIs p t 4 (pf4 f0 f1 f2 v) :=
  (h.set 3 v).congr fun i hi => match i, hi with | 0, _ => rfl | 1, _ => rfl | 2, _ => rfl | 3, _ => rfl

/-- An entry's cells. -/
def ent (m : Mst) (j : Nat) : List Value := [.int .i64 (m.lv j), .int .i64 (m.ov j), .bool (m.iso j)]
theorem ent_len (m : Mst) (j : Nat) : (ent m j).length = 3 := rfl

/-- The stack in memory: the struct at P, its entries in block q. -/
structure SpRow (w : World) (base P q cap : Nat) (m : Mst) : Prop where
  row : w.rowIs P 48 4 (pf4 (.slice (some ⟨q, 0, none⟩) m.d cap) (.int .i64 m.oi) (.int .i64 m.oe) (.int .i64 m.vi))
  st : Gw w base 45 3 (.slice (some ⟨q, 0, none⟩) m.d cap) m.d (ent m)
  ne : q ≠ P
  P1 : base ≤ P

section
variable {w w' : World} {base P q cap : Nat} {m : Mst}
theorem SpRow.q1 (h : SpRow w base P q cap m) : base ≤ q := (h.st.ge q rfl).1
theorem SpRow.qlt (h : SpRow w base P q cap m) : q < w.heap.size := (h.st.ge q rfl).2
theorem SpRow.since (h : SpRow w base P q cap m) (s : w.Since w.heap.size w') : SpRow w' base P q cap m := ⟨h.row.of_block (s.block _ h.row.lt), h.st.since s, h.ne, h.P1⟩
theorem SpRow.kept (h : SpRow w base P q cap m) (e1 : w'.heap[P]? = w.heap[P]?) (e2 : w'.heap[q]? = w.heap[q]?) : SpRow w' base P q cap m :=
  ⟨h.row.of_block e1, h.st.kept' (fun k hk => by simp only [Value.ownBlock, Option.some.injEq] at hk; subst hk; exact e2), h.ne, h.P1⟩
theorem SpRow.lv (h : SpRow w base P q cap m) {j : Nat} (hj : j < m.d) : w.cell? ⟨q, j * 3 + 0, none⟩ = some (.int .i64 (m.lv j)) := h.st.cell (fun i _ => ent_len m i) hj (by omega) _ rfl
theorem SpRow.ov (h : SpRow w base P q cap m) {j : Nat} (hj : j < m.d) : w.cell? ⟨q, j * 3 + 1, none⟩ = some (.int .i64 (m.ov j)) := h.st.cell (fun i _ => ent_len m i) hj (by omega) _ rfl
theorem SpRow.iso (h : SpRow w base P q cap m) {j : Nat} (hj : j < m.d) : w.cell? ⟨q, j * 3 + 2, none⟩ = some (.bool (m.iso j)) := h.st.cell (fun i _ => ent_len m i) hj (by omega) _ rfl
theorem SpRow.drewN (h : SpRow w base P q cap m) (k : Nat) : SpRow (w.drewN k) base P q cap m := ⟨h.row, h.st, h.ne, h.P1⟩
end

theorem wrap_pred' {d : Nat} (h1 : 1 ≤ d) (h2 : d ≤ 4294967296) : IntKind.i64.wrap ((d : Int) - 1) = ((d - 1 : Nat) : Int) := by
  have : ((d : Int) - 1) = ((d - 1 : Nat) : Int) := by omega
  rw [this]
  unfold IntKind.wrap
  simp [IntKind.signed, IntKind.bits]
  omega

theorem entryInfo : (Tryd.prog.info? 45).map (·.size) = some 3 := by kernel_rfl
theorem entryIs : Tryd.prog.underlying 45 = some (.struct (match Tryd.prog.underlying 45 with | some (.struct fs) => fs | _ => #[])) := by kernel_rfl

theorem index_ent {q n cap i : Nat} (hi : i < n) (w : World) : (Instr.indexAt 46 (.slice (some ⟨q, 0, none⟩) n cap) (.int .i64 (i : Int))).run Tryd.prog w = .ok (.pointer (some ⟨q, i * 3, none⟩)) w := by
  rw [run_indexAt_slice w _ _ _ _ _ _ (by kernel_rfl)]
  have hs : (sizeOf (Tryd.prog.elem 46)).run Tryd.prog w = .ok 3 w := by
    have e : Tryd.prog.elem 46 = 45 := by kernel_rfl
    rw [e]
    obtain ⟨inf, h1, h2⟩ := Option.map_eq_some_iff.1 entryInfo
    simp [sizeOf, typeInfo, h1, h2]
  rw [if_pos ⟨by omega, by omega⟩, hs]
  have e2 : (⟨q, 0, none⟩ : Addr).add (i * 3) = ⟨q, i * 3, none⟩ := by
    unfold Addr.add
    by_cases h0 : i * 3 = 0
    · rw [if_pos h0, h0]
    · rw [if_neg h0, Nat.zero_add]
  simp [e2]

theorem load_ent {w : World} {q o : Nat} {a b c : Value} (h0 : w.cell? ⟨q, o, none⟩ = some a) (h1 : w.cell? ⟨q, o + 1, none⟩ = some b) (h2 : w.cell? ⟨q, o + 2, none⟩ = some c) :
    (Instr.loadAt 45 (.pointer (some ⟨q, o, none⟩))).run Tryd.prog w = .ok (.agg #[a, b, c]) w :=
  run_loadAt_mid w q o 45 [a, b, c] _ (fun j v hj => match j, hj with
    | 0, hj => by simp at hj; subst hj; exact h0
    | 1, hj => by simp at hj; subst hj; exact h1
    | 2, hj => by simp at hj; subst hj; exact h2
    | (j + 3), hj => by simp at hj) entryIs (by kernel_rfl) entryInfo

theorem fld0 (a b c : Value) (w : World) (ha : ∃ x, a = .int .i64 x) : (Instr.field 45 (.agg #[a, b, c]) 0).run Tryd.prog w = .ok a w := by
  obtain ⟨x, rfl⟩ := ha
  kernel_rfl
theorem fld2 (a b c : Value) (w : World) (hc : ∃ x, c = .bool x) : (Instr.field 45 (.agg #[a, b, c]) 2).run Tryd.prog w = .ok c w := by
  obtain ⟨x, rfl⟩ := hc
  kernel_rfl

theorem wrap_nat {d : Nat} (h2 : d ≤ 4294967296) : IntKind.i64.wrap (d : Int) = (d : Int) := by
  unfold IntKind.wrap
  simp [IntKind.signed, IntKind.bits]
  omega

set_option maxHeartbeats 1000000 in
theorem top_any {base P q cap : Nat} {m : Mst} (w : World) (h : SpRow w base P q cap m) (h1 : 1 ≤ m.d) (h2 : m.d ≤ 4294967296) :
    Calls Tryd.prog 27 #[.pointer (some ⟨P, 0, none⟩)] w fun e w' => e = .returned (.agg #[.int .i64 m.top, .int .i64 m.tov, .bool m.tiso]) ∧ w.Since w.heap.size w' := by
  have hz : P ≠ w.heap.size := by have := h.row.lt; omega
  have hz2 : q ≠ w.heap.size := by have := h.qlt; omega
  obtain ⟨d, hd⟩ : ∃ d, m.d = d + 1 := ⟨m.d - 1, by omega⟩
  have h' := h.since (w' := w.alloc (.cells #[.int .i64 0, .int .i64 0, .bool false] 45)) ((World.Since.refl _ _).alloc (Nat.le_refl _) _)
  have c0 : (w.alloc (.cells #[.int .i64 0, .int .i64 0, .bool false] 45)).cell? ⟨P, 0, none⟩ = some (.slice (some ⟨q, 0, none⟩) m.d cap) := h'.row.cell (by omega)
  have c1 : (w.alloc (.cells #[.int .i64 0, .int .i64 0, .bool false] 45)).cell? ⟨q, d * 3, none⟩ = some (.int .i64 (m.lv d)) := h'.lv (j := d) (by omega)
  have c2 := h'.ov (j := d) (by omega)
  have c3 := h'.iso (j := d) (by omega)
  rw [hd] at c0
  have HT := Lib.hid (show m.top = m.lv d ∧ m.tov = m.ov d ∧ m.tiso = m.iso d from by unfold Mst.top Mst.tov Mst.tiso; rw [hd, Nat.add_sub_cancel]; exact ⟨rfl, rfl, rfl⟩)
  have hw := wrap_nat (d := d) (by omega)
  have hix := fun wx => index_ent (q := q) (n := d + 1) (cap := cap) (i := d) (by omega) wx
  obtain ⟨wa, hwa⟩ : ∃ wa, wa = w.alloc (.cells #[.int .i64 0, .int .i64 0, .bool false] 45) := ⟨_, rfl⟩
  have hrr : wa.rowIs w.heap.size 45 3 (fun i => (#[Value.int .i64 0, .int .i64 0, .bool false][i]?).getD undef) := by
    rw [hwa]
    exact World.rowIs_alloc w _ _ _ (fun i hi => by rw [Array.getElem?_eq_getElem hi]; rfl)
  have hsa : w.Since w.heap.size wa := by rw [hwa]; exact (World.Since.refl _ _).alloc (Nat.le_refl _) _
  have HWA := Lib.hid hwa
  rw [← hwa] at c0 c1 c2 c3
  have hld := fun k => load_ent (w := wa.drewN k) (q := q) (o := d * 3) c1 c2 c3
  obtain ⟨S, hS⟩ : ∃ S, S = w.heap.size := ⟨_, rfl⟩
  rw [← hS] at hrr hsa
  have HS := Lib.hid hS
  clear h h' h1 hd hwa hz hz2 hS
  go_enter Tryd.func27, Tryd.ntmps27
  go_upto_region 1 with fail
  rw [← HWA.out, ← HS.out]
  refine wp_region_quiet_tail 12 (by kernel_rfl) (by kernel_rfl) ?_
  simp only [List.take_succ_cons, List.take_zero, List.drop_succ_cons, List.drop_zero]
  repeat (quiet_step (fail))
  refine wpQuiet_nil ?_
  rintro _ ⟨nq, rfl⟩
  have z0 := hrr.frozen 0
  have z1 := hrr.frozen 1
  have z2 := hrr.frozen 2
  have y0 := hrr.cell (i := 0) (by omega)
  have y1 := hrr.cell (i := 1) (by omega)
  have y2 := hrr.cell (i := 2) (by omega)
  go_wp2_with fail
  have R1 := ((hrr.of_block (w' := wa.drewN nq) rfl).set 0 (.int .i64 (m.lv d)))
  have R2 := R1.set 1 (.int .i64 (m.ov d))
  have R3 := R2.set 2 (.bool (m.iso d))
  have k0 := R3.cell (i := 0) (by omega)
  have k1 := R3.cell (i := 1) (by omega)
  have k2 := R3.cell (i := 2) (by omega)
  have hfin : w.Since S ((((wa.drewN nq).setCell ⟨S, 0, none⟩ (.int .i64 (m.lv d))).setCell ⟨S, 1, none⟩ (.int .i64 (m.ov d))).setCell ⟨S, 2, none⟩ (.bool (m.iso d))) :=
    (((since_drewN hsa nq).setCell (a := ⟨S, 0, none⟩) (Nat.le_refl _) _).setCell (a := ⟨S, 1, none⟩) (Nat.le_refl _) _).setCell (a := ⟨S, 2, none⟩) (Nat.le_refl _) _
  generalize (((wa.drewN nq).setCell ⟨S, 0, none⟩ (.int .i64 (m.lv d))).setCell ⟨S, 1, none⟩ (.int .i64 (m.ov d))).setCell ⟨S, 2, none⟩ (.bool (m.iso d)) = wf at k0 k1 k2 hfin ⊢
  simp at k0 k1 k2
  exact bodyPost_ret (v := .agg #[.int .i64 (m.lv d), .int .i64 (m.ov d), .bool (m.iso d)]) (by simp [results, Tryd.results27, go_sem, k0, k1, k2]) rfl ⟨by rw [HT.out.1, HT.out.2.1, HT.out.2.2], HS.out ▸ hfin⟩

set_option maxHeartbeats 1000000 in
set_option maxRecDepth 100000 in
theorem next_any {base P q cap : Nat} {m : Mst} {odd : Int} (w : World) (h : SpRow w base P q cap m) (h1 : 1 ≤ m.d) (h2 : m.d ≤ 4294967296) (ht0 : 0 ≤ m.top) (ht1 : m.top ≤ 125) (ho : odd = 0 ∨ odd = 1) :
    Calls Tryd.prog 43 #[.pointer (some ⟨P, 0, none⟩), .int .i64 odd] w fun e w' => e = .returned (.int .i64 (m.next odd)) ∧ w.Since w.heap.size w' := by
  obtain ⟨t, ht⟩ : ∃ t, t = m.top := ⟨_, rfl⟩
  rw [← ht] at ht0 ht1
  have htm : (t + 1).tmod 2 = (t + 1) % 2 := Int.tmod_eq_emod_of_nonneg (by omega)
  obtain ⟨r, hr⟩ : ∃ r, r = (t + 1) % 2 := ⟨_, rfl⟩
  rw [← hr] at htm
  have HTT := Lib.hid ht
  have HR := Lib.hid hr
  clear ho ht hr
  by_cases hp : r = odd
  · have HN := Lib.hid (show m.next odd = t + 1 by unfold Mst.next; rw [← HTT.out, if_pos (HR.out ▸ hp)])
    have hb : (r != odd) = false := by rw [hp]; simp
    have HP := Lib.hid hp
    clear hp
    go_enter Tryd.func43, Tryd.ntmps43
    go_wp2_with fail
    refine (top_any _ h h1 h2).mono ?_
    rintro e w1 ⟨rfl, hs⟩
    rw [← HTT.out]
    have hfd := fun w => fld0 (.int .i64 t) (.int .i64 m.tov) (.bool m.tiso) w ⟨_, rfl⟩
    go_wp2_with fail
    go_ret
    exact ⟨ret_int HN.out.symm, hs⟩
  · have HN := Lib.hid (show m.next odd = t + 2 by unfold Mst.next; rw [← HTT.out, if_neg (HR.out ▸ hp)])
    have hb : (r != odd) = true := by simpa using hp
    have HP := Lib.hid hp
    clear hp
    go_enter Tryd.func43, Tryd.ntmps43
    go_wp2_with fail
    refine (top_any _ h h1 h2).mono ?_
    rintro e w1 ⟨rfl, hs⟩
    rw [← HTT.out]
    have hfd := fun w => fld0 (.int .i64 t) (.int .i64 m.tov) (.bool m.tiso) w ⟨_, rfl⟩
    go_wp2_with fail
    go_ret
    exact ⟨ret_int (by rw [HN.out]; omega), hs⟩

/-- What a method leaves: the stack turned, nothing else of what was there. -/
def SpDone (w : World) (base P q : Nat) (m' : Mst) (e : Ending) (w' : World) : Prop :=
  e = .returned (.tuple #[]) ∧ ∃ q' cap', SpRow w' base P q' cap' m' ∧ Kp (fun k => k = P ∨ k = q) w w' ∧ (q' = q ∨ w.heap.size ≤ q')

theorem ent_push (m : Mst) (l o : Int) (b : Bool) (i : Nat) : ent (m.push l o b) i = if i = m.d then [.int .i64 l, .int .i64 o, .bool b] else ent m i := by
  show [Value.int .i64 (Mst.up m.lv m.d l i), .int .i64 (Mst.up m.ov m.d o i), .bool (Mst.up m.iso m.d b i)] = _
  by_cases e : i = m.d
  · rw [if_pos e, e, Mst.up_at, Mst.up_at, Mst.up_at]
  · rw [if_neg e, Mst.up_ne _ _ e, Mst.up_ne _ _ e, Mst.up_ne _ _ e]; rfl

theorem SpRow.kpP {w w' : World} {base P q cap : Nat} {m : Mst} (h : Kp (fun k => k = P) w w') : Kp (fun k => k = P ∨ k = q) w w' := h.mono (fun _ _ e => .inl e)

theorem SpRow.base {w : World} {base P q cap : Nat} {m m' : Mst} (h : SpRow w base P q cap m) (e : m'.d = m.d) (e1 : m'.lv = m.lv) (e2 : m'.ov = m.ov) (e3 : m'.iso = m.iso) (e4 : m'.oi = m.oi) (e5 : m'.oe = m.oe) (e6 : m'.vi = m.vi) : SpRow w base P q cap m' := by
  obtain ⟨d, lv, ov, iso, oi, oe, vi⟩ := m'
  subst e e1 e2 e3 e4 e5 e6
  exact h

set_option maxHeartbeats 2000000 in
theorem embed_any {base P q cap : Nat} {m : Mst} {odd av : Int} (w : World) (h : SpRow w base P q cap m) (h1 : 1 ≤ m.d) (h2 : m.d ≤ 4294967295) (ht0 : 0 ≤ m.top) (ht1 : m.top ≤ 125) (ho : odd = 0 ∨ odd = 1) (hoe : m.oe ≤ 4294967295) :
    Calls Tryd.prog 28 #[.pointer (some ⟨P, 0, none⟩), .int .i64 odd, .int .i64 av] w (SpDone w base P q (m.embed odd av)) := by
  obtain ⟨nl, hnl⟩ : ∃ nl, nl = m.next odd := ⟨_, rfl⟩
  have HNL := Lib.hid hnl
  have HOO := Lib.hid ho
  clear ho
  go_enter Tryd.func28, Tryd.ntmps28
  go_wp2_with fail
  refine (next_any _ h h1 (by omega) ht0 ht1 HOO.out).mono ?_
  rintro e w1 ⟨rfl, hs⟩
  rw [← hnl]
  clear hnl
  have h' := h.since hs
  have k0 : w1.cell? ⟨P, 0, none⟩ = some (.slice (some ⟨q, 0, none⟩) m.d cap) := h'.row.cell (by omega)
  have k1 : w1.cell? ⟨P, 1, none⟩ = some (.int .i64 m.oi) := h'.row.cell (by omega)
  have k2 : w1.cell? ⟨P, 2, none⟩ = some (.int .i64 m.oe) := h'.row.cell (by omega)
  have hne := h'.ne
  have hPlt := h'.row.lt
  have hqlt := h'.qlt
  have hsz := hs.size
  by_cases hroom : nl ≤ 125 ∧ m.oi = 0 ∧ m.oe = 0
  · have HRM := Lib.hid hroom
    have HE := Lib.hid (show m.embed odd av = m.push nl av false by
      unfold Mst.embed
      rw [if_pos (show m.room odd from ⟨by rw [← HNL.out]; exact hroom.1, hroom.2⟩), HNL.out])
    obtain ⟨r1, r2, r3⟩ := hroom
    have t2 : ((m.oi : Int) == 0) = true := by rw [r2]; rfl
    have t3 : ((m.oe : Int) == 0) = true := by rw [r3]; rfl
    clear r2 r3
    go_wp2_with (at_builtin; refine wpList_pushW w1 rfl (.tmp 31) (.tmp 35) 46 rfl base 45 (.agg #[.int .i64 0, .int .i64 0, .bool false]) 3 24 Tryd.underlying46 (by kernel_rfl) rfl (by omega) _ m.d (ent m) [.int .i64 nl, .int .i64 av, .bool false] (by rfl) h'.st (by rfl) rfl (fun u hu => by simp at hu; rcases hu with rfl | rfl | rfl <;> rfl) (by omega) (by omega) (by have := h'.q1; omega) ?_)
    intro v2 w2 hg2 hgr2 hat
    obtain ⟨q2, cap2, rfl, hb2, _⟩ := hg2.form (by omega)
    have hPq : q2 ≠ P := by
      rcases hat with e | e
      · simp only [Value.ownBlock, Option.some.injEq] at e; omega
      · simp only [Value.ownBlock, Option.some.injEq] at e; omega
    have hq2 : q2 = q ∨ w.heap.size ≤ q2 := by
      rcases hat with e | e
      · simp only [Value.ownBlock, Option.some.injEq] at e; exact .inl e
      · simp only [Value.ownBlock, Option.some.injEq] at e; exact .inr (by omega)
    have hrow := (h'.row.alloc (.cells #[.int .i64 nl, .int .i64 av, .bool false] 45)).of_block (hgr2.block P (by simp; omega) (by simp only [Value.ownBlock]; intro e; simp only [Option.some.injEq] at e; omega))
    have kk : w2.cell? ⟨P, 0, none⟩ = some (.slice (some ⟨q, 0, none⟩) m.d cap) := hrow.cell (by omega)
    have zz := hrow.frozen 0
    have hrow2 := pf4_set0 hrow (.slice (some ⟨q2, 0, none⟩) (m.d + 1) cap2)
    have hk2 : Kp (fun k => k = P ∨ k = q) w (w2.setCell ⟨P, 0, none⟩ (.slice (some ⟨q2, 0, none⟩) (m.d + 1) cap2)) :=
      (((Kp.since hs _).alloc _).grown hgr2 (fun k hk => by simp only [Value.ownBlock, Option.some.injEq] at hk; exact .inl (.inr hk.symm))).setCell (a := ⟨P, 0, none⟩) (.inl (.inl rfl)) _
    have hst : Gw (w2.setCell ⟨P, 0, none⟩ (.slice (some ⟨q2, 0, none⟩) (m.d + 1) cap2)) base 45 3 (.slice (some ⟨q2, 0, none⟩) (m.d + 1) cap2) (m.d + 1) (ent (m.push nl av false)) :=
      (hg2.kept' (fun k hk => by
        simp only [Value.ownBlock, Option.some.injEq] at hk
        subst hk
        exact Go.Deep.blk_setCell_other _ _ _ _ (by show q2 ≠ P; exact hPq))).congr (fun i _ => (ent_push m nl av false i).symm)
    have HSP := Lib.hid (show SpRow (w2.setCell ⟨P, 0, none⟩ (.slice (some ⟨q2, 0, none⟩) (m.d + 1) cap2)) base P q2 cap2 (m.push nl av false) from ⟨hrow2, hst, hPq, h'.P1⟩)
    have HQ2 := Lib.hid hq2
    clear hat hg2 hgr2 hrow hrow2 hst h' h hq2 k0 k1 k2
    go_wp2_with fail
    go_end0
    exact ⟨rfl, q2, cap2, HE.out ▸ HSP.out, hk2, HQ2.out⟩
  · have HNR := Lib.hid hroom
    have hnr : ¬ m.room odd := fun r => hroom ⟨by rw [HNL.out]; exact r.1, r.2⟩
    have hrow3 := pf4_set2 h'.row (.int .i64 ((m.oe : Int) + 1))
    have zz := h'.row.frozen 2
    by_cases hoi : m.oi = 0
    · have HE := Lib.hid (show m.embed odd av = { m with oe := m.oe + 1 } by unfold Mst.embed; rw [if_neg hnr, if_pos hoi])
      have t2 : ((m.oi : Int) == 0) = true := by rw [hoi]; rfl
      have hk2 : Kp (fun k => k = P ∨ k = q) w (w1.setCell ⟨P, 2, none⟩ (.int .i64 ((m.oe : Int) + 1))) := (Kp.since hs _).setCell (a := ⟨P, 2, none⟩) (.inl (.inl rfl)) _
      have HSP : Hid (SpRow (w1.setCell ⟨P, 2, none⟩ (.int .i64 ((m.oe : Int) + 1))) base P q cap { m with oe := m.oe + 1 }) := Lib.hid ⟨hrow3, h'.st.kept' (fun k hk => by
        simp only [Value.ownBlock, Option.some.injEq] at hk
        subst hk
        exact Go.Deep.blk_setCell_other _ _ _ _ (by show q ≠ P; exact hne)), hne, h'.P1⟩
      clear hroom hnr hrow3 h h'
      by_cases hl : nl ≤ 125
      · have t3 : ((m.oe : Int) == 0) = false := by
          rw [beq_eq_false_iff_ne]; intro e
          exact HNR.out ⟨hl, hoi, by omega⟩
        clear hoi
        go_wp2_with fail
        go_end0
        exact ⟨rfl, q, cap, HE.out ▸ HSP.out, hk2, .inl rfl⟩
      · clear hoi
        go_wp2_with fail
        go_end0
        exact ⟨rfl, q, cap, HE.out ▸ HSP.out, hk2, .inl rfl⟩
    · have HE := Lib.hid (show m.embed odd av = m by unfold Mst.embed; rw [if_neg hnr, if_neg hoi])
      have t2 : ((m.oi : Int) == 0) = false := by rw [beq_eq_false_iff_ne]; omega
      have HSP := Lib.hid h'
      have hk2 : Kp (fun k => k = P ∨ k = q) w w1 := Kp.since hs _
      clear hroom hnr hrow3 h h' hoi
      by_cases hl : nl ≤ 125
      all_goals
        go_wp2_with fail
        go_end0
        exact ⟨rfl, q, cap, HE.out.symm ▸ HSP.out, hk2, .inl rfl⟩

set_option maxHeartbeats 2000000 in
theorem begin_any {base P q cap : Nat} {m : Mst} {odd : Int} (w : World) (h : SpRow w base P q cap m) (h1 : 1 ≤ m.d) (h2 : m.d ≤ 4294967295) (ht0 : 0 ≤ m.top) (ht1 : m.top ≤ 125) (ho : odd = 0 ∨ odd = 1) (hoi5 : m.oi ≤ 4294967295) (hvi5 : m.vi ≤ 4294967295) :
    Calls Tryd.prog 30 #[.pointer (some ⟨P, 0, none⟩), .int .i64 odd] w (SpDone w base P q (m.begin_ odd)) := by
  obtain ⟨nl, hnl⟩ : ∃ nl, nl = m.next odd := ⟨_, rfl⟩
  have HNL := Lib.hid hnl
  have HOO := Lib.hid ho
  clear ho
  go_enter Tryd.func30, Tryd.ntmps30
  go_wp2_with fail
  refine (next_any _ h h1 (by omega) ht0 ht1 HOO.out).mono ?_
  rintro e w1 ⟨rfl, hs⟩
  rw [← hnl]
  clear hnl
  have h' := h.since hs
  have k0 : w1.cell? ⟨P, 0, none⟩ = some (.slice (some ⟨q, 0, none⟩) m.d cap) := h'.row.cell (by omega)
  have k1 : w1.cell? ⟨P, 1, none⟩ = some (.int .i64 m.oi) := h'.row.cell (by omega)
  have k2 : w1.cell? ⟨P, 2, none⟩ = some (.int .i64 m.oe) := h'.row.cell (by omega)
  have hne := h'.ne
  have hPlt := h'.row.lt
  have hqlt := h'.qlt
  have hsz := hs.size
  have k3 : w1.cell? ⟨P, 3, none⟩ = some (.int .i64 m.vi) := h'.row.cell (by omega)
  by_cases hroom : nl ≤ 125 ∧ m.oi = 0 ∧ m.oe = 0
  · have HRM := Lib.hid hroom
    have HE := Lib.hid (show m.begin_ odd = { m.push nl (-1) true with vi := m.vi + 1 } by
      unfold Mst.begin_
      rw [if_pos (show m.room odd from ⟨by rw [← HNL.out]; exact hroom.1, hroom.2⟩), HNL.out])
    obtain ⟨r1, r2, r3⟩ := hroom
    have t2 : ((m.oi : Int) == 0) = true := by rw [r2]; rfl
    have t3 : ((m.oe : Int) == 0) = true := by rw [r3]; rfl
    clear r2 r3
    have z3 := h'.row.frozen 3
    have hrow3 := pf4_set3 h'.row (.int .i64 ((m.vi : Int) + 1))
    have hk3 : Kp (fun k => k = P ∨ k = q) w (w1.setCell ⟨P, 3, none⟩ (.int .i64 ((m.vi : Int) + 1))) := (Kp.since hs _).setCell (a := ⟨P, 3, none⟩) (.inl (.inl rfl)) _
    have hst3 : Gw (w1.setCell ⟨P, 3, none⟩ (.int .i64 ((m.vi : Int) + 1))) base 45 3 (.slice (some ⟨q, 0, none⟩) m.d cap) m.d (ent m) := h'.st.kept' (fun k hk => by
      simp only [Value.ownBlock, Option.some.injEq] at hk
      subst hk
      exact Go.Deep.blk_setCell_other _ _ _ _ (by show q ≠ P; exact hne))
    go_upto_region 3 with fail
    have hsz3 : (w1.setCell ⟨P, 3, none⟩ (.int .i64 ((m.vi : Int) + 1))).heap.size = w1.heap.size := World.size_setCell _ _ _
    generalize w1.setCell ⟨P, 3, none⟩ (.int .i64 ((m.vi : Int) + 1)) = w3 at hrow3 hk3 hst3 hsz3 ⊢
    have HSZ3 := Lib.hid hsz3
    have hsz3' : w1.heap.size ≤ w3.heap.size := by omega
    clear hsz3
    have k03 : w3.cell? ⟨P, 0, none⟩ = some (.slice (some ⟨q, 0, none⟩) m.d cap) := hrow3.cell (by omega)
    go_wp2_with (at_builtin; refine wpList_pushW w3 rfl (.tmp 35) (.tmp 38) 46 rfl base 45 (.agg #[.int .i64 0, .int .i64 0, .bool false]) 3 24 Tryd.underlying46 (by kernel_rfl) rfl (by omega) _ m.d (ent m) [.int .i64 nl, .int .i64 (-1), .bool true] (by rfl) hst3 (by rfl) rfl (fun u hu => by simp at hu; rcases hu with rfl | rfl | rfl <;> rfl) (by omega) (by omega) (by have := h'.q1; omega) ?_)
    intro v2 w2 hg2 hgr2 hat
    obtain ⟨q2, cap2, rfl, hb2, _⟩ := hg2.form (by omega)
    have hPq : q2 ≠ P := by
      rcases hat with e | e
      · simp only [Value.ownBlock, Option.some.injEq] at e; omega
      · simp only [Value.ownBlock, Option.some.injEq] at e; omega
    have hq2 : q2 = q ∨ w.heap.size ≤ q2 := by
      rcases hat with e | e
      · simp only [Value.ownBlock, Option.some.injEq] at e; exact .inl e
      · simp only [Value.ownBlock, Option.some.injEq] at e; exact .inr (by have := HSZ3.out; omega)
    have hrow := (hrow3.alloc (.cells #[.int .i64 nl, .int .i64 (-1), .bool true] 45)).of_block (hgr2.block P (by simp; omega) (by simp only [Value.ownBlock]; intro e; simp only [Option.some.injEq] at e; omega))
    have kk : w2.cell? ⟨P, 0, none⟩ = some (.slice (some ⟨q, 0, none⟩) m.d cap) := hrow.cell (by omega)
    have zz := hrow.frozen 0
    have hrow2 := pf4_set0 hrow (.slice (some ⟨q2, 0, none⟩) (m.d + 1) cap2)
    have hk2 : Kp (fun k => k = P ∨ k = q) w (w2.setCell ⟨P, 0, none⟩ (.slice (some ⟨q2, 0, none⟩) (m.d + 1) cap2)) :=
      ((hk3.alloc _).grown hgr2 (fun k hk => by simp only [Value.ownBlock, Option.some.injEq] at hk; exact .inl (.inr hk.symm))).setCell (a := ⟨P, 0, none⟩) (.inl (.inl rfl)) _
    have hst : Gw (w2.setCell ⟨P, 0, none⟩ (.slice (some ⟨q2, 0, none⟩) (m.d + 1) cap2)) base 45 3 (.slice (some ⟨q2, 0, none⟩) (m.d + 1) cap2) (m.d + 1) (ent (m.push nl (-1) true)) :=
      (hg2.kept' (fun k hk => by
        simp only [Value.ownBlock, Option.some.injEq] at hk
        subst hk
        exact Go.Deep.blk_setCell_other _ _ _ _ (by show q2 ≠ P; exact hPq))).congr (fun i _ => (ent_push m nl (-1) true i).symm)
    have HSP : Hid (SpRow (w2.setCell ⟨P, 0, none⟩ (.slice (some ⟨q2, 0, none⟩) (m.d + 1) cap2)) base P q2 cap2 { m.push nl (-1) true with vi := m.vi + 1 }) := Lib.hid ⟨hrow2, hst, hPq, h'.P1⟩
    have HQ2 := Lib.hid hq2
    clear hat hg2 hgr2 hrow hrow2 hst h' h hq2 k0 k1 k2 k3 k03
    go_wp2_with fail
    go_end0
    exact ⟨rfl, q2, cap2, HE.out ▸ HSP.out, hk2, HQ2.out⟩
  · have HNR := Lib.hid hroom
    have hnr : ¬ m.room odd := fun r => hroom ⟨by rw [HNL.out]; exact r.1, r.2⟩
    have hrow3 := pf4_set1 h'.row (.int .i64 ((m.oi : Int) + 1))
    have zz := h'.row.frozen 1
    have HE := Lib.hid (show m.begin_ odd = { m with oi := m.oi + 1 } by unfold Mst.begin_; rw [if_neg hnr])
    have hk2 : Kp (fun k => k = P ∨ k = q) w (w1.setCell ⟨P, 1, none⟩ (.int .i64 ((m.oi : Int) + 1))) := (Kp.since hs _).setCell (a := ⟨P, 1, none⟩) (.inl (.inl rfl)) _
    have HSP : Hid (SpRow (w1.setCell ⟨P, 1, none⟩ (.int .i64 ((m.oi : Int) + 1))) base P q cap { m with oi := m.oi + 1 }) := Lib.hid ⟨hrow3, h'.st.kept' (fun k hk => by
        simp only [Value.ownBlock, Option.some.injEq] at hk
        subst hk
        exact Go.Deep.blk_setCell_other _ _ _ _ (by show q ≠ P; exact hne)), hne, h'.P1⟩
    clear hroom hnr hrow3 h h'
    go_upto_region 1 with fail
    go_cut [23] (fun b wx => b = .bool false ∧ wx = w1)
    case first =>
      by_cases hl : nl ≤ 125
      · by_cases ho : m.oi = 0
        · have t2 : ((m.oi : Int) == 0) = true := by rw [ho]; rfl
          have t3 : ((m.oe : Int) == 0) = false := by
            rw [beq_eq_false_iff_ne]; intro e
            exact HNR.out ⟨hl, ho, by omega⟩
          clear ho
          go_wp2_with fail
          go_meet
          exact ⟨rfl, rfl⟩
        · have t2 : ((m.oi : Int) == 0) = false := by rw [beq_eq_false_iff_ne]; omega
          clear ho
          go_wp2_with fail
          go_meet
          exact ⟨rfl, rfl⟩
      · go_wp2_with fail
        go_meet
        exact ⟨rfl, rfl⟩
    obtain ⟨rfl, rfl⟩ := hcut
    go_wp2_with fail
    go_end0
    exact ⟨rfl, q, cap, HE.out ▸ HSP.out, hk2, .inl rfl⟩

/-- 'x[:hi]'. -/
theorem cut_ent {q n cap hi : Nat} (hn : n ≤ cap) (h2 : hi ≤ n) (w : World) : (Instr.slice 46 (.slice (some ⟨q, 0, none⟩) n cap) none (some (.int .i64 (hi : Int))) none).run Tryd.prog w = .ok (.slice (some ⟨q, 0, none⟩) hi cap) w := by
  obtain ⟨inf, h3, h4⟩ := Option.map_eq_some_iff.1 entryInfo
  have q1 : ((hi : Nat) : Int) ≤ (cap : Int) := by omega
  simp [Instr.slice, run_underlying Tryd.underlying46, Instr.sliceBounds, run_sliceBound, sizeOf, typeInfo, h3, q1]
  intro _
  simp [Addr.add]

theorem SpRow.cap {w : World} {base P q cap : Nat} {m : Mst} (h : SpRow w base P q cap m) : m.d ≤ cap := by
  rcases h.st.2 with ⟨h1, _⟩ | ⟨g', cap', cur, h1, hb, hg, hc, hx, hsz, ht⟩
  · simp at h1
  · simp only [Value.slice.injEq, Option.some.injEq, Addr.mk.injEq] at h1
    obtain ⟨⟨rfl, _, _⟩, _, rfl⟩ := h1
    exact hc

/-- The entries are cut. -/
theorem SpRow.setD' {w : World} {base P q cap : Nat} {m : Mst} (h : SpRow w base P q cap m) {d : Nat} (hd : d ≤ m.d) : SpRow (w.setCell ⟨P, 0, none⟩ (.slice (some ⟨q, 0, none⟩) d cap)) base P q cap { m with d := d } :=
  ⟨pf4_set0 h.row _, (h.st.cut (fun i _ => ent_len m i) hd).kept' (fun k hk => by
    simp only [Value.ownBlock, Option.some.injEq] at hk
    subst hk
    exact Go.Deep.blk_setCell_other _ _ _ _ (by show q ≠ P; exact h.ne)), h.ne, h.P1⟩

set_option maxHeartbeats 2000000 in
theorem pop_any' {base P q cap : Nat} {m : Mst} (w : World) (h : SpRow w base P q cap m) (h1 : 1 ≤ m.d) (h2 : m.d ≤ 4294967295) (hoe5 : m.oe ≤ 4294967295) :
    Calls Tryd.prog 29 #[.pointer (some ⟨P, 0, none⟩)] w (SpDone w base P q m.pop) := by
  have k0 : w.cell? ⟨P, 0, none⟩ = some (.slice (some ⟨q, 0, none⟩) m.d cap) := h.row.cell (by omega)
  have k1 : w.cell? ⟨P, 1, none⟩ = some (.int .i64 m.oi) := h.row.cell (by omega)
  have k2 : w.cell? ⟨P, 2, none⟩ = some (.int .i64 m.oe) := h.row.cell (by omega)
  have hne := h.ne
  by_cases ho : 0 < m.oi
  · have HP := Lib.hid (show m.pop = m by unfold Mst.pop; rw [if_pos ho])
    have hoz : (0 : Int) < (m.oi : Int) := by omega
    go_enter Tryd.func29, Tryd.ntmps29
    go_wp2_with fail
    go_end0
    exact ⟨rfl, q, cap, HP.out.symm ▸ h, Kp.refl _ _, .inl rfl⟩
  · have hoz : ¬ (0 : Int) < (m.oi : Int) := by omega
    by_cases hq : 0 < m.oe
    · have HP := Lib.hid (show m.pop = { m with oe := m.oe - 1 } by unfold Mst.pop; rw [if_neg ho, if_pos hq])
      have hqz : (0 : Int) < (m.oe : Int) := by omega
      have hqz1 : (1 : Int) ≤ (m.oe : Int) := by omega
      have hrow3 := pf4_set2 h.row (.int .i64 ((m.oe : Int) - 1))
      have zz := h.row.frozen 2
      have hst := h.st.kept' (w' := w.setCell ⟨P, 2, none⟩ (.int .i64 ((m.oe : Int) - 1))) (fun k hk => by
        simp only [Value.ownBlock, Option.some.injEq] at hk
        subst hk
        exact Go.Deep.blk_setCell_other _ _ _ _ (by show q ≠ P; exact hne))
      have hk2 : Kp (fun k => k = P ∨ k = q) w (w.setCell ⟨P, 2, none⟩ (.int .i64 ((m.oe : Int) - 1))) := (Kp.refl _ _).setCell (a := ⟨P, 2, none⟩) (.inl (.inl rfl)) _
      have e : ((m.oe : Int) - 1) = ((m.oe - 1 : Nat) : Int) := by omega
      rw [e] at hrow3 hst
      have HSP : Hid (SpRow (w.setCell ⟨P, 2, none⟩ (.int .i64 ((m.oe - 1 : Nat) : Int))) base P q cap { m with oe := m.oe - 1 }) := Lib.hid ⟨hrow3, hst, hne, h.P1⟩
      rw [← e] at HSP
      have HP1 := h.P1
      clear h hrow3 hst e ho hq
      go_enter Tryd.func29, Tryd.ntmps29
      go_wp2_with fail
      go_end0
      exact ⟨rfl, q, cap, HP.out ▸ HSP.out, hk2, .inl rfl⟩
    · have hqz : ¬ (0 : Int) < (m.oe : Int) := by omega
      have HPD := Lib.hid (show m.pop = if m.tiso = false ∧ 1 < m.d then { m with d := m.d - 1 } else m by unfold Mst.pop; rw [if_neg ho, if_neg hq])
      have hfd := fun w => fld2 (.int .i64 m.top) (.int .i64 m.tov) (.bool m.tiso) w ⟨_, rfl⟩
      cases hti : m.tiso with
      | true =>
        have HP := Lib.hid (HPD.out.trans (if_neg (by rw [hti]; exact fun e => absurd e.1 (by decide))))
        have HT := Lib.hid hti
        clear ho hq hti HPD
        go_enter Tryd.func29, Tryd.ntmps29
        go_wp2_with fail
        refine (top_any _ h h1 (by omega)).mono ?_
        rintro e w1 ⟨rfl, hs⟩
        rw [HT.out] at hfd ⊢
        go_wp2_with fail
        go_end0
        exact ⟨rfl, q, cap, HP.out.symm ▸ h.since hs, Kp.since hs _, .inl rfl⟩
      | false =>
        have HT := Lib.hid hti
        by_cases hd : 1 < m.d
        · have HP := Lib.hid (HPD.out.trans (if_pos ⟨hti, hd⟩))
          obtain ⟨d, hdd⟩ : ∃ d, m.d = d + 1 := ⟨m.d - 1, by omega⟩
          have hdz : (1 : Int) < (m.d : Int) := by omega
          have hdz2 : (1 : Int) < (d : Int) + 1 := by omega
          have hcap := h.cap
          have hw := wrap_nat (d := d) (by omega)
          have hcutx := fun wx => cut_ent (q := q) (n := d + 1) (cap := cap) (hi := d) (by omega) (by omega) wx
          have HDD := Lib.hid hdd
          clear ho hq hti HPD hdd
          go_enter Tryd.func29, Tryd.ntmps29
          go_wp2_with fail
          refine (top_any _ h h1 (by omega)).mono ?_
          rintro e w1 ⟨rfl, hs⟩
          have h' := h.since hs
          have c0 : w1.cell? ⟨P, 0, none⟩ = some (.slice (some ⟨q, 0, none⟩) (d + 1) cap) := by rw [h'.row.cell (by omega), ← HDD.out]; rfl
          rw [HT.out] at hfd ⊢
          have zz := h'.row.frozen 0
          have HSP := Lib.hid (h'.setD' (d := d) (by have := HDD.out; omega))
          have HSP2 : Hid (SpRow (w1.setCell ⟨P, 0, none⟩ (.slice (some ⟨q, 0, none⟩) d cap)) base P q cap m.pop) := Lib.hid (by
            have e : d = m.d - 1 := by have := HDD.out; omega
            rw [HP.out, ← e]; exact HSP.out)
          have hk2 : Kp (fun k => k = P ∨ k = q) w (w1.setCell ⟨P, 0, none⟩ (.slice (some ⟨q, 0, none⟩) d cap)) := (Kp.since hs _).setCell (a := ⟨P, 0, none⟩) (.inl (.inl rfl)) _
          clear h h' k0 HSP
          go_upto_region 4 with fail
          refine wp_region_quiet_tail 14 (by kernel_rfl) (by kernel_rfl) ?_
          simp only [List.take_succ_cons, List.take_zero, List.drop_succ_cons, List.drop_zero]
          repeat (quiet_step (fail))
          refine wpQuiet_nil ?_
          rintro _ ⟨nq, rfl⟩
          go_wp2_with fail
          go_end0
          exact ⟨rfl, q, cap, (HSP2.out.kept rfl rfl), ⟨hk2.os, hk2.tape, hk2.output, hk2.size, hk2.block⟩, .inl rfl⟩
        · have HP := Lib.hid (HPD.out.trans (if_neg (fun e => hd e.2)))
          have hdz : ¬ (1 : Int) < (m.d : Int) := by omega
          clear ho hq hti HPD hd
          go_enter Tryd.func29, Tryd.ntmps29
          go_wp2_with fail
          refine (top_any _ h h1 (by omega)).mono ?_
          rintro e w1 ⟨rfl, hs⟩
          have h' := h.since hs
          have c0 : w1.cell? ⟨P, 0, none⟩ = some (.slice (some ⟨q, 0, none⟩) m.d cap) := h'.row.cell (by omega)
          rw [HT.out] at hfd ⊢
          go_wp2_with fail
          go_end0
          exact ⟨rfl, q, cap, HP.out.symm ▸ h', Kp.since hs _, .inl rfl⟩

set_option maxHeartbeats 4000000 in
theorem end_any {base P q cap : Nat} {m : Mst} (w : World) (h : SpRow w base P q cap m) (h1 : 1 ≤ m.d) (h2 : m.d ≤ 4294967295) (hvi : m.vi = Mst.cnt m.iso m.d) (hi0 : m.iso 0 = false) (hoi5 : m.oi ≤ 4294967295) :
    Calls Tryd.prog 26 #[.pointer (some ⟨P, 0, none⟩)] w (SpDone w base P q m.close) := by
  have k0 : w.cell? ⟨P, 0, none⟩ = some (.slice (some ⟨q, 0, none⟩) m.d cap) := h.row.cell (by omega)
  have k1 : w.cell? ⟨P, 1, none⟩ = some (.int .i64 m.oi) := h.row.cell (by omega)
  have k2 : w.cell? ⟨P, 2, none⟩ = some (.int .i64 m.oe) := h.row.cell (by omega)
  have k3 : w.cell? ⟨P, 3, none⟩ = some (.int .i64 m.vi) := h.row.cell (by omega)
  have hne := h.ne
  have hvle := Mst.cnt_le m.iso m.d
  have HVI := Lib.hid hvi
  have HI0 := Lib.hid hi0
  have hvle2 : (m.vi : Int) ≤ 4294967295 := by omega
  clear hvi hi0
  by_cases ho : 0 < m.oi
  · have HP := Lib.hid (show m.close = { m with oi := m.oi - 1 } by unfold Mst.close; rw [if_pos ho])
    have hoz : (0 : Int) < (m.oi : Int) := by omega
    have hoz1 : (1 : Int) ≤ (m.oi : Int) := by omega
    have hrow3 := pf4_set1 h.row (.int .i64 ((m.oi : Int) - 1))
    have zz := h.row.frozen 1
    have hst := h.st.kept' (w' := w.setCell ⟨P, 1, none⟩ (.int .i64 ((m.oi : Int) - 1))) (fun k hk => by
      simp only [Value.ownBlock, Option.some.injEq] at hk
      subst hk
      exact Go.Deep.blk_setCell_other _ _ _ _ (by show q ≠ P; exact hne))
    have hk2 : Kp (fun k => k = P ∨ k = q) w (w.setCell ⟨P, 1, none⟩ (.int .i64 ((m.oi : Int) - 1))) := (Kp.refl _ _).setCell (a := ⟨P, 1, none⟩) (.inl (.inl rfl)) _
    have e : ((m.oi : Int) - 1) = ((m.oi - 1 : Nat) : Int) := by omega
    rw [e] at hrow3 hst
    have HSP : Hid (SpRow (w.setCell ⟨P, 1, none⟩ (.int .i64 ((m.oi - 1 : Nat) : Int))) base P q cap { m with oi := m.oi - 1 }) := Lib.hid ⟨hrow3, hst, hne, h.P1⟩
    rw [← e] at HSP
    clear h hrow3 hst e ho
    go_enter Tryd.func26, Tryd.ntmps26
    go_wp2_with fail
    go_end0
    exact ⟨rfl, q, cap, HP.out ▸ HSP.out, hk2, .inl rfl⟩
  · have hoz : ¬ (0 : Int) < (m.oi : Int) := by omega
    by_cases hv : 0 < m.vi
    · have hvz : (0 : Int) < (m.vi : Int) := by omega
      have hvz1 : (1 : Int) ≤ (m.vi : Int) := by omega
      have HP := Lib.hid (show m.close = { m with oe := 0, d := Mst.below m.iso m.d, vi := m.vi - 1 } by unfold Mst.close; rw [if_neg ho, if_pos hv])
      have hbc := Mst.below_cnt (iso := m.iso) m.d (by rw [← HVI.out]; exact hv)
      obtain ⟨bl, hbl⟩ : ∃ bl, bl = Mst.below m.iso m.d := ⟨_, rfl⟩
      rw [← hbl] at hbc HP
      have HBL := Lib.hid hbl
      have HBC := Lib.hid hbc
      have hbd := hbc.1
      have hrow3 := pf4_set2 h.row (.int .i64 0)
      have zz := h.row.frozen 2
      have hst := h.st.kept' (w' := w.setCell ⟨P, 2, none⟩ (.int .i64 0)) (fun k hk => by
        simp only [Value.ownBlock, Option.some.injEq] at hk
        subst hk
        exact Go.Deep.blk_setCell_other _ _ _ _ (by show q ≠ P; exact hne))
      have hk2 : Kp (fun k => k = P ∨ k = q) w (w.setCell ⟨P, 2, none⟩ (.int .i64 0)) := (Kp.refl _ _).setCell (a := ⟨P, 2, none⟩) (.inl (.inl rfl)) _
      have hsp : SpRow (w.setCell ⟨P, 2, none⟩ (.int .i64 0)) base P q cap { m with oe := 0 } := ⟨hrow3, hst, hne, h.P1⟩
      clear h hrow3 hst ho hv hbc hbl
      go_enter Tryd.func26, Tryd.ntmps26
      go_wp2_with fail
      clear k0 k1 k2 k3 zz
      generalize w.setCell ⟨P, 2, none⟩ (.int .i64 0) = w1 at hk2 hsp ⊢
      go_loopg [] (m.d) (fun g wr => ∃ d : Nat, bl < d ∧ d ≤ m.d ∧ d = g ∧ Hid (Mst.below m.iso d = bl) ∧ Kp (fun k => k = P ∨ k = q) w wr ∧ SpRow wr base P q cap { m with d := d, oe := 0 })
      case atStart => exact ⟨m.d, hbd, Nat.le_refl _, rfl, HBL.out.symm, hk2, hsp⟩
      case round =>
        clear hk2 hsp
        obtain ⟨d, hd5, hd6, rfl, HBE, hk, hS⟩ := hrel
        have hg1 : 1 ≤ ({ m with d := d, oe := 0 } : Mst).d := by show 1 ≤ d; omega
        have hg2 : ({ m with d := d, oe := 0 } : Mst).d ≤ 4294967296 := by show d ≤ 4294967296; omega
        have hti : ({ m with d := d, oe := 0 } : Mst).tiso = m.iso (d - 1) := rfl
        have hfd := fun w => fld2 (.int .i64 ({ m with d := d, oe := 0 } : Mst).top) (.int .i64 ({ m with d := d, oe := 0 } : Mst).tov) (.bool ({ m with d := d, oe := 0 } : Mst).tiso) w ⟨_, rfl⟩
        have hcap := hS.cap
        have hcap : d ≤ cap := hcap
        obtain ⟨r, hr⟩ : ∃ r, d = r + 1 := ⟨d - 1, by omega⟩
        subst hr
        rw [Nat.add_sub_cancel] at hti
        have hw := wrap_nat (d := r) (by omega)
        have hcutx := fun wx => cut_ent (q := q) (n := r + 1) (cap := cap) (hi := r) (by omega) (by omega) wx
        rw [hti] at hfd
        have HTI := Lib.hid hti
        clear hti
        obtain ⟨tp, htp⟩ : ∃ tp, tp = ({ m with d := r + 1, oe := 0 } : Mst).top := ⟨_, rfl⟩
        obtain ⟨tv, htv⟩ : ∃ tv, tv = ({ m with d := r + 1, oe := 0 } : Mst).tov := ⟨_, rfl⟩
        rw [← htp, ← htv] at hfd
        have HTP := Lib.hid htp
        have HTV := Lib.hid htv
        clear htp htv
        cases hti2 : m.iso r with
        | true =>
          have HEQ := Lib.hid (show r = bl by
            have := HBE.out
            rw [Mst.below, if_pos hti2] at this
            exact this)
          rw [hti2] at hfd
          have HT2 := Lib.hid (HTI.out.trans hti2)
          clear hti2
          go_wp2_with fail
          refine (top_any _ hS hg1 hg2).mono ?_
          rintro e w2 ⟨rfl, hs⟩
          rw [HT2.out, ← HTP.out, ← HTV.out]
          have hS2 := hS.since hs
          have c0 : w2.cell? ⟨P, 0, none⟩ = some (.slice (some ⟨q, 0, none⟩) (r + 1) cap) := hS2.row.cell (by omega)
          have zz := hS2.row.frozen 0
          have hS3 := hS2.setD' (d := r) (by show r ≤ r + 1; omega)
          have hk3 := (hk.call hs).setCell (a := ⟨P, 0, none⟩) (.inl (.inl rfl)) (.slice (some ⟨q, 0, none⟩) r cap)
          clear hS hS2
          go_upto_region 6 with fail
          refine wp_region_quiet_tail 14 (by kernel_rfl) (by kernel_rfl) ?_
          simp only [List.take_succ_cons, List.take_zero, List.drop_succ_cons, List.drop_zero]
          repeat (quiet_step (fail))
          refine wpQuiet_nil ?_
          rintro _ ⟨nq, rfl⟩
          go_upto_region 7 with fail
          have hS4 : SpRow ((w2.drewN nq).setCell ⟨P, 0, none⟩ (.slice (some ⟨q, 0, none⟩) r cap)) base P q cap { m with d := r, oe := 0 } := hS3.kept rfl rfl
          have hk4 : Kp (fun k => k = P ∨ k = q) w ((w2.drewN nq).setCell ⟨P, 0, none⟩ (.slice (some ⟨q, 0, none⟩) r cap)) := ⟨hk3.os, hk3.tape, hk3.output, hk3.size, hk3.block⟩
          clear hS3 hk3 c0 zz
          generalize (w2.drewN nq).setCell ⟨P, 0, none⟩ (.slice (some ⟨q, 0, none⟩) r cap) = w4 at hS4 hk4 ⊢
          have c3 : w4.cell? ⟨P, 3, none⟩ = some (.int .i64 m.vi) := hS4.row.cell (by omega)
          have zz := hS4.row.frozen 3
          have hrow5 := pf4_set3 hS4.row (.int .i64 ((m.vi : Int) - 1))
          have hst5 := hS4.st.kept' (w' := w4.setCell ⟨P, 3, none⟩ (.int .i64 ((m.vi : Int) - 1))) (fun k hk => by
            simp only [Value.ownBlock, Option.some.injEq] at hk
            subst hk
            exact Go.Deep.blk_setCell_other _ _ _ _ (by show q ≠ P; exact hne))
          have hk5 := hk4.setCell (a := ⟨P, 3, none⟩) (.inl (.inl rfl)) (.int .i64 ((m.vi : Int) - 1))
          have e : ((m.vi : Int) - 1) = ((m.vi - 1 : Nat) : Int) := by omega
          have HSP : Hid (SpRow (w4.setCell ⟨P, 3, none⟩ (.int .i64 ((m.vi : Int) - 1))) base P q cap m.close) := Lib.hid (by
            rw [HP.out, ← HEQ.out]
            rw [e] at hrow5 hst5 ⊢
            exact ⟨hrow5, hst5, hne, hS4.P1⟩)
          clear hrow5 hst5 e hS4
          go_wp2_with fail
          go_end0
          exact ⟨rfl, q, cap, HSP.out, hk5, .inl rfl⟩
        | false =>
          have HEQ := Lib.hid (show bl < r ∧ Mst.below m.iso r = bl by
            have := HBE.out
            rw [Mst.below, if_neg (by rw [hti2]; decide)] at this
            refine ⟨?_, this⟩
            rcases Nat.lt_or_ge bl r with q | q
            · exact q
            · obtain rfl : r = bl := by omega
              rw [HBC.out.2.1] at hti2
              exact absurd hti2 (by decide))
          rw [hti2] at hfd
          have HT2 := Lib.hid (HTI.out.trans hti2)
          clear hti2
          go_wp2_with fail
          refine (top_any _ hS hg1 hg2).mono ?_
          rintro e w2 ⟨rfl, hs⟩
          rw [HT2.out, ← HTP.out, ← HTV.out]
          have hS2 := hS.since hs
          have c0 : w2.cell? ⟨P, 0, none⟩ = some (.slice (some ⟨q, 0, none⟩) (r + 1) cap) := hS2.row.cell (by omega)
          have zz := hS2.row.frozen 0
          have hS3 := hS2.setD' (d := r) (by show r ≤ r + 1; omega)
          have hk3 := (hk.call hs).setCell (a := ⟨P, 0, none⟩) (.inl (.inl rfl)) (.slice (some ⟨q, 0, none⟩) r cap)
          clear hS hS2
          go_upto_region 5 with fail
          refine wp_region_quiet_tail 14 (by kernel_rfl) (by kernel_rfl) ?_
          simp only [List.take_succ_cons, List.take_zero, List.drop_succ_cons, List.drop_zero]
          repeat (quiet_step (fail))
          refine wpQuiet_nil ?_
          rintro _ ⟨nq, rfl⟩
          go_wp2_with fail
          go_roundg r
          case rel => exact ⟨r, HEQ.out.1, by omega, rfl, HEQ.out.2, ⟨hk3.os, hk3.tape, hk3.output, hk3.size, hk3.block⟩, hS3.kept rfl rfl⟩
          case measure => omega
    · have hvz : ¬ (0 : Int) < (m.vi : Int) := by omega
      have HP := Lib.hid (show m.close = m by unfold Mst.close; rw [if_neg ho, if_neg hv])
      clear ho hv
      go_enter Tryd.func26, Tryd.ntmps26
      go_wp2_with fail
      go_end0
      exact ⟨rfl, q, cap, HP.out.symm ▸ h, Kp.refl _ _, .inl rfl⟩

end Go.Proofs.YtjelgbfgciaapaaDoor
