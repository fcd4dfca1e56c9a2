/- container/list, as the search for brackets uses it: a stack of numbers at the front of a list. -/
import Derived.Test.YtkocpijloiamcaaDoorGA
import Derived.Deep.LoopGhost
import Derived.RegionTactic
import Derived.BigRegion
import Derived.Lib.Hide
import Derived.LaidEqlPtr
import Derived.Lib.Builder
namespace Go.Proofs.YtkocpijloiamcaaDoor
set_option linter.unusedVariables false
set_option linter.unusedSimpArgs false
open Go.RowKit Go.Lib

abbrev ptr (b : Nat) : Value := .pointer (some ⟨b, 0, none⟩)
abbrev opn (v : Nat) : Value := .iface 3 (.int .i64 ((v : Nat) : Int))

/-- An element's fields. -/
def ef (nx pv ls vl : Value) : Nat → Value | 0 => nx | 1 => pv | 2 => ls | _ => vl
/-- A list's fields. -/
def lf (nx pv : Value) (len : Nat) : Nat → Value | 0 => nx | 1 => pv | 2 => .pointer none | 3 => .nilIface | _ => .int .i64 ((len : Nat) : Int)

/-- The block of the first element, of the list itself where there is none. -/
def hdb (L : Nat) : List (Nat × Nat) → Nat | [] => L | (b, _) :: _ => b

/-- The pointer to the first element, nil where there is none. -/
def fptr (L : Nat) (es : List (Nat × Nat)) : Value := if es = [] then .pointer none else ptr (hdb L es)
theorem fptr_nil (L : Nat) : fptr L [] = .pointer none := rfl
theorem fptr_cons (L b v : Nat) (r : List (Nat × Nat)) : fptr L ((b, v) :: r) = ptr b := by unfold fptr; rw [if_neg (by simp)]; rfl

/-- The elements (block, number), each with the next one; whatever lies ahead of them. -/
def Chw (w : World) (L : Nat) : List (Nat × Nat) → Prop
  | [] => True
  | (b, v) :: r => (∃ pv, w.rowIs b 124 4 (ef (ptr (hdb L r)) pv (ptr L) (opn v))) ∧ Chw w L r

def Frw (w : World) (L : Nat) : List (Nat × Nat) → Prop
  | [] => True
  | (b, _) :: _ => w.cell? ⟨b, 1, none⟩ = some (ptr L)

/-- The list in block L holds these elements, the first one at the front. -/
structure Ls (w : World) (L : Nat) (es : List (Nat × Nat)) : Prop where
  root : ∃ pv, w.rowIs L 126 5 (lf (ptr (hdb L es)) pv es.length)
  ch : Chw w L es
  fr : Frw w L es
  nd : (L :: es.map Prod.fst).Nodup

section
variable {w w' : World} {L : Nat} {es : List (Nat × Nat)}

theorem Chw.kept : ∀ {es : List (Nat × Nat)}, Chw w L es → (∀ k, k ∈ es.map Prod.fst → w'.heap[k]? = w.heap[k]?) → Chw w' L es
  | [], _, _ => trivial
  | (b, v) :: r, ⟨⟨pv, h⟩, h2⟩, hk => ⟨⟨pv, h.of_block (hk b (by simp))⟩, Chw.kept h2 (fun k hm => hk k (List.mem_cons_of_mem _ hm))⟩

theorem Ls.kept (h : Ls w L es) (hk : ∀ k, k ∈ L :: es.map Prod.fst → w'.heap[k]? = w.heap[k]?) : Ls w' L es := by
  obtain ⟨⟨pv, hr⟩, hc, hf, hn⟩ := h
  refine ⟨⟨pv, hr.of_block (hk L (by simp))⟩, hc.kept (fun k hm => hk k (List.mem_cons_of_mem _ hm)), ?_, hn⟩
  cases es with
  | nil => trivial
  | cons a r =>
    obtain ⟨b, v⟩ := a
    show w'.cell? _ = _
    rw [World.cell?_of_block (w := w) (hk b (by simp))]; exact hf

theorem Chw.lt : ∀ {es : List (Nat × Nat)}, Chw w L es → ∀ k, k ∈ es.map Prod.fst → k < w.heap.size
  | [], _, k, hk => by simp at hk
  | (b, v) :: r, ⟨⟨_, h⟩, h2⟩, k, hk => by
    rcases List.mem_cons.1 hk with rfl | hk
    · exact h.lt
    · exact Chw.lt h2 k hk

theorem Ls.lt (h : Ls w L es) : ∀ k, k ∈ L :: es.map Prod.fst → k < w.heap.size := fun k hk => by
  rcases List.mem_cons.1 hk with rfl | hk
  · obtain ⟨_, hr⟩ := h.root; exact hr.lt
  · exact h.ch.lt k hk

theorem Ls.drew (h : Ls w L es) : Ls w.drew L es := h.kept (fun _ _ => rfl)
theorem cell_drew {a : Addr} {v : Value} (h : w.cell? a = some v) : w.drew.cell? a = some v := h

theorem Ls.since (h : Ls w L es) (s : w.Since w.heap.size w') : Ls w' L es := h.kept (fun k hk => s.block k (h.lt k hk))
end

set_option maxHeartbeats 1000000 in
theorem listLen_any {L : Nat} {es : List (Nat × Nat)} (w : World) (h : Ls w L es) : Calls Tryd.prog 88 #[ptr L] w fun e w' => e = .returned (.int .i64 es.length) ∧ w = w' := by
  obtain ⟨pv, hr⟩ := h.root
  have c4 : w.cell? ⟨L, 4, none⟩ = some (.int .i64 es.length) := hr.cell (by omega)
  clear h hr
  go_enter Tryd.func88, Tryd.ntmps88
  go_wp2
  go_ret
  exact ⟨rfl, rfl⟩

set_option maxHeartbeats 1000000 in
/-- The front: nil where there is none. -/
theorem front_any {L : Nat} {es : List (Nat × Nat)} (w : World) (h : Ls w L es) (hs : es.length < 4294967296) :
    Calls Tryd.prog 90 #[ptr L] w fun e w' => e = .returned (fptr L es) ∧ w = w' := by
  obtain ⟨pv, hr⟩ := h.root
  have c4 : w.cell? ⟨L, 4, none⟩ = some (.int .i64 es.length) := hr.cell (by omega)
  have c0 : w.cell? ⟨L, 0, none⟩ = some (ptr (hdb L es)) := hr.cell (by omega)
  clear h hr
  cases es with
  | nil =>
    rw [fptr_nil]
    go_enter Tryd.func90, Tryd.ntmps90
    go_wp2
    go_ret
    exact ⟨rfl, rfl⟩
  | cons a r =>
    have hl : ¬ (((a :: r).length : Nat) : Int) = 0 := by simp only [List.length_cons]; omega
    generalize (a :: r).length = n at c4 hl
    unfold fptr
    generalize hH : hdb L (a :: r) = H at c0 ⊢
    rw [if_neg (by simp)]
    clear hH
    go_enter Tryd.func90, Tryd.ntmps90
    go_wp2
    go_ret
    exact ⟨rfl, rfl⟩

theorem neq_ptr_other {P : Program} (w : World) {tp te : TypeId} {j : TypeInfo} {a b : Addr} {ca cb : Array Value} {ta tb : TypeId} (hp : P.underlying tp = some (.pointer te)) (hte : P.info? te = some j) (hsz : j.size ≠ 0)
    (hne : a ≠ b) (ha : w.heap[a.block]? = some (.cells ca ta (0, 0))) (hb : w.heap[b.block]? = some (.cells cb tb (0, 0))) :
    (binOp .neq tp (.pointer (some a)) (.pointer (some b))).run P w = .ok (.bool true) w := by
  have h : ∀ d : Nat, (Op.equalIn (d + 1) tp (.pointer (some a)) (.pointer (some b))).run P w = .ok false w := fun d => by
    simp [Op.equalIn, run_underlying hp, sizeOf, typeInfo, hte, hsz, run_sameAddr_other w hne ha hb]
  simp only [binOp]
  simp [Op.equal, Op.maxDepth, h 9999]

theorem infoElem : (Tryd.prog.info? 124).map (·.size) = some 4 := by kernel_rfl
theorem infoList : (Tryd.prog.info? 126).map (·.size) = some 5 := by kernel_rfl

set_option maxHeartbeats 2000000 in
set_option maxRecDepth 100000 in
/-- The next element: nil behind the last one. -/
theorem next_any {L b v : Nat} {r : List (Nat × Nat)} {pv : Value} (w : World) (h : w.rowIs b 124 4 (ef (ptr (hdb L r)) pv (ptr L) (opn v))) (hn : (L :: r.map Prod.fst).Nodup) (hch : Chw w L r) {f : Nat → Value} (hrt : w.rowIs L 126 5 f) :
    Calls Tryd.prog 91 #[ptr b] w fun e w' => e = .returned (fptr L r) ∧ w = w' := by
  have c0 : w.cell? ⟨b, 0, none⟩ = some (ptr (hdb L r)) := h.cell (by omega)
  have c2 : w.cell? ⟨b, 2, none⟩ = some (.pointer (some ⟨L, 0, none⟩)) := h.cell (by omega)
  clear h
  obtain ⟨je, hje, hje2⟩ := Option.map_eq_some_iff.1 infoElem
  cases r with
  | nil =>
    have hcmp := run_neq_ptr_same (P := Tryd.prog) w (tp := 122) (te := 124) (⟨L, 0, none⟩ : Addr) (by kernel_rfl) hje
    clear hch hrt
    change w.cell? ⟨b, 0, none⟩ = some (.pointer (some ⟨L, 0, none⟩)) at c0
    rw [fptr_nil]
    go_enter Tryd.func91, Tryd.ntmps91
    go_wp2
    go_ret
    exact ⟨rfl, rfl⟩
  | cons a r =>
    obtain ⟨b', v'⟩ := a
    change w.cell? ⟨b, 0, none⟩ = some (.pointer (some ⟨b', 0, none⟩)) at c0
    have hne : ¬ b' = L := by
      have := (List.nodup_cons.1 hn).1
      intro e; exact this (by simp [e])
    obtain ⟨⟨pb, cb, hb1, _, _⟩, _⟩ := hch
    obtain ⟨cl, hl1, _, _⟩ := hrt
    have hcmp := neq_ptr_other (P := Tryd.prog) w (tp := 122) (te := 124) (a := ⟨b', 0, none⟩) (b := ⟨L, 0, none⟩) (by kernel_rfl) hje (by rw [hje2]; decide) (by simp [hne]) hb1 hl1
    clear hb1 hl1 hje hje2
    rw [fptr_cons]
    go_enter Tryd.func91, Tryd.ntmps91
    go_wp2
    go_ret
    exact ⟨rfl, rfl⟩

set_option maxHeartbeats 1000000 in
/-- 'Init': no element. -/
theorem init_any {L : Nat} {f : Nat → Value} (w : World) (h : w.rowIs L 126 5 f) (h2 : f 2 = .pointer none) (h3 : f 3 = .nilIface) :
    Calls Tryd.prog 87 #[ptr L] w fun e w' => e = .returned (ptr L) ∧ Ls w' L [] ∧ Kp (fun k => k = L) w w' := by
  have c0 := h.cell (i := 0) (by omega)
  have c1 := h.cell (i := 1) (by omega)
  have c4 := h.cell (i := 4) (by omega)
  have hf := h.frozen
  have H := hid h
  clear h
  go_enter Tryd.func87, Tryd.ntmps87
  go_wp2
  go_ret
  refine ⟨rfl, ⟨⟨ptr L, (((H.out.set 0 (ptr L)).set 1 (ptr L)).set 4 (.int .i64 0)).congr (fun i hi => ?_)⟩, trivial, trivial, by simp⟩, (((Kp.refl (fun k => k = L) _).setCell (a := ⟨L, 0, none⟩) (.inl rfl) _).setCell (a := ⟨L, 1, none⟩) (.inl rfl) _).setCell (a := ⟨L, 4, none⟩) (.inl rfl) _⟩
  match i, hi with
  | 0, _ => rfl
  | 1, _ => rfl
  | 2, _ => exact h2
  | 3, _ => exact h3
  | 4, _ => rfl

theorem hdb_mem {L : Nat} {es : List (Nat × Nat)} : hdb L es ∈ L :: es.map Prod.fst := by
  cases es with
  | nil => exact List.mem_cons_self
  | cons a r => exact List.mem_cons_of_mem _ List.mem_cons_self

set_option maxHeartbeats 2000000 in
set_option maxRecDepth 100000 in
/-- An element is put in at the front. -/
theorem insert_any {L b v : Nat} {es : List (Nat × Nat)} {f : Nat → Value} (w : World) (h : Ls w L es) (hs : es.length < 4294967296) (hb : w.rowIs b 124 4 f) (h3 : f 3 = opn v) (hbn : b ∉ L :: es.map Prod.fst) :
    Calls Tryd.prog 104 #[ptr L, ptr b, ptr L] w fun e w' => e = .returned (ptr b) ∧ Ls w' L ((b, v) :: es) ∧ Kp (fun k => k = L ∨ k = b ∨ k ∈ es.map Prod.fst) w w' := by
  obtain ⟨⟨pv, hr⟩, hc, hf, hn⟩ := id h
  have b0 := hb.cell (i := 0) (by omega)
  have b1 := hb.cell (i := 1) (by omega)
  have b2 := hb.cell (i := 2) (by omega)
  have bf := hb.frozen
  have c0 : w.cell? ⟨L, 0, none⟩ = some (ptr (hdb L es)) := hr.cell (by omega)
  have c1 : w.cell? ⟨L, 1, none⟩ = some pv := hr.cell (by omega)
  have c4 : w.cell? ⟨L, 4, none⟩ = some (.int .i64 es.length) := hr.cell (by omega)
  have cf := hr.frozen
  have hbL : b ≠ L := fun e => hbn (by simp [e])
  have hLb : L ≠ b := fun e => hbL e.symm
  have hK0 : ∀ wx, Kp (fun k => k = L ∨ k = b ∨ k ∈ es.map Prod.fst) w wx → wx = wx := fun _ _ => rfl
  have HR := hid hr
  have HB := hid hb
  have HC := hid hc
  have HN := hid hn
  have HBN := hid hbn
  have H3 := hid h3
  obtain ⟨len, hlen⟩ : ∃ len, len = es.length := ⟨_, rfl⟩
  rw [← hlen] at c4 hs
  have HLEN := hid hlen
  cases es with
  | nil =>
    change w.cell? ⟨L, 0, none⟩ = some (.pointer (some ⟨L, 0, none⟩)) at c0
    clear h hc hf hn hbn hK0 hr hb h3 hlen
    go_enter Tryd.func104, Tryd.ntmps104
    go_wp2
    go_ret
    have E : 0 < 4 := by omega
    refine ⟨rfl, ⟨⟨ptr b, ?_⟩, ⟨⟨ptr L, ?_⟩, trivial⟩, ?_, ?_⟩, ?_⟩
    · refine ((((((HR.out.setOther hLb _).setOther hLb _).set 0 (ptr b)).set 1 (ptr b)).setOther hLb _).set 4 (.int .i64 ((len : Int) + 1))).congr (fun i hi => ?_)
      match i, hi with
      | 0, _ => rfl
      | 1, _ => rfl
      | 2, _ => rfl
      | 3, _ => rfl
      | 4, _ => show Value.int .i64 ((len : Int) + 1) = Value.int .i64 (((0 + 1 : Nat)) : Int); rw [HLEN.out]; rfl
    · refine ((((((HB.out.set 1 (ptr L)).set 0 (ptr L)).setOther hbL _).setOther hbL _).set 2 (ptr L)).setOther hbL _).congr (fun i hi => ?_)
      match i, hi with
      | 0, _ => rfl
      | 1, _ => rfl
      | 2, _ => rfl
      | 3, _ => exact H3.out
    · exact ((((((HB.out.set 1 (ptr L)).set 0 (ptr L)).setOther hbL _).setOther hbL _).set 2 (ptr L)).setOther hbL _).cell (i := 1) (by omega)
    · show (L :: [b]).Nodup
      simp [hLb]
    · exact ((((((Kp.refl (fun k => k = L ∨ k = b ∨ k ∈ ([] : List (Nat × Nat)).map Prod.fst) _).setCell (a := ⟨b, 1, none⟩) (.inl (.inr (.inl rfl))) _).setCell (a := ⟨b, 0, none⟩) (.inl (.inr (.inl rfl))) _).setCell (a := ⟨L, 0, none⟩) (.inl (.inl rfl)) _).setCell (a := ⟨L, 1, none⟩) (.inl (.inl rfl)) _).setCell (a := ⟨b, 2, none⟩) (.inl (.inr (.inl rfl))) _).setCell (a := ⟨L, 4, none⟩) (.inl (.inl rfl)) _
  | cons a r =>
    obtain ⟨d, u⟩ := a
    change w.cell? ⟨L, 0, none⟩ = some (.pointer (some ⟨d, 0, none⟩)) at c0
    have hdb' : d ≠ b := fun e => hbn (by simp [e])
    have hbd : b ≠ d := fun e => hdb' e.symm
    have hdL : d ≠ L := fun e => by
      have := (List.nodup_cons.1 hn).1
      exact this (by simp [e])
    have hLd : L ≠ d := fun e => hdL e.symm
    obtain ⟨⟨pd, hd⟩, hc2⟩ := hc
    have d1 : w.cell? ⟨d, 1, none⟩ = some pd := hd.cell (by omega)
    have df := hd.frozen
    have HD := hid hd
    have HC2 := hid hc2
    clear h hf hn hbn hK0 hr hb h3 hd hc2 hlen
    go_enter Tryd.func104, Tryd.ntmps104
    go_wp2
    go_ret
    refine ⟨rfl, ⟨⟨pv, ?_⟩, ⟨⟨ptr L, ?_⟩, ⟨⟨ptr b, ?_⟩, ?_⟩⟩, ?_, ?_⟩, ?_⟩
    · refine ((((((HR.out.setOther hLb _).setOther hLb _).set 0 (ptr b)).setOther hLd _).setOther hLb _).set 4 (.int .i64 ((len : Int) + 1))).congr (fun i hi => ?_)
      match i, hi with
      | 0, _ => rfl
      | 1, _ => rfl
      | 2, _ => rfl
      | 3, _ => rfl
      | 4, _ => show Value.int .i64 ((len : Int) + 1) = Value.int .i64 ((((d, u) :: r).length + 1 : Nat) : Int); rw [HLEN.out]; rfl
    · refine ((((((HB.out.set 1 (ptr L)).set 0 (ptr d)).setOther hbL _).setOther hbd _).set 2 (ptr L)).setOther hbL _).congr (fun i hi => ?_)
      match i, hi with
      | 0, _ => rfl
      | 1, _ => rfl
      | 2, _ => rfl
      | 3, _ => exact H3.out
    · refine ((((((HD.out.setOther hdb' _).setOther hdb' _).setOther hdL _).set 1 (ptr b)).setOther hdb' _).setOther hdL _).congr (fun i hi => ?_)
      match i, hi with
      | 0, _ => rfl
      | 1, _ => rfl
      | 2, _ => rfl
      | 3, _ => rfl
    · have hnd := List.nodup_cons.1 HN.out
      have hnd2 := List.nodup_cons.1 hnd.2
      have K : Kp (fun k => k = L ∨ k = b ∨ k = d) w _ := ((((((Kp.refl (fun k => k = L ∨ k = b ∨ k = d) _).setCell (a := ⟨b, 1, none⟩) (.inl (.inr (.inl rfl))) (ptr L)).setCell (a := ⟨b, 0, none⟩) (.inl (.inr (.inl rfl))) (ptr d)).setCell (a := ⟨L, 0, none⟩) (.inl (.inl rfl)) (ptr b)).setCell (a := ⟨d, 1, none⟩) (.inl (.inr (.inr rfl))) (ptr b)).setCell (a := ⟨b, 2, none⟩) (.inl (.inr (.inl rfl))) (ptr L)).setCell (a := ⟨L, 4, none⟩) (.inl (.inl rfl)) (.int .i64 ((len : Int) + 1))
      refine HC2.out.kept (fun k hk => K.block k (HC2.out.lt k hk) ?_)
      rintro (e | e | e)
      · subst e; exact hnd.1 (List.mem_cons_of_mem _ hk)
      · subst e; exact HBN.out (List.mem_cons_of_mem _ (List.mem_cons_of_mem _ hk))
      · subst e; exact hnd2.1 hk
    · exact ((((((HB.out.set 1 (ptr L)).set 0 (ptr d)).setOther hbL _).setOther hbd _).set 2 (ptr L)).setOther hbL _).cell (i := 1) (by omega)
    · have hnd := List.nodup_cons.1 HN.out
      refine List.nodup_cons.2 ⟨?_, List.nodup_cons.2 ⟨fun hm => HBN.out (List.mem_cons_of_mem _ hm), hnd.2⟩⟩
      intro hm
      rcases List.mem_cons.1 hm with e | hm
      · exact hLb e
      · exact hnd.1 hm
    · exact ((((((Kp.refl (fun k => k = L ∨ k = b ∨ k ∈ ((d, u) :: r).map Prod.fst) _).setCell (a := ⟨b, 1, none⟩) (.inl (.inr (.inl rfl))) _).setCell (a := ⟨b, 0, none⟩) (.inl (.inr (.inl rfl))) _).setCell (a := ⟨L, 0, none⟩) (.inl (.inl rfl)) _).setCell (a := ⟨d, 1, none⟩) (.inl (.inr (.inr List.mem_cons_self))) _).setCell (a := ⟨b, 2, none⟩) (.inl (.inr (.inl rfl))) _).setCell (a := ⟨L, 4, none⟩) (.inl (.inl rfl)) _

set_option maxHeartbeats 2000000 in
set_option maxRecDepth 100000 in
/-- The element at the front goes. -/
theorem remove_any {L b v : Nat} {es : List (Nat × Nat)} (w : World) (h : Ls w L ((b, v) :: es)) (hs : es.length < 4294967295) :
    Calls Tryd.prog 98 #[ptr L, ptr b] w fun e w' => e = .returned (.tuple #[]) ∧ Ls w' L es ∧ w'.cell? ⟨b, 3, none⟩ = some (opn v) ∧ Kp (fun k => k = L ∨ k ∈ ((b, v) :: es).map Prod.fst) w w' := by
  obtain ⟨⟨pv, hr⟩, ⟨⟨pb, hb⟩, hc⟩, hf, hn⟩ := id h
  have b0 : w.cell? ⟨b, 0, none⟩ = some (.pointer (some ⟨hdb L es, 0, none⟩)) := hb.cell (by omega)
  have b1 : w.cell? ⟨b, 1, none⟩ = some (.pointer (some ⟨L, 0, none⟩)) := hf
  have b2 : w.cell? ⟨b, 2, none⟩ = some (ptr L) := hb.cell (by omega)
  have bf := hb.frozen
  have c0 : w.cell? ⟨L, 0, none⟩ = some (ptr b) := hr.cell (by omega)
  have c1 : w.cell? ⟨L, 1, none⟩ = some pv := hr.cell (by omega)
  obtain ⟨len, hlen⟩ : ∃ len, len = es.length := ⟨_, rfl⟩
  have c4 : w.cell? ⟨L, 4, none⟩ = some (.int .i64 ((len : Int) + 1)) := by
    have := hr.cell (i := 4) (by omega)
    rw [this]
    show some (Value.int .i64 (((es.length + 1 : Nat)) : Int)) = _
    rw [hlen]; rfl
  rw [← hlen] at hs
  have HLEN := hid hlen
  have cf := hr.frozen
  have hnd := List.nodup_cons.1 hn
  have hnd2 := List.nodup_cons.1 hnd.2
  have hbL : b ≠ L := fun e => hnd.1 (by simp [e])
  have hLb : L ≠ b := fun e => hbL e.symm
  have HR := hid hr
  have HB := hid hb
  have HC := hid hc
  have HN := hid hn
  have HND := hid hnd
  have HND2 := hid hnd2
  cases es with
  | nil =>
    change w.cell? ⟨b, 0, none⟩ = some (.pointer (some ⟨L, 0, none⟩)) at b0
    have hfin : ∀ X, X = ((((((w.setCell ⟨L, 0, none⟩ (ptr L)).setCell ⟨L, 1, none⟩ (ptr L)).setCell ⟨b, 0, none⟩ (.pointer none)).setCell ⟨b, 1, none⟩ (.pointer none)).setCell ⟨b, 2, none⟩ (.pointer none)).setCell ⟨L, 4, none⟩ (.int .i64 (len : Int))) → Ls X L [] ∧ X.cell? ⟨b, 3, none⟩ = some (opn v) ∧ Kp (fun k => k = L ∨ k ∈ [(b, v)].map Prod.fst) w X := by
      rintro X rfl
      refine ⟨⟨⟨ptr L, ?_⟩, trivial, trivial, by simp⟩, ?_, ?_⟩
      · refine ((((((HR.out.set 0 (ptr L)).set 1 (ptr L)).setOther hLb _).setOther hLb _).setOther hLb _).set 4 (.int .i64 (len : Int))).congr (fun i hi => ?_)
        match i, hi with
        | 0, _ => rfl
        | 1, _ => rfl
        | 2, _ => rfl
        | 3, _ => rfl
        | 4, _ => show Value.int .i64 (len : Int) = Value.int .i64 ((0 : Nat) : Int); rw [HLEN.out]; rfl
      · exact ((((((HB.out.setOther hbL _).setOther hbL _).set 0 (.pointer none)).set 1 (.pointer none)).set 2 (.pointer none)).setOther hbL _).cell (i := 3) (by omega)
      · exact ((((((Kp.refl (fun k => k = L ∨ k ∈ [(b, v)].map Prod.fst) _).setCell (a := ⟨L, 0, none⟩) (.inl (.inl rfl)) _).setCell (a := ⟨L, 1, none⟩) (.inl (.inl rfl)) _).setCell (a := ⟨b, 0, none⟩) (.inl (.inr List.mem_cons_self)) _).setCell (a := ⟨b, 1, none⟩) (.inl (.inr List.mem_cons_self)) _).setCell (a := ⟨b, 2, none⟩) (.inl (.inr List.mem_cons_self)) _).setCell (a := ⟨L, 4, none⟩) (.inl (.inl rfl)) _
    have HFIN := hid hfin
    clear h hc hf hn hr hb hlen hnd hnd2 hfin
    go_enter Tryd.func98, Tryd.ntmps98
    go_wp2
    go_region
    all_goals go_wp2
    all_goals go_region
    all_goals go_wp2
    all_goals go_end0
    all_goals (have hq := HFIN.out _ rfl; exact ⟨rfl, hq.1.drew.drew, cell_drew (cell_drew hq.2.1), hq.2.2.drew.drew⟩)
  | cons a r =>
    obtain ⟨d, u⟩ := a
    change w.cell? ⟨b, 0, none⟩ = some (.pointer (some ⟨d, 0, none⟩)) at b0
    have hdb' : d ≠ b := fun e => hnd2.1 (by simp [e])
    have hbd : b ≠ d := fun e => hdb' e.symm
    have hdL : d ≠ L := fun e => hnd.1 (by simp [e])
    have hLd : L ≠ d := fun e => hdL e.symm
    obtain ⟨⟨pd, hd⟩, hc2⟩ := hc
    have d1 : w.cell? ⟨d, 1, none⟩ = some pd := hd.cell (by omega)
    have df := hd.frozen
    have HD := hid hd
    have HC2 := hid hc2
    have hfin : ∀ X, X = ((((((w.setCell ⟨L, 0, none⟩ (ptr d)).setCell ⟨d, 1, none⟩ (ptr L)).setCell ⟨b, 0, none⟩ (.pointer none)).setCell ⟨b, 1, none⟩ (.pointer none)).setCell ⟨b, 2, none⟩ (.pointer none)).setCell ⟨L, 4, none⟩ (.int .i64 (len : Int))) → Ls X L ((d, u) :: r) ∧ X.cell? ⟨b, 3, none⟩ = some (opn v) ∧ Kp (fun k => k = L ∨ k ∈ ((b, v) :: (d, u) :: r).map Prod.fst) w X := by
      rintro X rfl
      refine ⟨⟨⟨pv, ?_⟩, ⟨⟨ptr L, ?_⟩, ?_⟩, ?_, ?_⟩, ?_, ?_⟩
      · refine ((((((HR.out.set 0 (ptr d)).setOther hLd _).setOther hLb _).setOther hLb _).setOther hLb _).set 4 (.int .i64 (len : Int))).congr (fun i hi => ?_)
        match i, hi with
        | 0, _ => rfl
        | 1, _ => rfl
        | 2, _ => rfl
        | 3, _ => rfl
        | 4, _ => show Value.int .i64 (len : Int) = Value.int .i64 ((((d, u) :: r).length : Nat) : Int); rw [HLEN.out]
      · refine ((((((HD.out.setOther hdL _).set 1 (ptr L)).setOther hdb' _).setOther hdb' _).setOther hdb' _).setOther hdL _).congr (fun i hi => ?_)
        match i, hi with
        | 0, _ => rfl
        | 1, _ => rfl
        | 2, _ => rfl
        | 3, _ => rfl
      · have hnd3 := List.nodup_cons.1 HND2.out.2
        have K : Kp (fun k => k = L ∨ k = b ∨ k = d) w _ := ((((((Kp.refl (fun k => k = L ∨ k = b ∨ k = d) _).setCell (a := ⟨L, 0, none⟩) (.inl (.inl rfl)) (ptr d)).setCell (a := ⟨d, 1, none⟩) (.inl (.inr (.inr rfl))) (ptr L)).setCell (a := ⟨b, 0, none⟩) (.inl (.inr (.inl rfl))) (.pointer none)).setCell (a := ⟨b, 1, none⟩) (.inl (.inr (.inl rfl))) (.pointer none)).setCell (a := ⟨b, 2, none⟩) (.inl (.inr (.inl rfl))) (.pointer none)).setCell (a := ⟨L, 4, none⟩) (.inl (.inl rfl)) (.int .i64 (len : Int))
        refine HC2.out.kept (fun k hk => K.block k (HC2.out.lt k hk) ?_)
        rintro (e | e | e)
        · subst e; exact HND.out.1 (List.mem_cons_of_mem _ (List.mem_cons_of_mem _ hk))
        · subst e; exact HND2.out.1 (List.mem_cons_of_mem _ hk)
        · subst e; exact hnd3.1 hk
      · exact ((((((HD.out.setOther hdL _).set 1 (ptr L)).setOther hdb' _).setOther hdb' _).setOther hdb' _).setOther hdL _).cell (i := 1) (by omega)
      · exact List.nodup_cons.2 ⟨fun hm => HND.out.1 (List.mem_cons_of_mem _ hm), HND2.out.2⟩
      · exact ((((((HB.out.setOther hbL _).setOther hbd _).set 0 (.pointer none)).set 1 (.pointer none)).set 2 (.pointer none)).setOther hbL _).cell (i := 3) (by omega)
      · exact ((((((Kp.refl (fun k => k = L ∨ k ∈ ((b, v) :: (d, u) :: r).map Prod.fst) _).setCell (a := ⟨L, 0, none⟩) (.inl (.inl rfl)) _).setCell (a := ⟨d, 1, none⟩) (.inl (.inr (List.mem_cons_of_mem _ List.mem_cons_self))) _).setCell (a := ⟨b, 0, none⟩) (.inl (.inr List.mem_cons_self)) _).setCell (a := ⟨b, 1, none⟩) (.inl (.inr List.mem_cons_self)) _).setCell (a := ⟨b, 2, none⟩) (.inl (.inr List.mem_cons_self)) _).setCell (a := ⟨L, 4, none⟩) (.inl (.inl rfl)) _
    have HFIN := hid hfin
    clear h hf hn hr hb hlen hnd hnd2 hd hc2 hfin
    go_enter Tryd.func98, Tryd.ntmps98
    go_wp2
    go_region
    all_goals go_wp2
    all_goals go_region
    all_goals go_wp2
    all_goals go_end0
    all_goals (have hq := HFIN.out _ rfl; exact ⟨rfl, hq.1.drew.drew, cell_drew (cell_drew hq.2.1), hq.2.2.drew.drew⟩)

set_option maxHeartbeats 2000000 in
set_option maxRecDepth 100000 in
/-- 'Remove(Front())'. -/
theorem removeFront_any {L b v : Nat} {es : List (Nat × Nat)} (w : World) (h : Ls w L ((b, v) :: es)) (hs : es.length < 4294967295) :
    Calls Tryd.prog 93 #[ptr L, ptr b] w fun e w' => e = .returned (opn v) ∧ Ls w' L es ∧ Kp (fun k => k = L ∨ k ∈ ((b, v) :: es).map Prod.fst) w w' := by
  obtain ⟨⟨pv, hr⟩, ⟨⟨pb, hb⟩, hc⟩, hf, hn⟩ := id h
  have b2 : w.cell? ⟨b, 2, none⟩ = some (.pointer (some ⟨L, 0, none⟩)) := hb.cell (by omega)
  obtain ⟨jl, hjl, hjl2⟩ := Option.map_eq_some_iff.1 infoList
  have hcmp := run_eql_ptr_same (P := Tryd.prog) w (tp := 112) (te := 126) (⟨L, 0, none⟩ : Addr) (by kernel_rfl) hjl
  have hrm := remove_any w h hs
  have b3 : w.cell? ⟨b, 3, none⟩ = some (opn v) := hb.cell (by omega)
  clear hr hb hc hf hn h hjl hjl2
  go_enter Tryd.func93, Tryd.ntmps93
  go_wp2_with fail
  refine hrm.mono ?_
  rintro e w1 ⟨rfl, h1, h2, h3⟩
  have H1 := hid h1
  have H3 := hid h3
  clear h1 h3
  go_wp2
  go_ret
  exact ⟨rfl, H1.out, H3.out⟩

theorem lazyInit_any {L b : Nat} (w : World) (c0 : w.cell? ⟨L, 0, none⟩ = some (.pointer (some ⟨b, 0, none⟩))) :
    Calls Tryd.prog 96 #[ptr L] w fun e w' => e = .returned (.tuple #[]) ∧ w = w' := by
  go_enter Tryd.func96, Tryd.ntmps96
  go_wp2
  go_end0
  exact ⟨rfl, rfl⟩

set_option maxHeartbeats 2000000 in
set_option maxRecDepth 100000 in
/-- A new element at the front. -/
theorem insertValue_any {L v : Nat} {es : List (Nat × Nat)} (w : World) (h : Ls w L es) (hs : es.length < 4294967295) :
    Calls Tryd.prog 97 #[ptr L, opn v, ptr L] w fun e w' => ∃ b, e = .returned (ptr b) ∧ w.heap.size ≤ b ∧ Ls w' L ((b, v) :: es) ∧ Kp (fun k => k = L ∨ k ∈ es.map Prod.fst) w w' := by
  have hin := insert_any (b := w.heap.size) (v := v) (w.alloc (.cells #[.pointer none, .pointer none, .pointer none, opn v] 124)) (h.since ((World.Since.refl _ _).alloc (Nat.le_refl _) _)) (by omega) (World.rowIs_alloc w #[.pointer none, .pointer none, .pointer none, opn v] 124 (fun i => (#[.pointer none, .pointer none, .pointer none, opn v][i]?).getD undef) (fun i hi => by rw [Array.getElem?_eq_getElem hi]; rfl)) rfl (fun hm => by have := h.lt _ hm; omega)
  clear h
  go_enter Tryd.func97, Tryd.ntmps97
  go_wp2_with (go_at_call 104; refine hin.mono ?_; rintro e w1 ⟨rfl, h1, h2⟩)
  go_ret
  refine ⟨w.heap.size, rfl, Nat.le_refl _, h1, (((Kp.refl _ _).alloc _).trans h2).mono ?_⟩
  rintro k hk (e | e | e)
  · exact .inl e
  · omega
  · exact .inr e

set_option maxHeartbeats 2000000 in
/-- 'PushFront'. -/
theorem pushFront_any {L v : Nat} {es : List (Nat × Nat)} (w : World) (h : Ls w L es) (hs : es.length < 4294967295) :
    Calls Tryd.prog 89 #[ptr L, opn v] w fun e w' => ∃ b, e = .returned (ptr b) ∧ w.heap.size ≤ b ∧ Ls w' L ((b, v) :: es) ∧ Kp (fun k => k = L ∨ k ∈ es.map Prod.fst) w w' := by
  obtain ⟨⟨pv, hr⟩, _, _, _⟩ := id h
  have c0 : w.cell? ⟨L, 0, none⟩ = some (.pointer (some ⟨hdb L es, 0, none⟩)) := hr.cell (by omega)
  have H := hid h
  clear hr h
  go_enter Tryd.func89, Tryd.ntmps89
  go_wp2_with (first
    | (go_at_call 96; refine (lazyInit_any _ c0).mono ?_; rintro e w1 ⟨rfl, rfl⟩)
    | (go_at_call 97; refine (insertValue_any _ H.out hs).mono ?_; rintro e w1 ⟨b, rfl, h1, h2, h3⟩))
  go_ret
  exact ⟨b, rfl, h1, h2, h3⟩

set_option maxHeartbeats 1000000 in
/-- 'list.New()'. -/
theorem listNew_any (w : World) : Calls Tryd.prog 82 #[] w fun e w' => ∃ L, e = .returned (ptr L) ∧ w.heap.size ≤ L ∧ Ls w' L [] ∧ w.Since w.heap.size w' := by
  have hin := init_any (L := w.heap.size) (w.alloc (.cells #[.pointer none, .pointer none, .pointer none, .nilIface, .int .i64 0] 126)) (World.rowIs_alloc w #[.pointer none, .pointer none, .pointer none, .nilIface, .int .i64 0] 126 (fun i => (#[.pointer none, .pointer none, .pointer none, .nilIface, .int .i64 0][i]?).getD undef) (fun i hi => by rw [Array.getElem?_eq_getElem hi]; rfl)) rfl rfl
  go_enter Tryd.func82, Tryd.ntmps82
  go_wp2_with (go_at_call 87; refine hin.mono ?_; rintro e w1 ⟨rfl, h1, h2⟩)
  go_ret
  exact ⟨w.heap.size, rfl, Nat.le_refl _, h1, (((Kp.refl _ _).alloc _).trans h2).toSince (fun k hk e => by omega)⟩
end Go.Proofs.YtkocpijloiamcaaDoor
