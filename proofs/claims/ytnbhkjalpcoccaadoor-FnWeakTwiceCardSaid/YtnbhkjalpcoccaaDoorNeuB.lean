/- bidi.Neutral, impl.Neutral. -/
import Derived.Test.YtnbhkjalpcoccaaDoorNeuW
import Derived.Test.YtnbhkjalpcoccaaDoorNumOf
import Derived.Recover
namespace Go.Proofs.YtnbhkjalpcoccaaDoor
open Go.RowKit

/-- Numbers of the neutral classes; of those that N1 and N2 meet. -/
def NN (y : Int) : Bool := memB [7, 8, 9, 10, 19, 20, 21, 22] y
def ofNeu : List Int := [0, 1, 2, 5, 7, 8, 9, 10, 19, 20, 21, 22]

/-- N1 and N2 over numbers. -/
def neuN (sos eos e : Int) (n : Nat) (x : Nat → Int) (i : Nat) : Int := nout (fun j => NN (x j)) (fun j => sd (x j)) sos eos e n x i

theorem cls_cases {y : Int} (h : clsOk y) : (y ≤ 13 ∧ cls y = y) ∨ (14 ≤ y ∧ cls y = y + 2) := by
  unfold clsOk at h
  unfold cls
  rw [if_neg (by omega)]
  split
  · exact .inl ⟨by omega, rfl⟩
  · exact .inr ⟨by omega, rfl⟩

theorem cls_nb {y : Int} (h : clsOk y) : NB (cls y) = NN y := by
  have hc := cls_cases h
  unfold clsOk at h
  unfold NB NN
  rw [Bool.eq_iff_iff, memB_iff, memB_iff]
  unfold neuL
  simp only [List.mem_cons, List.not_mem_nil, or_false]
  omega

theorem cls_sd {y : Int} (h : memB ofNeu y = true) (hN : NN y = false) : sd (cls y) = sd y := by
  have h1 := memB_iff.1 h
  have h2 := memB_not.1 hN
  unfold ofNeu at h1
  simp only [List.mem_cons, List.not_mem_nil, or_false] at h1 h2
  have : cls y = y := by unfold cls; rw [if_neg (by omega), if_pos (by omega)]
  rw [this]

theorem cls_ofNeu {y : Int} (h : clsOk y) : memB [0, 1, 2, 5, 7, 8, 9, 10, 22, 21, 23, 24] (cls y) = memB ofNeu y := by
  have hc := cls_cases h
  unfold clsOk at h
  rw [Bool.eq_iff_iff, memB_iff, memB_iff]
  unfold ofNeu
  simp only [List.mem_cons, List.not_mem_nil, or_false]
  omega

theorem all_ofNeu {n : Nat} {x : Nat → Int} (h : ∀ i, i < n → clsOk (x i)) : allB [0, 1, 2, 5, 7, 8, 9, 10, 22, 21, 23, 24] (fun i => cls (x i)) n = allB ofNeu x n := by
  unfold allB
  rw [Bool.eq_iff_iff, decide_eq_true_eq, decide_eq_true_eq]
  exact ⟨fun q i hi => by rw [← cls_ofNeu (h i hi)]; exact q i hi, fun q i hi => by rw [cls_ofNeu (h i hi)]; exact q i hi⟩

theorem allB_get {l : List Int} {x : Nat → Int} {n : Nat} (h : allB l x n = true) {i : Nat} (hi : i < n) : memB l (x i) = true := by
  unfold allB at h; exact of_decide_eq_true h i hi

theorem sdN_side {y : Int} (h : memB ofNeu y = true) (hN : NN y = false) : sd y = 0 ∨ sd y = 1 := by
  have h1 := memB_iff.1 h
  have h2 := memB_not.1 hN
  unfold ofNeu at h1
  simp only [List.mem_cons, List.not_mem_nil, or_false] at h1 h2
  unfold sd
  split <;> omega

theorem neu_cls {sos eos e : Int} {n : Nat} {x : Nat → Int} (hs : sos = 0 ∨ sos = 1) (he : e = 0 ∨ e = 1) (hok : ∀ i, i < n → clsOk (x i)) (hall : allB ofNeu x n = true) {i : Nat} (hi : i < n) : neu sos eos e n (fun i => cls (x i)) i = cls (neuN sos eos e n x i) := by
  unfold neu neuN
  refine nout_congr (N' := fun j => NN (x j)) (st' := fun j => sd (x j)) (c' := x) cls (fun i hi => cls_nb (hok i hi)) (fun i hi hN => ?_) (fun i _ => rfl) hs he (fun i hi hN => ?_) rfl rfl hi
  · have hN' : NN (x i) = false := by rw [← cls_nb (hok i hi)]; exact hN
    exact cls_sd (allB_get hall hi) hN'
  · have hN' : NN (x i) = false := by rw [← cls_nb (hok i hi)]; exact hN
    show sd (cls (x i)) = 0 ∨ sd (cls (x i)) = 1
    rw [cls_sd (allB_get hall hi) hN']
    exact sdN_side (allB_get hall hi) hN'

theorem neuN_side {sos eos e : Int} {n : Nat} {x : Nat → Int} (hs : sos = 0 ∨ sos = 1) (he : e = 0 ∨ e = 1) (hall : allB ofNeu x n = true) {i : Nat} (hi : i < n) (hN : NN (x i) = true) : neuN sos eos e n x i = 0 ∨ neuN sos eos e n x i = 1 :=
  nout_side (N := fun j => NN (x j)) hs he (fun _ hi hN => sdN_side (allB_get hall hi) hN) hi hN

theorem neuN_ok {sos eos e : Int} {n : Nat} {x : Nat → Int} (hs : sos = 0 ∨ sos = 1) (he : e = 0 ∨ e = 1) (hok : ∀ i, i < n → clsOk (x i)) (hall : allB ofNeu x n = true) {i : Nat} (hi : i < n) : clsOk (neuN sos eos e n x i) := by
  by_cases hN : NN (x i) = true
  · have := neuN_side (eos := eos) hs he hall hi hN
    unfold clsOk; omega
  · have : neuN sos eos e n x i = x i := nout_not (N := fun j => NN (x j)) (by simpa using hN)
    rw [this]; exact hok i hi

set_option maxHeartbeats 1000000 in
theorem bidiNeutral_any {ao : Option Addr} {b o n cc : Nat} {x : Nat → Int} {lv sos eos : Int} (w : World) (hn : n ≤ 4294967296) (h0 : 0 < n) (hlv0 : 0 ≤ lv) (hlv1 : lv ≤ 125) (hsos : sos = 0 ∨ sos = 1) (hok : ∀ i, i < n → clsOk (x i)) (hx : Sees w ao b o n cc (fun i => .int .u64 (cls (x i)))) :
    Calls Tryd.prog 24 #[.slice ao n cc, .int .i8 lv, .int .u64 sos, .int .u64 eos] w fun e w' =>
      (allB ofNeu x n = true ∧ RetSees w n (fun i => .int .u64 (cls (neuN sos eos (lv % 2) n x i))) e w') ∨ (allB ofNeu x n = false ∧ Died e ∧ w.Since w.heap.size w') := by
  have HOK := Lib.hid hok
  clear hok
  go_enter Tryd.func24, Tryd.ntmps24
  go_wp2_with fail
  refine (sequence_any _ hn h0 hx).mono ?_
  rintro e w1 ⟨S, q, cap, rfl, hS⟩
  have hqB := (hS.types.ge q rfl).1
  go_wp2_with fail
  refine (resolveNeutral_any _ hn h0 hlv0 hlv1 hsos hS.row hS.types hS.ne).mono ?_
  rintro e w2 ⟨h, hk⟩
  have hs2 : w.Since w.heap.size w2 := ⟨hk.os.trans hS.since.os, hk.tape.trans hS.since.tape, hk.output.trans hS.since.output, Nat.le_trans hS.since.size hk.size, fun k hk' => (hk.block k (Nat.lt_of_lt_of_le hk' hS.since.size) (by omega)).trans (hS.since.block k hk')⟩
  rcases h with ⟨hall, rfl, hG⟩ | ⟨hbad, u, pv, rfl⟩
  · rw [all_ofNeu HOK.out] at hall
    have k2 : w2.cell? ⟨S, 2, none⟩ = some (.slice (some ⟨q, 0, none⟩) n cap) := (hk.row hS.row (fun e => hS.ne e.symm)).cell (by omega)
    have HALL := Lib.hid hall
    clear hall
    go_wp2_with fail
    go_ret
    exact .inl ⟨HALL.out, _, q, 0, _, rfl, (hG.sees' h0).congr (fun i hi => by rw [neu_cls hsos (by omega) HOK.out HALL.out hi]), hqB, hs2⟩
  · rw [all_ofNeu HOK.out] at hbad
    have HBAD := Lib.hid hbad
    clear hbad
    go_wp2_with fail
    exact ⟨rfl, .inr ⟨HBAD.out, ⟨_, _, rfl⟩, hs2⟩⟩

theorem cls_side {s : Int} (h : s = 0 ∨ s = 1) : cls s = s := by rcases h with rfl | rfl <;> rfl

theorem caught (p1 p2 : Addr) (v1 v2 : Value) (u : TypeId) (pv : Value) (older : List PanicEntry) (w : World) (h1 : w.cell? p1 = some v1) (z1 : w.frozen? p1 = false) (h2 : (w.setCell p1 (.slice none 0 0)).cell? p2 = some v2) (z2 : (w.setCell p1 (.slice none 0 0)).frozen? p2 = false) :
    CallsD Tryd.prog 22 #[.pointer (some p1), .pointer (some p2)] (.panicking ({ v := .iface u pv, recovered := false } :: older)) w fun e u' w' =>
      e = .returned (.tuple #[]) ∧ u' = .panicking ({ v := .iface u pv, recovered := true } :: older) ∧ w' = (w.setCell p1 (.slice none 0 0)).setCell p2 (.bool false) := by
  refine callsD_of_wpS Tryd.func22 rfl fun c₀ cs hu => ?_
  apply wpS_seq
  apply wpS_region
  simp [wpOpsS, go_sem, recoverD, hu, Tryd.ntmps22, Exit.thenS]
  refine wpS_cond (t := true) (by simp [Act.eval, Array.replicate]) ?_
  simp only [if_true]
  apply wpS_region
  simp [wpOpsS, go_sem, h1, z1, h2, z2, bodyPostS, results, Tryd.results22]

theorem idle (p1 p2 : Addr) (w : World) :
    CallsD Tryd.prog 22 #[.pointer (some p1), .pointer (some p2)] .returning w fun e u' w' => e = .returned (.tuple #[]) ∧ u' = .returning ∧ w' = w := by
  refine callsD_of_wpS Tryd.func22 rfl fun c₀ cs hu => ?_
  apply wpS_seq
  apply wpS_region
  simp [wpOpsS, go_sem, recoverD, hu, Tryd.ntmps22, Exit.thenS]
  refine wpS_cond (t := false) (by simp [Act.eval, Array.replicate]) ?_
  simp only [Bool.false_eq_true, if_false]
  refine wpS_of_wp (wp_skip ?_)
  cases c₀
  simp_all [bodyPostS, results, Tryd.results22]

/-- What comes back: the numbers y and true, or nil and false. -/
def PRet (w : World) (n : Nat) (ok : Bool) (y : Nat → Int) (e : Ending) (w' : World) : Prop :=
  ((ok = true ∧ ∃ a b o k, e = .returned (.tuple #[.slice a n k, .bool true]) ∧ Sees w' a b o n k (fun i => .int .i64 (y i)) ∧ w.heap.size ≤ b) ∨ (ok = false ∧ e = .returned (.tuple #[.slice none 0 0, .bool false]))) ∧ w.Since w.heap.size w'

set_option maxHeartbeats 1000000 in
theorem implNeutral_any {ao : Option Addr} {b o n cc : Nat} {x : Nat → Int} {lv s0 e0 : Int} (w : World) (ht : Tab w) (hn : n ≤ 4294967296) (h0 : 0 < n) (hlv0 : 0 ≤ lv) (hlv1 : lv ≤ 125) (hs : s0 = 0 ∨ s0 = 1) (he : e0 = 0 ∨ e0 = 1) (hok : ∀ i, i < n → clsOk (x i)) (hx : Sees w ao b o n cc (fun i => .int .i64 (x i))) :
    Calls Tryd.prog 12 #[.slice ao n cc, .int .i64 lv, .int .i64 s0, .int .i64 e0] w (PRet w n (allB ofNeu x n) (neuN s0 e0 (lv % 2) n x)) := by
  have hmf : ∀ (fn : Fn) (first cap : Array Value) (w : World), (Instr.makeFunc fn first cap).run Tryd.prog w = .ok (.func fn first cap) w := fun _ _ _ _ => rfl
  have hsA : w.Since w.heap.size ((w.alloc (.cells #[.slice none 0 0] 22)).alloc (.cells #[.bool false] 4)) := ((World.Since.refl _ _).alloc (Nat.le_refl _) _).alloc (by simp) _
  have r1 : ((w.alloc (.cells #[.slice none 0 0] 22)).alloc (.cells #[.bool false] 4)).rowIs w.heap.size 22 1 (fun _ => .slice none 0 0) := (World.rowIs_alloc w #[.slice none 0 0] 22 (fun _ => .slice none 0 0) (fun i hi => by simp at hi; subst hi; rfl)).alloc _
  have r2 : ((w.alloc (.cells #[.slice none 0 0] 22)).alloc (.cells #[.bool false] 4)).rowIs (w.heap.size + 1) 4 1 (fun _ => .bool false) := by
    have := World.rowIs_alloc (w.alloc (.cells #[.slice none 0 0] 22)) #[.bool false] 4 (fun _ => .bool false) (fun i hi => by simp at hi; subst hi; rfl)
    rw [World.size_alloc] at this; exact this
  have HOK := Lib.hid hok
  clear hok
  go_enter_defers Tryd.func12, Tryd.ntmps12
  go_wp2_with fail
  generalize hwA : (w.alloc (.cells #[.slice none 0 0] 22)).alloc (.cells #[.bool false] 4) = wA at hsA r1 r2 ⊢
  have hz : wA.heap.size = w.heap.size + 2 := by rw [← hwA]; simp
  refine (classesOf_any _ (ht.since hsA) hn (hx.since hsA)).mono ?_
  rintro e w1 ⟨ao1, b1, o1, c1, rfl, hs1, hf1, hsi1⟩
  have hs01 := since2 hsA hsi1
  go_wp2_with fail
  refine (classOf_any _ _ (ht.since hs01)).mono ?_
  rintro e w1' ⟨rfl, rfl⟩
  go_wp2_with fail
  refine (classOf_any _ _ (ht.since hs01)).mono ?_
  rintro e w1' ⟨rfl, rfl⟩
  rw [cls_side hs, cls_side he]
  go_wp2_with fail
  refine (bidiNeutral_any _ hn h0 hlv0 hlv1 hs HOK.out hs1).mono ?_
  rintro e w2 (⟨hall, ao2, b2, o2, c2, rfl, hs2, hf2, hsi2⟩ | ⟨hbad, ⟨u, pv, rfl⟩, hsi2⟩)
  · have HALL := Lib.hid hall
    have hok2 : ∀ i, i < n → clsOk (neuN s0 e0 (lv % 2) n x i) := fun i hi => neuN_ok hs (by omega) HOK.out HALL.out hi
    have HOK2 := Lib.hid hok2
    clear hall hok2
    go_wp2_with fail
    refine (numbersOf_any _ (ht.since (since2 hs01 hsi2)) hn HOK2.out hs2).mono ?_
    rintro e w3 ⟨ao3, b3, o3, c3, rfl, hs3, hf3, hsi3⟩
    have hsA3 : wA.Since wA.heap.size w3 := since2 hsi1 (since2 hsi2 hsi3)
    have R1 := r1.of_block (hsA3.block _ r1.lt)
    have R2 := r2.of_block (hsA3.block _ r2.lt)
    have q1 := R1.cell (i := 0) (by omega)
    have q2 := R2.cell (i := 0) (by omega)
    have z1 := R1.frozen 0
    have z2 := R2.frozen 0
    have hz2 : wA.heap.size ≤ b3 := Nat.le_trans (since2 hsi1 hsi2).size hf3
    have hfin : w.Since w.heap.size ((w3.setCell ⟨w.heap.size, 0, none⟩ (.slice ao3 n c3)).setCell ⟨w.heap.size + 1, 0, none⟩ (.bool true)) := ((since2 hsA hsA3).setCell (a := ⟨w.heap.size, 0, none⟩) (Nat.le_refl _) _).setCell (a := ⟨w.heap.size + 1, 0, none⟩) (by show w.heap.size ≤ w.heap.size + 1; omega) _
    have hsees : Sees ((w3.setCell ⟨w.heap.size, 0, none⟩ (.slice ao3 n c3)).setCell ⟨w.heap.size + 1, 0, none⟩ (.bool true)) ao3 b3 o3 n c3 (fun i => .int .i64 (neuN s0 e0 (lv % 2) n x i)) :=
      (hs3.kept (fun _ => Go.Deep.blk_setCell_other _ _ _ _ (by show b3 ≠ w.heap.size; omega))).kept (fun _ => Go.Deep.blk_setCell_other _ _ _ _ (by show b3 ≠ w.heap.size + 1; omega))
    have f1 : ((w3.setCell ⟨w.heap.size, 0, none⟩ (.slice ao3 n c3)).setCell ⟨w.heap.size + 1, 0, none⟩ (.bool true)).cell? ⟨w.heap.size, 0, none⟩ = some (.slice ao3 n c3) := ((R1.set 0 (.slice ao3 n c3)).setOther (by show w.heap.size ≠ w.heap.size + 1; omega) _).cell (i := 0) (by omega)
    have f2 : ((w3.setCell ⟨w.heap.size, 0, none⟩ (.slice ao3 n c3)).setCell ⟨w.heap.size + 1, 0, none⟩ (.bool true)).cell? ⟨w.heap.size + 1, 0, none⟩ = some (.bool true) := ((R2.setOther (by show w.heap.size + 1 ≠ w.heap.size; omega) _).set 0 (.bool true)).cell (i := 0) (by omega)
    go_wp2_with fail
    refine leaves_cons (f := 22) (args := #[.pointer (some ⟨w.heap.size, 0, none⟩), .pointer (some ⟨w.heap.size + 1, 0, none⟩)]) (by simp) (by simp [go_sem]) ?_
    refine (idle _ _ _).mono ?_
    rintro e u' w'' ⟨rfl, rfl, rfl⟩
    simp [Leaves, settle, results, Tryd.results12, go_sem, f1, f2]
    exact ⟨.inl ⟨HALL.out, _, _, _, _, rfl, hsees, by omega⟩, hfin⟩
  · have hsA2 : wA.Since wA.heap.size w2 := since2 hsi1 hsi2
    have R1 := r1.of_block (hsA2.block _ r1.lt)
    have R2 := r2.of_block (hsA2.block _ r2.lt)
    have hfin : w.Since w.heap.size ((w2.setCell ⟨w.heap.size, 0, none⟩ (.slice none 0 0)).setCell ⟨w.heap.size + 1, 0, none⟩ (.bool false)) := ((since2 hsA hsA2).setCell (a := ⟨w.heap.size, 0, none⟩) (Nat.le_refl _) _).setCell (a := ⟨w.heap.size + 1, 0, none⟩) (by show w.heap.size ≤ w.heap.size + 1; omega) _
    have R1' := (R1.set 0 (.slice none 0 0)).setOther (a := ⟨w.heap.size + 1, 0, none⟩) (by show w.heap.size ≠ w.heap.size + 1; omega) (.bool false)
    have R2' := R2.setOther (a := ⟨w.heap.size, 0, none⟩) (by show w.heap.size + 1 ≠ w.heap.size; omega) (.slice none 0 0)
    have f1 := R1'.cell (i := 0) (by omega)
    have f2 := (R2'.set 0 (.bool false)).cell (i := 0) (by omega)
    simp only [if_true] at f1 f2
    have HBAD := Lib.hid hbad
    clear hbad
    go_wp2_with fail
    refine leaves_cons (f := 22) (args := #[.pointer (some ⟨w.heap.size, 0, none⟩), .pointer (some ⟨w.heap.size + 1, 0, none⟩)]) (by simp) (by simp [go_sem]) ?_
    refine (caught ⟨w.heap.size, 0, none⟩ ⟨w.heap.size + 1, 0, none⟩ _ _ u pv [] _ (R1.cell (i := 0) (by omega)) (R1.frozen 0) (R2'.cell (i := 0) (by omega)) (R2'.frozen 0)).mono ?_
    rintro e u' w'' ⟨rfl, rfl, rfl⟩
    simp [Leaves, settle, results, Tryd.results12, go_sem, f1, f2]
    exact ⟨.inr ⟨HBAD.out, rfl⟩, hfin⟩

end Go.Proofs.YtnbhkjalpcoccaaDoor
