/- bidi.Sequences, impl.Sequences. -/
import Derived.Test.YtjelgbfgciaapaaDoorDirs
import Derived.Test.YtjelgbfgciaapaaDoorSqP
import Derived.Test.YtjelgbfgciaapaaDoorSq
import Derived.Test.YtjelgbfgciaapaaDoorExpl
import Derived.Test.YtjelgbfgciaapaaDoorRunsL
import Derived.Test.YtjelgbfgciaapaaDoorNumOf
import Derived.Test.YtjelgbfgciaapaaDoorCopy
import Derived.Sort.AtCall
namespace Go.Proofs.YtjelgbfgciaapaaDoor
open Go.RowKit
set_option linter.unusedVariables false

def gB (x : Nat → Int) (base : Int) (n : Nat) (l : List Nat) : List Value := [.int .i8 (lvl x (fsI n x) base (hd0 l)), .int .u64 (soV x (fsI n x) base n l), .int .u64 (eoV x (fsI n x) (fun i => cls (tI x (fsI n x) base i)) base n l)]
def gI (x : Nat → Int) (base : Int) (n : Nat) (l : List Nat) : List Value := [.int .i64 (lvl x (fsI n x) base (hd0 l)), .int .i64 (soV x (fsI n x) base n l), .int .i64 (eoV x (fsI n x) (fun i => cls (tI x (fsI n x) base i)) base n l)]

theorem Tryd.underlyingBS : Tryd.prog.underlying 64 = some (.slice 69) := by kernel_rfl
theorem Tryd.infoBS : (Tryd.prog.info? 69).map (fun i => (i.zero, i.size, i.bytes)) = some (some (.agg #[.slice none 0 0, .int .i8 0, .int .u64 0, .int .u64 0]), 4, 48) := by kernel_rfl
theorem Tryd.underlyingIS : Tryd.prog.underlying 37 = some (.slice 41) := by kernel_rfl
theorem Tryd.infoIS : (Tryd.prog.info? 41).map (fun i => (i.zero, i.size, i.bytes)) = some (some (.agg #[.slice none 0 0, .int .i64 0, .int .i64 0, .int .i64 0]), 4, 48) := by kernel_rfl

set_option maxHeartbeats 8000000 in
theorem bidiSequences_any {ao : Option Addr} {b o n cc : Nat} {base : Int} {x : Nat → Int} (w : World) (hn : n ≤ 4294967296) (h0 : 0 < n) (hb : base = 0 ∨ base = 1) (hok : ∀ i, i < n → clsOk (x i)) (hB : ∀ i, i < n → x i = 7 → n ≤ i + 1)
    (hx : Sees w ao b o n cc (fun i => .int .u64 (cls (x i)))) :
    Calls Tryd.prog 41 #[.slice ao n cc, .int .i8 base] w fun e w' => ∃ v, e = .returned v ∧ Sq4 w' w.heap.size 69 v (seqs x (fsI n x) base n) (gB x base n) ∧ w.Since w.heap.size w' := by
  have HOK := Lib.hid hok
  have HB := Lib.hid hB
  have HBB := Lib.hid hb
  have HIS := Lib.hid (fun l (h : l ∈ seqs x (fsI n x) base n) => seqs_is hb hB h)
  have HLEN := seqs_len (x := x) (fs := fsI n x) (base := base) (n := n)
  clear hok hB hb
  go_enter Tryd.func41, Tryd.ntmps41
  go_wp2_with fail
  refine (explicit_any _ hn h0 HBB.out HOK.out HB.out hx).mono ?_
  rintro e w1 ⟨p, b0, T, R, N6, N7, c0, capT, cl, rfl, hX⟩
  have hP : PR w1 p n x base b0 c0 T capT R N6 N7 (fun i => cls (tI x (fsI n x) base i)) cl (fun i => mt (iniN x) (pdiN x) n i) (fun i => bg (iniN x) (pdiN x) n n i) :=
    ⟨hX.para.cell (by omega), hX.para.cell (by omega), hX.para.cell (by omega), hX.para.cell (by omega), hX.para.cell (by omega), hX.para.cell (by omega),
     fun i hi => by have := (hX.init.get hi).2; rw [Nat.zero_add] at this; exact this, fun i hi => hX.types.cell hi, fun i hi => hX.levels.cell hi, fun i hi => hX.ends.cell hi, fun i hi => hX.begins.cell hi, hX.init, hX.levels⟩
  have HD := Lib.hid (dirs_any w1 hn h0 hP HOK.out HBB.out HB.out hX.lev)
  have HLV := Lib.hid hX.lev
  have hs := hX.since
  clear hX hP hx
  go_wp2_with fail
  refine HD.out.mono ?_
  rintro e w2 ⟨v, Sf, Tf, B2, rfl, hB2, hS0, hs2⟩
  have hS : Sqs w2 B2 p n base (fun i => cls (tI x (fsI n x) base i)) cl (lvR x (fsI n x) base) v (seqs x (fsI n x) base n) Sf Tf := hS0
  have HGB := Lib.hid (show ∀ l, l ∈ seqs x (fsI n x) base n → cl (hd0 l) = lvl x (fsI n x) base (hd0 l) from fun l hl => by
    have h1 := HIS.out l hl
    have h2 := hd0_mem h1.ne
    exact HLV.out _ (h1.lt _ h2) (h1.nr _ h2))
  obtain ⟨L, hL⟩ : ∃ L, L = seqs x (fsI n x) base n := ⟨_, rfl⟩
  rw [← hL] at hS HIS HLEN HGB
  obtain ⟨aov, cv, rfl⟩ := hS.outer.len
  obtain ⟨bv, hbv, hsv⟩ := hS.outer.see
  have HSO := Lib.hid hS.ok
  have hs02 := since2 hs hs2
  have HL := Lib.hid hL
  clear HD hS0 hL hS hs
  go_wp2_with fail
  go_loopg [5, 7, 13] L.length (fun g out _ i wr => ∃ k : Nat, k ≤ L.length ∧ g = L.length - k ∧ i = .int .i64 k ∧ Sq4 wr w2.heap.size 69 out (L.take k) (gB x base n) ∧ w2.Since w2.heap.size wr)
  case atStart => exact ⟨0, Nat.zero_le _, rfl, rfl, Sq4.nil _ _ _ _, World.Since.refl _ _⟩
  case round =>
    obtain ⟨k, hk, rfl, rfl, hQ, hsr⟩ := hrel
    by_cases hkn : k < L.length
    · have hkz : (k : Int) < (L.length : Int) := by omega
      obtain ⟨rfl, hc⟩ := (hsv.since hsr).get hkn
      rw [Nat.zero_add] at hc
      obtain ⟨a, b3, c3, h1, h2, h3, h4⟩ := ((HSO.out k hkn)).ex
      have h1r := h1.since hsr
      have h3r := h3.since hsr
      have hb3 : 0 < (L.getD k []).length → b3 < w2.heap.size := fun h => h1.lt h
      have hTS := take_snoc hkn
      have hgv := HGB.out _ (getD_memL hkn)
      obtain ⟨l, hl⟩ : ∃ l, l = L.getD k [] := ⟨_, rfl⟩
      rw [← hl] at h1r h3r hb3 hTS hgv
      have hSlt : Sf k < w2.heap.size := h3.row.lt
      have k1 : wr.cell? ⟨Sf k, 1, none⟩ = some (.slice a l.length c3) := h3r.row.cell (by omega)
      have k4 : wr.cell? ⟨Sf k, 4, none⟩ = some (.int .i8 (cl (hd0 l))) := h3r.row.cell (by omega)
      have k5 := h3r.row.cell (i := 5) (by omega)
      have k6 := h3r.row.cell (i := 6) (by omega)
      obtain ⟨F, hF, hQF⟩ := hQ
      have hlt : (L.take k).length = k := by rw [List.length_take]; omega
      have hF' := hF
      rw [hlt] at hF
      obtain ⟨ao5, c5, rfl⟩ := hF.len
      have HNE := Lib.hid (show ∀ q, (Value.slice ao5 k c5).ownBlock = some q → q ≠ Sf k from fun q hq => by
        have := (hF.ge q hq).1
        omega)
      obtain ⟨lv0, hlv0⟩ : ∃ lv0, lv0 = cl (hd0 l) := ⟨_, rfl⟩
      obtain ⟨so, hso⟩ : ∃ so, so = soV x (fsI n x) base n l := ⟨_, rfl⟩
      obtain ⟨eo, heo⟩ : ∃ eo, eo = eoV x (fsI n x) (fun i => cls (tI x (fsI n x) base i)) base n l := ⟨_, rfl⟩
      rw [← hlv0] at k4
      change _ = some (Value.int .u64 _) at k5 k6
      rw [hgv] at k5 k6
      change _ = some (Value.int .u64 (soV x (fsI n x) base n l)) at k5
      change _ = some (Value.int .u64 (eoV x (fsI n x) (fun i => cls (tI x (fsI n x) base i)) base n l)) at k6
      rw [← hso] at k5
      rw [← heo] at k6
      have HGG := Lib.hid (show gB x base n l = [.int .i8 lv0, .int .u64 so, .int .u64 eo] by unfold gB; rw [hlv0, hgv, hso, heo])
      have HTS := Lib.hid hTS
      have hwz := hsr.size
      have hkk : k ≤ 4294967296 := by omega
      clear hl hTS hgv hlv0 hso heo h1 h2 h3 h4 h3r
      go_upto_region 5 with fail
      have hka : ∀ X, (wr.drew.alloc X).cell? ⟨Sf k, 1, none⟩ = some (.slice a l.length c3) ∧ (wr.drew.alloc X).cell? ⟨Sf k, 4, none⟩ = some (.int .i8 lv0) ∧ (wr.drew.alloc X).cell? ⟨Sf k, 5, none⟩ = some (.int .u64 so) ∧ (wr.drew.alloc X).cell? ⟨Sf k, 6, none⟩ = some (.int .u64 eo) := fun X =>
        have hsx : wr.Since wr.heap.size (wr.drew.alloc X) := (World.Since.refl _ _).drew.alloc (Nat.le_refl _) _
        ⟨(hsx.cell (World.block_lt_of_cell? _ _ k1)).trans k1, (hsx.cell (World.block_lt_of_cell? _ _ k4)).trans k4, (hsx.cell (World.block_lt_of_cell? _ _ k5)).trans k5, (hsx.cell (World.block_lt_of_cell? _ _ k6)).trans k6⟩
      have hF5 := hF.since ((World.Since.refl _ _).drew : wr.Since wr.heap.size wr.drew)
      have hQF5 := hQF.since ((World.Since.refl _ _).drew : wr.Since wr.heap.size wr.drew)
      have h1r5 := h1r.since ((World.Since.refl _ _).drew : wr.Since wr.heap.size wr.drew)
      have hsr5 := hsr.drew
      have hwz5 : w2.heap.size ≤ wr.drew.heap.size := hwz
      have hk1z := World.block_lt_of_cell? _ _ k1
      have HAF := Lib.hid (show ∀ (X : Obj) (w6 : World), (wr.drew.alloc X).grownBy w6 (Value.slice ao5 k c5).ownBlock → ∀ i v, wr.cell? ⟨Sf k, i, none⟩ = some v → w6.cell? ⟨Sf k, i, none⟩ = some v from fun X w6 hg i v hc => by
        have h5 : (wr.drew.alloc X).cell? ⟨Sf k, i, none⟩ = some v := (((World.Since.refl _ _).drew.alloc (Nat.le_refl _) X : wr.Since wr.heap.size (wr.drew.alloc X)).cell (World.block_lt_of_cell? _ _ hc)).trans hc
        rw [← h5]
        exact World.cell?_of_block (hg.block (Sf k) (World.block_lt_of_cell? _ _ h5) (fun e => HNE.out (Sf k) e.symm rfl)))
      go_region_held3 (fun wx => wx.cell? ⟨Sf k, 1, none⟩ = some (.slice a l.length c3) ∧ wx.cell? ⟨Sf k, 4, none⟩ = some (.int .i8 lv0) ∧ wx.cell? ⟨Sf k, 5, none⟩ = some (.int .u64 so) ∧ wx.cell? ⟨Sf k, 6, none⟩ = some (.int .u64 eo)) (first | exact ⟨k1, k4, k5, k6⟩ | exact hka _ | exact hk6w)
        (first | (refine step_pushW wr.drew rfl _ _ 64 rfl w2.heap.size 69 (.agg #[.slice none 0 0, .int .i8 0, .int .u64 0, .int .u64 0]) 4 48 Tryd.underlyingBS Tryd.infoBS rfl (by omega) (.slice ao5 k c5) k F [.slice a l.length c3, .int .i8 lv0, .int .u64 so, .int .u64 eo] (by rfl) hF5 (by rfl) rfl (fun u hu => by simp at hu; rcases hu with rfl | rfl | rfl | rfl <;> rfl) hkk (by omega) hwz5 ?_; intro v' w6 hg6 hgr6 hat6; have hk6w := (⟨HAF.out _ _ hgr6 _ _ k1, HAF.out _ _ hgr6 _ _ k4, HAF.out _ _ hgr6 _ _ k5, HAF.out _ _ hgr6 _ _ k6⟩ : w6.cell? ⟨Sf k, 1, none⟩ = some (.slice a l.length c3) ∧ w6.cell? ⟨Sf k, 4, none⟩ = some (.int .i8 lv0) ∧ w6.cell? ⟨Sf k, 5, none⟩ = some (.int .u64 so) ∧ w6.cell? ⟨Sf k, 6, none⟩ = some (.int .u64 eo))))
      have hQ6 := hQF5.push h1r5 (fun q hq h0 => by
        have h1 := (hF5.ge q hq).1
        have h2 := hb3 h0
        omega) (by rw [hlt, HGG.out]; exact hg6) hgr6 hat6
      rw [← HTS.out] at hQ6
      have hs6 : w2.Since w2.heap.size w6 := (hsr5.alloc hwz5 _).grown hgr6 (by rw [World.size_alloc]; omega) (fun q hq => (hF5.ge q hq).1)
      clear hg6 hgr6 hat6 hF5 hQF5 h1r5 hsr5 hk6w hka k1 k4 k5 k6 hF hQF h1r hsr hc hF'
      go_wp2_with fail
      go_roundg (L.length - (k + 1))
      case rel => exact ⟨k + 1, by omega, rfl, by go_num, hQ6, hs6⟩
      case measure => omega
    · obtain rfl : k = L.length := by omega
      rw [List.take_length] at hQ
      go_wp2_with fail
      go_ret
      exact ⟨_, rfl, by rw [← HL.out]; exact hQ.base hs02.size, since2 hs02 hsr⟩

theorem Tryd.structBS : Tryd.prog.underlying 69 = some (.struct (match Tryd.prog.underlying 69 with | some (.struct fs) => fs | _ => #[])) := by kernel_rfl
theorem Tryd.sizeBS : (Tryd.prog.info? 69).map (fun i => i.size) = some 4 := by kernel_rfl

theorem since_of_drew {w w' : World} (h : w.drew.Since w.drew.heap.size w') : w.Since w.heap.size w' := ⟨h.os, h.tape, h.output, h.size, h.block⟩

theorem dirN_lt (v : Int) : ∃ k : Nat, k < 23 ∧ dirN v = (k : Int) ∧ (dirN v = cls k) := by
  unfold dirN
  rcases Int.emod_two_eq v with h | h
  · exact ⟨0, by omega, by omega, by rw [h]; rfl⟩
  · exact ⟨1, by omega, by omega, by rw [h]; rfl⟩

set_option maxHeartbeats 8000000 in
set_option maxRecDepth 100000 in
theorem implSequences_any {ao : Option Addr} {b o n cc : Nat} {base : Int} {x : Nat → Int} (w : World) (ht : Tab w) (hn : n ≤ 4294967296) (h0 : 0 < n) (hb : base = 0 ∨ base = 1) (hok : ∀ i, i < n → clsOk (x i)) (hB : ∀ i, i < n → x i = 7 → n ≤ i + 1)
    (hx : Sees w ao b o n cc (fun i => .int .i64 (x i))) :
    Calls Tryd.prog 23 #[.slice ao n cc, .int .i64 base] w fun e w' => ∃ v, e = .returned v ∧ Sq4 w' w.heap.size 41 v (seqs x (fsI n x) base n) (gI x base n) ∧ w.Since w.heap.size w' := by
  have HOK := Lib.hid hok
  have HB := Lib.hid hB
  have HBB := Lib.hid hb
  have hb0 : 0 ≤ base := by omega
  have hb1 : base ≤ 1 := by omega
  have HIS := Lib.hid (fun l (h : l ∈ seqs x (fsI n x) base n) => seqs_is hb hB h)
  have HLEN := seqs_len (x := x) (fs := fsI n x) (base := base) (n := n)
  have H0 := Gw.empty w w.heap.size 41 4 (fun _ => []) (Nat.le_refl _)
  have hE0 : (w.alloc (.cells #[] 41)).heap[w.heap.size]? = some (.cells #[] 41 (0, 0)) := heap_alloc_new w _
  have hs0 : w.Since w.heap.size (w.alloc (.cells #[] 41)) := (World.Since.refl _ _).alloc (Nat.le_refl _) _
  have hz0 : (w.alloc (.cells #[] 41)).heap.size = w.heap.size + 1 := by rw [World.size_alloc]
  have ht0 := ht.since hs0
  have HTN := Lib.hid (show 0 ≠ w.heap.size from fun e => by have := ht.lt; omega)
  have hx0 := hx.since hs0
  clear hok hB hb ht hx
  go_enter Tryd.func23, Tryd.ntmps23
  go_wp2_with fail
  refine (classesOf_any _ ht0 hn hx0).mono ?_
  rintro e w1 ⟨a1, b1, o1, c1, rfl, hs1, hf1, hsi1⟩
  go_wp2_with fail
  refine (bidiSequences_any _ hn h0 HBB.out HOK.out HB.out hs1).mono ?_
  rintro e w2 ⟨v, rfl, hQ, hs2⟩
  have hs12 := since2 hsi1 hs2
  have hs02 := since2 hs0 hs12
  have ht2 := ht0.since hs12
  have H2 := H0.since hs12
  have hz1 := hsi1.size
  have hz2 := hs2.size
  have hz01 : w.heap.size < w1.heap.size := by rw [hz0] at hz1; omega
  have hE2 : w2.heap[w.heap.size]? = some (.cells #[] 41 (0, 0)) := by
    rw [hs12.block w.heap.size (by rw [hz0]; omega)]; exact hE0
  have HGV := Lib.hid (show ∀ l, l ∈ seqs x (fsI n x) base n → 0 ≤ lvl x (fsI n x) base (hd0 l) ∧ lvl x (fsI n x) base (hd0 l) ≤ 125 from fun l hl => by
    have := lvl_range (x := x) (fs := fsI n x) (base := base) (by have := HBB.out; omega) (by have := HBB.out; omega) (hd0 l)
    have := HBB.out
    omega)
  obtain ⟨L, hL⟩ : ∃ L, L = seqs x (fsI n x) base n := ⟨_, rfl⟩
  rw [← hL] at hQ HIS HLEN HGV
  have HL := Lib.hid hL
  obtain ⟨F, hF, hQF⟩ := hQ
  obtain ⟨av, cv, rfl⟩ := hF.len
  have HQF := Lib.hid hQF
  have HFF := Lib.hid hF
  have HFL := Lib.hid (show ∀ i, i < L.length → (F i).length = 4 from fun i hi => by
    obtain ⟨a, b, o, c, h1, _⟩ := HQF.out i hi
    rw [h1]; rfl)
  have HNB := Lib.hid (show ∀ (a : Option Addr) (b o m c : Nat) (f : Nat → Value), Sees w2 a b o m c f → 0 < m → b ≠ w.heap.size from fun a b o m c f h hm e => by
    have h1 := (h.get hm).2
    subst e
    unfold World.cell? at h1
    simp only [hE2] at h1
    simp at h1)
  clear H0 hE0 hs0 ht0 hx0 hs1 hsi1 hs2 hs12 hL hF hQF hE2 hz0 hz1
  go_wp2_with fail
  go_loopg [5, 7, 15] L.length (fun g out _ i wr => ∃ k : Nat, k ≤ L.length ∧ g = L.length - k ∧ i = .int .i64 k ∧ Sq4 wr w.heap.size 41 out (L.take k) (gI x base n) ∧ (∀ q, out.ownBlock = some q → q = w.heap.size ∨ w2.heap.size ≤ q) ∧ Kp (fun q => q = w.heap.size) w2 wr)
  case atStart => exact ⟨0, Nat.zero_le _, rfl, rfl, ⟨_, H2, fun j hj => absurd hj (Nat.not_lt_zero _)⟩, fun q hq => by simp only [Value.ownBlock, Option.some.injEq] at hq; exact .inl hq.symm, Kp.refl _ _⟩
  case round =>
    clear H2
    obtain ⟨k, hk, rfl, rfl, hQ, hob, hkp⟩ := hrel
    by_cases hkn : k < L.length
    · have hkz : (k : Int) < (L.length : Int) := by omega
      obtain ⟨qv, cv', hv0, hqv, _⟩ := HFF.out.form (by omega)
      simp only [Value.slice.injEq] at hv0
      obtain ⟨rfl, _, rfl⟩ := hv0
      have hFr : Gw wr (w1.heap.size) 69 4 (.slice (some ⟨qv, 0, none⟩) L.length cv) L.length F := HFF.out.kept' (fun q hq => hkp.block q (HFF.out.ge q hq).2 (by have := (HFF.out.ge q hq).1; omega))
      obtain ⟨a, b3, o3, c3, h1, h2, h3⟩ := HQF.out k hkn
      have h2r := hkp.sees h2 (fun h => HNB.out _ _ _ _ _ _ h2 h)
      obtain ⟨l, hl⟩ : ∃ l, l = L.getD k [] := ⟨_, rfl⟩
      obtain ⟨c0, c1', c2, c3'⟩ := hFr.cells4 HFL.out hkn h1
      rw [← hl] at c0 c1' c2 c3' h2r
      have hlm : l ∈ L := by rw [hl]; exact getD_memL hkn
      have hgv := HGV.out l hlm
      have hln := (HIS.out l hlm).len
      have HTS := Lib.hid (show L.take (k + 1) = L.take k ++ [l] by rw [hl]; exact take_snoc hkn)
      obtain ⟨ks, hks, hks1, hks2⟩ := dirN_lt (max (befL (lvR x (fsI n x) base) base (hd0 l)) (lvl x (fsI n x) base (hd0 l)))
      obtain ⟨ke, hke, hke1, hke2⟩ := dirN_lt (max (eosL (lvR x (fsI n x) base) (fun i => cls (tI x (fsI n x) base i)) base n (lst0 l)) (lvl x (fsI n x) base (hd0 l)))
      change _ = some (Value.int .u64 (dirN (max (befL (lvR x (fsI n x) base) base (hd0 l)) (lvl x (fsI n x) base (hd0 l))))) at c2
      change _ = some (Value.int .u64 (dirN (max (eosL (lvR x (fsI n x) base) (fun i => cls (tI x (fsI n x) base i)) base n (lst0 l)) (lvl x (fsI n x) base (hd0 l))))) at c3'
      rw [hks2] at c2
      rw [hke2] at c3'
      obtain ⟨lv0, hlv0⟩ : ∃ lv0, lv0 = lvl x (fsI n x) base (hd0 l) := ⟨_, rfl⟩
      rw [← hlv0] at c1' hgv
      have HGG := Lib.hid (show gI x base n l = [.int .i64 lv0, .int .i64 ks, .int .i64 ke] by
        unfold gI soV eoV
        rw [hks1, hke1, hlv0])
      obtain ⟨hlv1, hlv2⟩ := hgv
      obtain ⟨len, hlen⟩ : ∃ len, len = l.length := ⟨_, rfl⟩
      rw [← hlen] at c0 h2r hln
      have HLE := Lib.hid hlen
      have HSO := Lib.hid hks
      have HEO := Lib.hid hke
      obtain ⟨so, hso⟩ : ∃ so : Int, so = cls (ks : Int) := ⟨_, rfl⟩
      obtain ⟨eo, heo⟩ : ∃ eo : Int, eo = cls (ke : Int) := ⟨_, rfl⟩
      rw [← hso] at c2
      rw [← heo] at c3'
      have HSO2 := Lib.hid hso
      have HEO2 := Lib.hid heo
      have hQ' := hQ
      obtain ⟨G, hG, hQG⟩ := hQ'
      have hlt : (L.take k).length = k := by rw [List.length_take]; omega
      rw [hlt] at hG
      obtain ⟨ao5, c5, rfl⟩ := hG.len
      have hwr := hkp.size
      have hobl := fun q hq => (hG.ge q hq).2
      have HOB := Lib.hid hob
      have HTL := Lib.hid hlt
      have HOBL := Lib.hid hobl
      have HHQ := Lib.hid hQG
      have HHG := Lib.hid hG
      clear hl hlm hks1 hks2 hke1 hke2 hlv0 hlen hso heo hks hke h1 h2 h3 hQ hQG hG hob hobl hlt hFr
      go_upto_region 5 with fail
      obtain ⟨S0, hS0⟩ : ∃ S0, S0 = wr.heap.size := ⟨_, rfl⟩
      have hsa : wr.Since wr.heap.size (wr.alloc (.cells #[.slice a len c3, .int .i8 lv0, .int .u64 so, .int .u64 eo] 69)) := (World.Since.refl _ _).alloc (Nat.le_refl _) _
      have hrow : (wr.alloc (.cells #[.slice a len c3, .int .i8 lv0, .int .u64 so, .int .u64 eo] 69)).rowIs S0 69 4 (fun i => (#[Value.slice a len c3, .int .i8 lv0, .int .u64 so, .int .u64 eo][i]?).getD undef) := by
        rw [hS0]
        exact World.rowIs_alloc wr _ _ _ (fun i hi => by rw [Array.getElem?_eq_getElem hi]; rfl)
      have hkpa := hkp.call hsa
      have h2a := h2r.since hsa
      have hza : (wr.alloc (.cells #[.slice a len c3, .int .i8 lv0, .int .u64 so, .int .u64 eo] 69)).heap.size = S0 + 1 := by rw [World.size_alloc, hS0]
      rw [← hS0]
      generalize wr.alloc (.cells #[.slice a len c3, .int .i8 lv0, .int .u64 so, .int .u64 eo] 69) = wa at hsa hrow hkpa h2a hza ⊢
      have e0 : wa.cell? ⟨S0, 0, none⟩ = some (.slice a len c3) := hrow.cell (by omega)
      have e1 : wa.cell? ⟨S0, 1, none⟩ = some (.int .i8 lv0) := hrow.cell (by omega)
      have e2 : wa.cell? ⟨S0, 2, none⟩ = some (.int .u64 so) := hrow.cell (by omega)
      have e3 : wa.cell? ⟨S0, 3, none⟩ = some (.int .u64 eo) := hrow.cell (by omega)
      have HZA := Lib.hid hza
      have HS0 := Lib.hid hS0
      have hta := ht2.kp hkpa (show ¬ 0 = w.heap.size from fun e => HTN.out e)
      clear hza hS0 c0 c1' c2 c3' h2r hkp hrow
      have HQ4 := Lib.hid (show ∀ w4, wa.Since wa.heap.size w4 → w4.cell? ⟨S0, 0, none⟩ = some (.slice a len c3) ∧ w4.cell? ⟨S0, 1, none⟩ = some (.int .i8 lv0) ∧ w4.cell? ⟨S0, 2, none⟩ = some (.int .u64 so) ∧ w4.cell? ⟨S0, 3, none⟩ = some (.int .u64 eo) from fun w4 s =>
        ⟨(s.cell (World.block_lt_of_cell? _ _ e0)).trans e0, (s.cell (World.block_lt_of_cell? _ _ e1)).trans e1, (s.cell (World.block_lt_of_cell? _ _ e2)).trans e2, (s.cell (World.block_lt_of_cell? _ _ e3)).trans e3⟩)
      have HQ6 := Lib.hid (show ∀ (w4 : World) (X : Obj) (w6 : World), wa.Since wa.heap.size w4 → (w4.alloc X).grownBy w6 (Value.slice ao5 k c5).ownBlock → w6.cell? ⟨S0, 0, none⟩ = some (.slice a len c3) ∧ w6.cell? ⟨S0, 1, none⟩ = some (.int .i8 lv0) ∧ w6.cell? ⟨S0, 2, none⟩ = some (.int .u64 so) ∧ w6.cell? ⟨S0, 3, none⟩ = some (.int .u64 eo) from fun w4 X w6 s hg => by
        have hq := HQ4.out _ (s.alloc s.size X)
        have key : ∀ i v, (w4.alloc X).cell? ⟨S0, i, none⟩ = some v → w6.cell? ⟨S0, i, none⟩ = some v := fun i v hc => by
          rw [← hc]
          exact World.cell?_of_block (hg.block S0 (World.block_lt_of_cell? _ _ hc) (fun e => by
            have h1 := HOBL.out S0 e.symm
            have h2 := HS0.out
            omega))
        exact ⟨key _ _ hq.1, key _ _ hq.2.1, key _ _ hq.2.2.1, key _ _ hq.2.2.2⟩)
      have hl64 : len ≤ 4294967296 := by omega
      have hwl : IntKind.i64.wrap lv0 = lv0 := by
        obtain ⟨v, rfl⟩ := Int.eq_ofNat_of_zero_le hlv1
        exact wrap_nat (by omega)
      have hk64 : k ≤ 4294967296 := by omega
      have h2d : Sees wa.drew a b3 o3 len c3 (fun i => .int .i64 ((l.getD i 0 : Nat) : Int)) := h2a
      have hAE := Lib.hid (show ∀ w4, wa.Since wa.heap.size w4 → Tab w4 from fun w4 s => hta.since s)
      have HGA := Lib.hid (show ∀ w4, wa.Since wa.heap.size w4 → Gw w4 w.heap.size 41 4 (.slice ao5 k c5) k G from fun w4 s => (HHG.out.since hsa).since s)
      have hwz4 : w.heap.size ≤ wa.heap.size := by
        have h1 := hsa.size
        omega
      go_region_held3 (fun wx => wx.cell? ⟨S0, 0, none⟩ = some (.slice a len c3) ∧ wx.cell? ⟨S0, 1, none⟩ = some (.int .i8 lv0) ∧ wx.cell? ⟨S0, 2, none⟩ = some (.int .u64 so) ∧ wx.cell? ⟨S0, 3, none⟩ = some (.int .u64 eo)) (first | exact ⟨e0, e1, e2, e3⟩ | exact HQ4.out _ hs4a | exact HQ4.out _ (hs4a.alloc hs4a.size _) | exact hk6w)
        (first
          | (go_at_call 37; refine (copyOf_gr wa.drew hl64 h2d).mono ?_; rintro e w4 ⟨a4, c4, rfl, hg4, hs4⟩; have hs4a := since_of_drew hs4)
          | (go_at_call_has 42 (Value.int .u64 so); rw [HSO2.out]; refine (numberOf_any ks HSO.out w4 (hAE.out _ hs4a)).mono ?_; rintro e w5 ⟨rfl, rfl⟩)
          | (go_at_call_has 42 (Value.int .u64 eo); rw [HEO2.out]; refine (numberOf_any ke HEO.out w4 (hAE.out _ hs4a)).mono ?_; rintro e w5 ⟨rfl, rfl⟩)
          | (refine step_pushW w4 rfl _ _ 37 rfl w.heap.size 41 (.agg #[.slice none 0 0, .int .i64 0, .int .i64 0, .int .i64 0]) 4 48 Tryd.underlyingIS Tryd.infoIS rfl (by omega) (.slice ao5 k c5) k G [.slice a4 len c4, .int .i64 lv0, .int .i64 ks, .int .i64 ke] (by rfl) (HGA.out _ hs4a) (by rfl) rfl (fun u hu => by simp at hu; rcases hu with rfl | rfl | rfl | rfl <;> rfl) hk64 (by omega) (Nat.le_trans hwz4 hs4a.size) ?_; intro v' w6 hg6 hgr6 hat6; have hk6w := HQ6.out _ _ _ hs4a hgr6))
      obtain ⟨b4, hb4, hg4s⟩ := hg4.see
      have hb4' : wa.heap.size ≤ b4 := hb4
      have hQ6 := Q4.push ((HHQ.out.since hsa).since hs4a) (l := l) (a := a4) (b := b4) (o := 0) (c := c4) (by rw [← HLE.out]; exact hg4s) (fun q hq _ => by
        have h1 := HOBL.out q hq
        have h2 := hsa.size
        omega) (by rw [HTL.out, HGG.out, ← HLE.out]; exact hg6) hgr6 hat6
      rw [← HTS.out] at hQ6
      have hkp6 : Kp (fun q => q = w.heap.size) w2 w6 := ((hkpa.call hs4a).alloc _).grown hgr6 (fun q hq => HOB.out q hq)
      have hob6 : ∀ q, v'.ownBlock = some q → q = w.heap.size ∨ w2.heap.size ≤ q := fun q hq => by
        rcases hat6 with e | e
        · exact HOB.out q (by rw [← e]; exact hq)
        · rw [e] at hq
          simp only [Option.some.injEq] at hq
          have h1 := hs4a.size
          have h2 := hsa.size
          right; omega
      clear hg6 hgr6 hat6 hk6w hwl hs4a hs4 hg4 hg4s hkpa h2a h2d e0 e1 e2 e3 hta hsa
      go_wp2_with fail
      go_roundg (L.length - (k + 1))
      case rel => exact ⟨k + 1, by omega, rfl, by go_num, hQ6, hob6, hkp6⟩
      case measure => omega
    · obtain rfl : k = L.length := by omega
      rw [List.take_length] at hQ
      go_wp2_with fail
      go_ret
      exact ⟨_, rfl, by rw [← HL.out]; exact hQ, since_kp hs02 hkp hs02.size (fun q hq => by omega)⟩

end Go.Proofs.YtjelgbfgciaapaaDoor
