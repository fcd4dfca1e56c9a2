/- bidi.typeForLevel, (*paragraph).isolatingRunSequence (X10: sos, eos). -/
import Derived.Test.YtkocpijloiamcaaDoorGA
import Derived.Test.YtkocpijloiamcaaDoorGC
import Derived.Test.YtkocpijloiamcaaDoorDmi
import Derived.Deep.CutBlock
import Derived.Lib.MinMax
import Derived.Deep.LoopGhost
import Derived.Deep.DeepCutAuto
import Derived.Deep.QuietTactic
import Derived.BigQuiet
namespace Go.Proofs.YtkocpijloiamcaaDoor
open Go.RowKit
set_option linter.unusedVariables false

/-- A paragraph behind X1 to X8, as it is read. -/
structure PR (w : World) (p n : Nat) (x : Nat → Int) (base : Int) (b0 c0 T capT R N6 N7 : Nat) (ct cl en be : Nat → Int) : Prop where
  k0 : w.cell? ⟨p, 0, none⟩ = some (.slice (some ⟨b0, 0, none⟩) n c0)
  k3 : w.cell? ⟨p, 3, none⟩ = some (.int .i8 base)
  k4 : w.cell? ⟨p, 4, none⟩ = some (.slice (some ⟨T, 0, none⟩) n capT)
  k5 : w.cell? ⟨p, 5, none⟩ = some (.slice (some ⟨R, 0, none⟩) n n)
  k6 : w.cell? ⟨p, 6, none⟩ = some (.slice (some ⟨N6, 0, none⟩) n n)
  k7 : w.cell? ⟨p, 7, none⟩ = some (.slice (some ⟨N7, 0, none⟩) n n)
  init : ∀ i, i < n → w.cell? ⟨b0, i, none⟩ = some (.int .u64 (cls (x i)))
  types : ∀ i, i < n → w.cell? ⟨T, i, none⟩ = some (.int .u64 (ct i))
  levels : ∀ i, i < n → w.cell? ⟨R, i, none⟩ = some (.int .i8 (cl i))
  ends : ∀ i, i < n → w.cell? ⟨N6, i, none⟩ = some (.int .i64 (en i))
  begins : ∀ i, i < n → w.cell? ⟨N7, i, none⟩ = some (.int .i64 (be i))
  initS : Sees w (some ⟨b0, 0, none⟩) b0 0 n c0 (fun i => .int .u64 (cls (x i)))
  levS : w.rowIs R 62 n (fun i => .int .i8 (cl i))

theorem PR.since {w w' : World} {p n : Nat} {x : Nat → Int} {base : Int} {b0 c0 T capT R N6 N7 : Nat} {ct cl en be : Nat → Int} (h : PR w p n x base b0 c0 T capT R N6 N7 ct cl en be) (s : w.Since w.heap.size w') : PR w' p n x base b0 c0 T capT R N6 N7 ct cl en be := by
  have key : ∀ a v, w.cell? a = some v → w'.cell? a = some v := fun a v ha => by rw [s.cell (World.block_lt_of_cell? _ _ ha)]; exact ha
  exact ⟨key _ _ h.k0, key _ _ h.k3, key _ _ h.k4, key _ _ h.k5, key _ _ h.k6, key _ _ h.k7, fun i hi => key _ _ (h.init i hi), fun i hi => key _ _ (h.types i hi), fun i hi => key _ _ (h.levels i hi), fun i hi => key _ _ (h.ends i hi), fun i hi => key _ _ (h.begins i hi), h.initS.since s, h.levS.of_block (s.block _ h.levS.lt)⟩

theorem and_one_i8' : ∀ k : Fin 128, bits BinOp.and IntKind.i8 ((k : Nat) : Int) 1 = (((k : Nat) % 2 : Nat) : Int) := by decide

/-- The direction of a level. -/
def dirN (l : Int) : Int := l % 2

theorem tfl_any {l : Int} (w : World) (h0 : 0 ≤ l) (h1 : l ≤ 125) : Calls Tryd.prog 85 #[.int .i8 l] w fun e w' => e = .returned (.int .u64 (dirN l)) ∧ w = w' := by
  obtain ⟨v, rfl⟩ := Int.eq_ofNat_of_zero_le h0
  have hand := and_one_i8' ⟨v, by omega⟩
  simp only at hand
  have HD := Lib.hid (show dirN (v : Int) = ((v % 2 : Nat) : Int) by unfold dirN; omega)
  by_cases hev : v % 2 = 0
  · rw [hev] at hand HD
    go_enter Tryd.func85, Tryd.ntmps85
    go_wp2_with fail
    go_ret
    exact ⟨by rw [HD.out]; rfl, rfl⟩
  · rw [show v % 2 = 1 by omega] at hand HD
    go_enter Tryd.func85, Tryd.ntmps85
    go_wp2_with fail
    go_ret
    exact ⟨by rw [HD.out]; rfl, rfl⟩

/-- The level of the next one from a place on that is not removed. -/
def aftL (lv : Nat → Int) (base : Int) : Nat → Nat → Int
  | 0, _ => base
  | f + 1, k => if lv k = -1 then aftL lv base f (k + 1) else lv k
/-- The level of the last one ahead of a place. -/
def befL (lv : Nat → Int) (base : Int) (k : Nat) : Int := if lastL lv k = -1 then base else lastL lv k

def hd0 (l : List Nat) : Nat := l.getD 0 0
def lst0 (l : List Nat) : Nat := l.getD (l.length - 1) 0

/-- A new isolating run sequence. -/
structure SqRow (w : World) (p S q : Nat) (a : Option Addr) (len c : Nat) (l : List Nat) (ct : Nat → Int) (lv sos eos : Int) : Prop where
  row : w.rowIs S 109 7 (sf (.pointer (some ⟨p, 0, none⟩)) (.slice a len c) (.slice (some ⟨q, 0, none⟩) len len) (.slice none 0 0) (.int .i8 lv) (.int .u64 sos) (.int .u64 eos))
  types : w.rowIs q 67 len (fun i => .int .u64 (ct (l.getD i 0)))
  ne : q < S

theorem SqRow.since {w w' : World} {p S q : Nat} {a : Option Addr} {len c : Nat} {l : List Nat} {ct : Nat → Int} {lv sos eos : Int} (h : SqRow w p S q a len c l ct lv sos eos) (s : w.Since w.heap.size w') : SqRow w' p S q a len c l ct lv sos eos :=
  ⟨h.row.of_block (s.block _ h.row.lt), h.types.of_block (s.block _ h.types.lt), h.ne⟩

/-- The end of a sequence: the paragraph's level behind an initiator. -/
def eosL (lv : Nat → Int) (ct : Nat → Int) (base : Int) (n i : Nat) : Int := if memB [21, 22, 23] (ct i) = true then base else aftL lv base (n - (i + 1)) (i + 1)

set_option maxHeartbeats 8000000 in
set_option maxRecDepth 100000 in
theorem irs_any {p n : Nat} {x : Nat → Int} {base : Int} {b0 c0 T capT R N6 N7 : Nat} {ct cl en be lv : Nat → Int} {a : Option Addr} {b o c : Nat} {l : List Nat} (w : World) (hn : n ≤ 8589934592) (hP : PR w p n x base b0 c0 T capT R N6 N7 ct cl en be)
    (hl : Sees w a b o l.length c (cellsOf l)) (h0 : 0 < l.length) (hll : l.length ≤ n) (hlt : ∀ i, i ∈ l → i < n) (hok : ∀ i, i < n → clsOk (x i)) (hb : 0 ≤ base ∧ base ≤ 1)
    (hlv : ∀ i, i < n → lv i = if remN (x i) = true then -1 else cl i) (hrg : ∀ i, i < n → remN (x i) = false → 0 ≤ cl i ∧ cl i ≤ 125) (hr0 : remN (x (hd0 l)) = false) :
    Calls Tryd.prog 77 #[.pointer (some ⟨p, 0, none⟩), .slice a l.length c] w fun e w' => ∃ S q, e = .returned (.pointer (some ⟨S, 0, none⟩)) ∧ w.heap.size ≤ q ∧
      SqRow w' p S q a l.length c l ct (cl (hd0 l)) (dirN (max (befL lv base (hd0 l)) (cl (hd0 l)))) (dirN (max (eosL lv ct base n (lst0 l)) (cl (hd0 l)))) ∧ w.Since w.heap.size w' := by
  have HLT := Lib.hid hlt
  have HOK := Lib.hid hok
  have HLV := Lib.hid hlv
  have HRG := Lib.hid hrg
  have HR0 := Lib.hid hr0
  obtain ⟨hb0, hb1⟩ := hb
  obtain ⟨rfl, hc0⟩ := hl.get h0
  have hgetD : ∀ i, i < l.length → l.getD i 0 ∈ l := fun i hi => by
    rw [List.getD_eq_getElem?_getD, List.getElem?_eq_getElem hi]; exact List.getElem_mem hi
  have HGD := Lib.hid hgetD
  have hhn : hd0 l < n := hlt _ (hgetD 0 h0)
  have hsn : lst0 l < n := hlt _ (hgetD _ (by omega))
  have hcl := (hl.get (show l.length - 1 < l.length by omega)).2
  rw [show cellsOf l 0 = .int .i64 ((hd0 l : Nat) : Int) from rfl, Nat.add_zero] at hc0
  rw [show cellsOf l (l.length - 1) = .int .i64 ((lst0 l : Nat) : Int) from rfl] at hcl
  obtain ⟨h, hh⟩ : ∃ h, h = hd0 l := ⟨_, rfl⟩
  obtain ⟨s, hs⟩ : ∃ s, s = lst0 l := ⟨_, rfl⟩
  rw [← hh] at hc0 hhn HR0
  rw [← hs] at hcl hsn
  rw [← hh, ← hs]
  have HH := Lib.hid hh
  have HS := Lib.hid hs
  have HBE := Lib.hid (show befL lv base h = if lastL lv h = -1 then base else lastL lv h from rfl)
  have HEO := Lib.hid (show eosL lv ct base n s = if memB [21, 22, 23] (ct s) = true then base else aftL lv base (n - (s + 1)) (s + 1) from rfl)
  obtain ⟨bev, hbev⟩ : ∃ bev, bev = befL lv base h := ⟨_, rfl⟩
  obtain ⟨eov, heov⟩ : ∃ eov, eov = eosL lv ct base n s := ⟨_, rfl⟩
  have hbr : 0 ≤ bev ∧ bev ≤ 125 := by
    rw [hbev]
    unfold befL
    split
    · omega
    · next e =>
      have : ∀ k, k ≤ n → lastL lv k = -1 ∨ (0 ≤ lastL lv k ∧ lastL lv k ≤ 125) := by
        intro k
        induction k with
        | zero => intro _; exact .inl rfl
        | succ k ih =>
          intro hk
          show (if lv k = -1 then lastL lv k else lv k) = -1 ∨ _
          by_cases e : lv k = -1
          · have e2 : lastL lv (k + 1) = lastL lv k := (rs_rem e).2
            rw [e2, if_pos e]; exact ih (by omega)
          · have e2 : lastL lv (k + 1) = lv k := lastL_of e
            rw [e2, if_neg e]
            right
            have hk2 := hlv k (by omega)
            by_cases hr : remN (x k) = true
            · rw [if_pos hr] at hk2; exact absurd hk2 e
            · rw [if_neg hr] at hk2
              rw [hk2]; exact hrg k (by omega) (by simpa using hr)
      rcases this h (by omega) with h1 | h1
      · exact absurd h1 e
      · exact h1
  have her : 0 ≤ eov ∧ eov ≤ 125 := by
    rw [heov]
    unfold eosL
    split
    · omega
    · have : ∀ f k, k + f ≤ n → 0 ≤ aftL lv base f k ∧ aftL lv base f k ≤ 125 := by
        intro f
        induction f with
        | zero => intro k _; unfold aftL; omega
        | succ f ih =>
          intro k hk
          unfold aftL
          by_cases e : lv k = -1
          · rw [if_pos e]; exact ih (k + 1) (by omega)
          · rw [if_neg e]
            have hk2 := hlv k (by omega)
            by_cases hr : remN (x k) = true
            · rw [if_pos hr] at hk2; exact absurd hk2 e
            · rw [if_neg hr] at hk2
              rw [hk2]; exact hrg k (by omega) (by simpa using hr)
      exact this _ _ (by omega)
  rw [← hbev] at HBE
  rw [← heov] at HEO
  rw [← hbev, ← heov]
  have hcr := hrg h hhn HR0.out
  clear hbev heov hgetD hlt hok hlv hrg hr0 hh hs
  have hmk := run_make_row' (P := Tryd.prog) 43 67 (.int .u64 0) 8 Tryd.underlying43 Tryd.infoClass rfl .i64 .i64 l.length (by omega) (by omega)
  go_enter Tryd.func77, Tryd.ntmps77
  go_wp2_with fail
  clear hmk
  go_loopg [7, 8, 21] l.length (fun g _ _ i wr => ∃ k : Nat, k ≤ l.length ∧ g = l.length - k ∧ i = .int .i64 k ∧ wr.rowIs w.heap.size 67 l.length (fun j => .int .u64 (if j < k then ct (l.getD j 0) else 0)) ∧ w.Since w.heap.size wr)
  case atStart => exact ⟨0, by omega, rfl, rfl, (World.rowIs_made w _ l.length 67).congr (fun j _ => by simp), (World.Since.refl _ _).alloc (Nat.le_refl _) _⟩
  case round =>
    obtain ⟨k, hk, rfl, rfl, hr, hsi⟩ := hrel
    by_cases hkn : k < l.length
    · have hkz : (k : Int) < (l.length : Int) := by omega
      have hPr := hP.since hsi
      have hck := ((hl.since hsi).get hkn).2
      rw [show cellsOf l k = .int .i64 ((l.getD k 0 : Nat) : Int) from rfl] at hck
      have htn := HLT.out _ (HGD.out k hkn)
      have g1 := hr.cell hkn
      have g2 := hr.frozen k
      have R := (hr.set k (.int .u64 (ct (l.getD k 0)))).congr (g := fun j => .int .u64 (if j < k + 1 then ct (l.getD j 0) else 0)) (fun j _ => by
        by_cases e : j = k
        · subst e; rw [if_pos rfl, if_pos (by omega)]
        · rw [if_neg e]
          by_cases h : j < k
          · rw [if_pos h, if_pos (by omega)]
          · rw [if_neg h, if_neg (by omega)])
      have S := hsi.setCell (a := ⟨w.heap.size, k, none⟩) (Nat.le_refl _) (.int .u64 (ct (l.getD k 0)))
      obtain ⟨y, hy⟩ : ∃ y, y = l.getD k 0 := ⟨_, rfl⟩
      rw [← hy] at hck htn R S
      have hty := hPr.types y htn
      have hk4 := hPr.k4
      have hyz : (y : Int) < (n : Int) := by omega
      clear hy hr hsi hPr
      go_wp2_with fail
      go_roundg (l.length - (k + 1))
      case rel => exact ⟨k + 1, by omega, rfl, by go_num, R, S⟩
      case measure => omega
    · obtain rfl : k = l.length := by omega
      obtain ⟨w2, rfl⟩ : ∃ w2, w2 = wr := ⟨_, rfl⟩
      have hP2 := hP.since hsi
      have hd0' : w2.cell? ⟨b, o, none⟩ = some (.int .i64 (h : Int)) := by rw [hsi.cell (World.block_lt_of_cell? _ _ hc0)]; exact hc0
      have hdl' : w2.cell? ⟨b, o + (l.length - 1), none⟩ = some (.int .i64 (s : Int)) := by rw [hsi.cell (World.block_lt_of_cell? _ _ hcl)]; exact hcl
      have hty := hr.congr (g := fun i => .int .u64 (ct (l.getD i 0))) (fun i hi => by rw [if_pos hi])
      have htl := hty.cell (show l.length - 1 < l.length by omega)
      have HCS : Hid (ct (l.getD (l.length - 1) 0) = ct s) := Lib.hid (by rw [HS.out]; rfl)
      have hqlt := hty.lt
      rw [HCS.out] at htl
      clear hP hc0 hcl hr
      obtain ⟨len, hlen⟩ : ∃ len, len = l.length := ⟨_, rfl⟩
      rw [← hlen] at h0 hll hdl' hty htl ⊢
      have HLEN := Lib.hid hlen
      obtain ⟨q, hq⟩ : ∃ q, q = w.heap.size := ⟨_, rfl⟩
      rw [← hq] at hty htl hqlt ⊢
      have HQ := Lib.hid hq
      have hhz : (0 : Int) ≤ (h : Int) := by omega
      have h0z : (0 : Int) < (len : Int) := by omega
      have h1z : (1 : Int) ≤ (len : Int) := by omega
      have hhnz : (h : Int) < (n : Int) := by omega
      have hkz2 : ¬ (len : Int) < (len : Int) := by omega
      clear hlen hq hkn hk
      go_upto_block 2 with fail
      go_cut [9] (fun v wx => ∃ q : Nat, v = .int .i64 ((q : Int) - 1) ∧ q ≤ h ∧ Hid (lastL lv q = lastL lv h ∧ (0 < q → lv (q - 1) ≠ -1)) ∧ wx = w2)
      case first =>
        as_aux_lemma =>
          go_wp2_with fail
          go_loopg [9] h (fun g v wx => ∃ q : Nat, q ≤ h ∧ q = g ∧ v = .int .i64 ((q : Int) - 1) ∧ Hid (lastL lv q = lastL lv h) ∧ w2 = wx)
          case atStart => exact ⟨h, Nat.le_refl _, rfl, rfl, rfl, rfl⟩
          case round =>
            obtain ⟨q', hq1, rfl, rfl, HL, rfl⟩ := hrel
            by_cases hq0 : q' = 0
            · subst hq0
              go_wp2_with fail
              go_meet
              exact ⟨0, rfl, by omega, ⟨HL.out, fun h => absurd h (Nat.lt_irrefl _)⟩, rfl⟩
            · obtain ⟨r, rfl⟩ : ∃ r, q' = r + 1 := ⟨q' - 1, by omega⟩
              have hrn : r < n := by omega
              have hci := hP2.init r hrn
              have hk0 := hP2.k0
              have hrz : (0 : Int) ≤ (r : Int) := by omega
              have hrz2 : (r : Int) < (n : Int) := by omega
              have hrc := remC_cls (HOK.out r hrn)
              have hlvr := HLV.out r hrn
              obtain ⟨d, hd⟩ : ∃ d, d = cls (x r) := ⟨_, rfl⟩
              rw [← hd] at hci hrc
              clear hd hq0
              cases hrm : remN (x r) with
              | true =>
                have HRM := Lib.hid (hrc.trans hrm)
                have HLR : Hid (lastL lv (r + 1) = lastL lv r) := Lib.hid (rs_rem (by rw [hlvr, if_pos hrm])).2
                clear hrm hrc hlvr
                go_wp2_with fail
                refine (isRemovedC_any _ _).mono ?_
                rintro e w3 ⟨rfl, rfl⟩
                rw [HRM.out]
                go_wp2_with fail
                go_roundg r
                case rel => exact ⟨r, by omega, rfl, by go_num, HLR.out.symm.trans HL.out, rfl⟩
                case measure => omega
              | false =>
                have HRM := Lib.hid (hrc.trans hrm)
                have HNR : Hid (lv r ≠ -1) := Lib.hid (by
                  rw [hlvr, if_neg (by rw [hrm]; decide)]
                  have := (HRG.out r hrn hrm).1
                  omega)
                clear hrm hrc hlvr
                go_wp2_with fail
                refine (isRemovedC_any _ _).mono ?_
                rintro e w3 ⟨rfl, rfl⟩
                rw [HRM.out]
                go_wp2_with fail
                go_meet
                exact ⟨r + 1, by go_num, by omega, ⟨HL.out, fun _ => HNR.out⟩, rfl⟩
      obtain ⟨q', rfl, hq1, HL, rfl⟩ := hcut
      obtain ⟨w2, rfl⟩ : ∃ w2, w2 = wc := ⟨_, rfl⟩
      have hk3 := hP2.k3
      obtain ⟨pc, hpc⟩ : ∃ pc : Int, pc = (q' : Int) - 1 := ⟨_, rfl⟩
      rw [← hpc]
      have HPC := Lib.hid hpc
      clear hpc
      go_upto_if 60 with fail
      go_cut [10] (fun v wx => v = .int .i8 bev ∧ wx = w2)
      case first =>
        as_aux_lemma =>
          by_cases hq0 : q' = 0
          · have HV := Lib.hid (show bev = base by
              rw [HBE.out, if_pos]
              rw [← HL.out.1, hq0]; rfl)
            have hpc : pc = -1 := by rw [HPC.out, hq0]; rfl
            subst hq0 hpc
            go_wp2_with fail
            go_meet
            exact ⟨by rw [HV.out], rfl⟩
          · obtain ⟨r, rfl⟩ : ∃ r, q' = r + 1 := ⟨q' - 1, by omega⟩
            have hrn : r < n := by omega
            have hnr := HL.out.2 (by omega)
            rw [Nat.add_sub_cancel] at hnr
            have HV := Lib.hid (show bev = cl r by
              rw [HBE.out, ← HL.out.1, lastL_of hnr, if_neg hnr, HLV.out r hrn]
              by_cases e : remN (x r) = true
              · have := HLV.out r hrn
                rw [if_pos e] at this; exact absurd this hnr
              · rw [if_neg e])
            have hcr2 := hP2.levels r hrn
            rw [← HV.out] at hcr2
            have hk5 := hP2.k5
            have hrz : (0 : Int) ≤ (r : Int) := by omega
            have hrz2 : (r : Int) < (n : Int) := by omega
            have hpc : pc = (r : Int) := by rw [HPC.out]; omega
            subst hpc
            clear hnr hq0
            go_wp2_with fail
            go_meet
            exact ⟨rfl, rfl⟩
      obtain ⟨rfl, rfl⟩ := hcut
      obtain ⟨w2, rfl⟩ : ∃ w2, w2 = wc := ⟨_, rfl⟩
      go_upto_region 16 with fail
      go_cut [75] (fun v wx => v = .bool (memB [21, 22, 23] (ct s)) ∧ w2.Since w2.heap.size wx)
      case first =>
        as_aux_lemma =>
          go_wp2_with fail
          refine (in_any [21, 22, 23] _ _ (by decide) (heap_alloc_new w2 _)).mono ?_
          rintro e w3 ⟨rfl, rfl⟩
          go_wp2_with fail
          go_meet
          exact ⟨rfl, (World.Since.refl _ _).alloc (Nat.le_refl _) _⟩
      obtain ⟨rfl, hsi3⟩ := hcut
      obtain ⟨w3, rfl⟩ : ∃ w3, w3 = wc := ⟨_, rfl⟩
      have hP3 := hP2.since hsi3
      have hd0'' : w3.cell? ⟨b, o, none⟩ = some (.int .i64 (h : Int)) := by rw [hsi3.cell (World.block_lt_of_cell? _ _ hd0')]; exact hd0'
      have hdl'' : w3.cell? ⟨b, o + (len - 1), none⟩ = some (.int .i64 (s : Int)) := by rw [hsi3.cell (World.block_lt_of_cell? _ _ hdl')]; exact hdl'
      have hty3 := hty.of_block (hsi3.block _ hty.lt)
      have hsi03 := since2 hsi hsi3
      clear hP2 hd0' hdl' hty htl hsi hsi3 HL
      obtain ⟨mb, hmb⟩ : ∃ mb, mb = memB [21, 22, 23] (ct s) := ⟨_, rfl⟩
      rw [← hmb] at HEO ⊢
      clear hmb
      go_upto_if 75 with fail
      go_cut [11, 13] (fun v _ wx => v = .int .i8 eov ∧ wx = w3)
      case first =>
        as_aux_lemma =>
          cases hm : mb with
          | true =>
            have HV := Lib.hid (HEO.out.trans (if_pos hm))
            subst hm
            have hk3 := hP3.k3
            go_wp2_with fail
            go_meet
            exact ⟨by rw [HV.out], rfl⟩
          | false =>
            have HV := Lib.hid (HEO.out.trans (if_neg (by rw [hm]; decide)))
            subst hm
            have hsz : (0 : Int) ≤ (s : Int) := by omega
            have hk0 := hP3.k0
            have hlenz : (len : Int) ≤ 8589934592 := by omega
            have hdx : w3.cell? ⟨b, o + ((len : Int) - 1).toNat, none⟩ = some (.int .i64 (s : Int)) := by
              rw [show ((len : Int) - 1).toNat = len - 1 by omega]; exact hdl''
            go_upto_block 4 with fail
            go_cut [13] (fun v wx => ∃ q : Nat, v = .int .i64 (q : Int) ∧ q ≤ n ∧ Hid (aftL lv base (n - (s + 1)) (s + 1) = aftL lv base (n - q) q ∧ (q < n → lv q ≠ -1)) ∧ wx = w3)
            case first =>
              go_wp2_with fail
              go_loopg [13] (n - (s + 1)) (fun g v wx => ∃ q : Nat, q ≤ n ∧ g = n - q ∧ v = .int .i64 (q : Int) ∧ Hid (aftL lv base (n - (s + 1)) (s + 1) = aftL lv base (n - q) q) ∧ w3 = wx)
              case atStart => exact ⟨s + 1, by omega, rfl, by go_num, rfl, rfl⟩
              case round =>
                obtain ⟨q', hq1, rfl, rfl, HL, rfl⟩ := hrel
                by_cases hqn : q' < n
                · have hqz : (q' : Int) < (n : Int) := by omega
                  have hqz2 : (0 : Int) ≤ (q' : Int) := by omega
                  have hci := hP3.init q' hqn
                  have hrc := remC_cls (HOK.out q' hqn)
                  have hlvr := HLV.out q' hqn
                  obtain ⟨d, hd⟩ : ∃ d, d = cls (x q') := ⟨_, rfl⟩
                  rw [← hd] at hci hrc
                  clear hd
                  cases hrm : remN (x q') with
                  | true =>
                    have HRM := Lib.hid (hrc.trans hrm)
                    have HLR : Hid (aftL lv base (n - q') q' = aftL lv base (n - (q' + 1)) (q' + 1)) := Lib.hid (by
                      rw [show n - q' = (n - (q' + 1)) + 1 by omega, aftL, if_pos (by rw [hlvr, if_pos hrm])])
                    clear hrm hrc hlvr
                    go_wp2_with fail
                    refine (len_any _ hk0).mono ?_
                    rintro e w4 ⟨rfl, rfl⟩
                    go_wp2_with fail
                    refine (isRemovedC_any _ _).mono ?_
                    rintro e w4 ⟨rfl, rfl⟩
                    rw [HRM.out]
                    go_wp2_with fail
                    go_roundg (n - (q' + 1))
                    case rel => exact ⟨q' + 1, by omega, rfl, by go_num, HL.out.trans HLR.out, rfl⟩
                    case measure => omega
                  | false =>
                    have HRM := Lib.hid (hrc.trans hrm)
                    have HNR : Hid (lv q' ≠ -1) := Lib.hid (by
                      rw [hlvr, if_neg (by rw [hrm]; decide)]
                      have := (HRG.out q' hqn hrm).1
                      omega)
                    clear hrm hrc hlvr
                    go_wp2_with fail
                    refine (len_any _ hk0).mono ?_
                    rintro e w4 ⟨rfl, rfl⟩
                    go_wp2_with fail
                    refine (isRemovedC_any _ _).mono ?_
                    rintro e w4 ⟨rfl, rfl⟩
                    rw [HRM.out]
                    go_wp2_with fail
                    go_meet
                    exact ⟨q', rfl, by omega, ⟨HL.out, fun _ => HNR.out⟩, rfl⟩
                · obtain rfl : q' = n := by omega
                  have hqz : ¬ (q' : Int) < (q' : Int) := by omega
                  go_wp2_with fail
                  refine (len_any _ hk0).mono ?_
                  rintro e w4 ⟨rfl, rfl⟩
                  go_wp2_with fail
                  go_meet
                  exact ⟨q', rfl, by omega, ⟨HL.out, fun h => absurd h (Nat.lt_irrefl _)⟩, rfl⟩
            obtain ⟨q', rfl, hq1, HL, rfl⟩ := hcut
            obtain ⟨w3, rfl⟩ : ∃ w3, w3 = wc := ⟨_, rfl⟩
            by_cases hqn : q' < n
            · have hqz : (q' : Int) < (n : Int) := by omega
              have hqz2 : (0 : Int) ≤ (q' : Int) := by omega
              have HV2 := Lib.hid (show eov = cl q' by
                rw [HV.out, HL.out.1, show n - q' = (n - (q' + 1)) + 1 by omega, aftL, if_neg (HL.out.2 hqn), HLV.out q' hqn]
                by_cases e : remN (x q') = true
                · have := HLV.out q' hqn
                  rw [if_pos e] at this; exact absurd this (HL.out.2 hqn)
                · rw [if_neg e])
              have hk3 := hP3.k3
              have hk5 := hP3.k5
              have hcr2 := hP3.levels q' hqn
              rw [← HV2.out] at hcr2
              go_wp2_with fail
              refine (len_any _ hk0).mono ?_
              rintro e w4 ⟨rfl, rfl⟩
              go_wp2_with fail
              go_meet
              exact ⟨rfl, rfl⟩
            · obtain rfl : q' = n := by omega
              have HV2 := Lib.hid (show eov = base by rw [HV.out, HL.out.1, Nat.sub_self]; rfl)
              have hqz : ¬ (q' : Int) < (q' : Int) := by omega
              have hk3 := hP3.k3
              go_wp2_with fail
              refine (len_any _ hk0).mono ?_
              rintro e w4 ⟨rfl, rfl⟩
              go_wp2_with fail
              go_meet
              exact ⟨by rw [HV2.out], rfl⟩
      obtain ⟨rfl, rfl⟩ := hcut
      obtain ⟨w3, rfl⟩ : ∃ w3, w3 = wc := ⟨_, rfl⟩
      have hk5 := hP3.k5
      have hch := hP3.levels h hhn
      go_upto_region 24 with fail
      go_quiet (fail)
      have hsi04 := since_drewN hsi03 nq
      have hty4 := hty3.of_block (w' := w3.drewN nq) rfl
      clear hP3 hd0'' hdl'' hty3 hsi03 hk5 hch
      generalize w3.drewN nq = w4 at hsi04 hty4 ⊢
      obtain ⟨lvh, hlvh⟩ : ∃ lvh, lvh = cl h := ⟨_, rfl⟩
      rw [← hlvh] at hcr ⊢
      have HLVH := Lib.hid hlvh
      clear hlvh
      have hm1 : 0 ≤ max bev lvh ∧ max bev lvh ≤ 125 := by omega
      have hm2 : 0 ≤ max eov lvh ∧ max eov lvh ≤ 125 := by omega
      have HM1 := Lib.hid hm1
      have HM2 := Lib.hid hm2
      clear hm1 hm2
      go_wp2_with fail
      refine (tfl_any _ HM1.out.1 HM1.out.2).mono ?_
      rintro e w5 ⟨rfl, rfl⟩
      go_wp2_with fail
      refine (tfl_any _ HM2.out.1 HM2.out.2).mono ?_
      rintro e w5 ⟨rfl, rfl⟩
      go_wp2_with fail
      go_ret
      have hz := hsi04.size
      have hle := HLEN.out
      subst hle
      have hlv2 := HLVH.out
      subst hlv2
      refine ⟨w4.heap.size, q, rfl, by have := HQ.out; omega, ⟨?_, hty4.alloc _, hty4.lt⟩, hsi04.alloc hsi04.size _⟩
      refine World.rowIs_alloc w4 #[_, _, _, _, _, _, _] _ _ (fun i hi => ?_)
      match i, hi with
      | 0, _ => rfl
      | 1, _ => rfl
      | 2, _ => rfl
      | 3, _ => rfl
      | 4, _ => rfl
      | 5, _ => rfl
      | 6, _ => rfl

end Go.Proofs.YtkocpijloiamcaaDoor
