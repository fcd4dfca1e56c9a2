/- (*paragraph).determineParagraphEmbeddingLevel, bidi.Embedding, impl.Embedding; spec.FirstStrong, spec.BaseLevel. -/
import Derived.Test.YtckffgcmeajbdaaDoorIsoImpl
import Derived.Test.YtckffgcmeajbdaaDoorIsoSpec
import Derived.Test.YtckffgcmeajbdaaDoorIso2
namespace Go.Proofs.YtckffgcmeajbdaaDoor
open Go.RowKit

theorem ret_int {k : IntKind} {a b : Int} (h : a = b) : Ending.returned (.int k a) = Ending.returned (.int k b) := by rw [h]

/-- Strong classes of a text of classes. -/
def sLC (c : Nat → Int) (i : Nat) : Bool := c i == 0
def sRC (c : Nat → Int) (i : Nat) : Bool := c i == 1 || c i == 13

theorem mem_LAR (c : Int) : memB [0, 13, 1] c = ((c == 0) || (c == 1 || c == 13)) := by
  unfold memB; simp only [List.contains_cons, List.contains_nil, Bool.or_false]
  cases (c == 0) <;> cases (c == 1) <;> cases (c == 13) <;> rfl
theorem mem_FLR (c : Int) : memB [23, 21, 22] c = memB [21, 22, 23] c := by
  unfold memB; simp only [List.contains_cons, List.contains_nil, Bool.or_false]
  cases (c == 21) <;> cases (c == 22) <;> cases (c == 23) <;> rfl

theorem jmp_gt {ini pdi : Nat → Bool} {n : Nat} (i : Nat) (hi : i < n) : i < jmp ini pdi n i := by
  unfold jmp
  split
  · have := mat_gt (ini := ini) (pdi := pdi) hi; omega
  · omega

/-- The level from a place on up to another one. -/
def fsC (c : Nat → Int) (n i z : Nat) : Int := fsr (sLC c) (sRC c) (jmp (iniC c) (pdiC c) n) 0 z (z - i) i

theorem fsC_end {c : Nat → Int} {n i z : Nat} (h : z ≤ i) : fsC c n i z = 0 := fsr_end h
theorem fsC_jmp {c : Nat → Int} {n i z : Nat} (h : i < z) (hn : z ≤ n) (h1 : sLC c i = false) (h2 : sRC c i = false) : fsC c n i z = fsC c n (jmp (iniC c) (pdiC c) n i) z := by
  unfold fsC
  rw [show z - i = (z - i - 1) + 1 by omega, fsr_next h h1 h2]
  have hg := jmp_gt (ini := iniC c) (pdi := pdiC c) i (show i < n by omega)
  -- fuel
  have key : ∀ f g i, z ≤ i + f → z ≤ i + g → fsr (sLC c) (sRC c) (jmp (iniC c) (pdiC c) n) 0 z f i = fsr (sLC c) (sRC c) (jmp (iniC c) (pdiC c) n) 0 z g i := by
    intro f
    induction f with
    | zero => intro g i h _; rw [fsr_end (f := g) (by omega)]; rfl
    | succ f ih =>
      intro g i h1 h2
      by_cases hi : z ≤ i
      · rw [fsr_end hi, fsr_end hi]
      · cases g with
        | zero => omega
        | succ g =>
          have := jmp_gt (ini := iniC c) (pdi := pdiC c) i (show i < n by omega)
          rw [fsr, fsr, ih g _ (by omega) (by omega)]
  exact key _ _ _ (by omega) (by omega)
theorem fsC_L {c : Nat → Int} {n i z : Nat} (h : i < z) (h1 : sLC c i = true) : fsC c n i z = 0 := by
  unfold fsC; rw [show z - i = (z - i - 1) + 1 by omega, fsr_L h h1]
theorem fsC_R {c : Nat → Int} {n i z : Nat} (h : i < z) (h1 : sLC c i = false) (h2 : sRC c i = true) : fsC c n i z = 1 := by
  unfold fsC; rw [show z - i = (z - i - 1) + 1 by omega, fsr_R h h1 h2]

set_option maxHeartbeats 2000000 in
/-- The level of the characters from a place on up to another one; the isolates that begin there end there. -/
theorem dpel_any {p n i0 z : Nat} {f0 f1 f2 f3 f5 f7 : Value} {ao : Option Addr} {b o cc N6 : Nat} {c : Nat → Int} (w : World) (hn : n ≤ 4294967296) (hto : z ≤ n) (hi0 : i0 ≤ n)
    (hp : w.rowIs p 51 8 (pf f0 f1 f2 f3 (.slice ao n cc) f5 (.slice (some ⟨N6, 0, none⟩) n n) f7)) (hx : Sees w ao b o n cc (fun i => .int .u64 (c i)))
    (he : w.rowIs N6 3 n (fun i => .int .i64 (mt (iniC c) (pdiC c) n i))) (hu : ∀ i, i < n → 0 ≤ c i ∧ c i ≤ 24) (hin : ∀ i, i0 ≤ i → i < z → iniC c i = true → mat (iniC c) (pdiC c) n i ≤ z) :
    Calls Tryd.prog 32 #[.pointer (some ⟨p, 0, none⟩), .int .i64 i0, .int .i64 z] w fun e w' => e = .returned (.int .i8 (fsC c n i0 z)) ∧ w.Since w.heap.size w' := by
  have HIN := Lib.hid hin
  have HU := Lib.hid hu
  clear hin hu
  go_enter Tryd.func32, Tryd.ntmps32
  go_wp2
  go_loopg [7, 8, 9] (n + 1 - i0) (fun g s i _ wr => ∃ q : Nat, i0 ≤ q ∧ q ≤ n + 1 ∧ g = n + 1 - q ∧ i = .int .i64 q ∧ s = .int .u64 18446744073709551615 ∧ Hid (fsC c n i0 z = fsC c n q z) ∧ w.Since w.heap.size wr)
  case atStart => exact ⟨i0, by omega, by omega, rfl, rfl, rfl, rfl, World.Since.refl _ _⟩
  case round =>
    obtain ⟨q, hq0, hq1, rfl, rfl, rfl, hfs, hs⟩ := hrel
    by_cases hq : q < z
    · have hqz : (q : Int) < (z : Int) := by omega
      have hqn : (q : Int) < (n : Int) := by omega
      have hqn' : q < n := by omega
      obtain ⟨rfl, hc0⟩ := hx.get hqn'
      have hc : wr.cell? ⟨b, o + q, none⟩ = some (.int .u64 (c q)) := by rw [hs.cell (World.block_lt_of_cell? _ _ hc0)]; exact hc0
      have k4 : wr.cell? ⟨p, 4, none⟩ = some (.slice (some ⟨b, o, none⟩) n cc) := by rw [hs.cell (a := ⟨p, 4, none⟩) hp.lt]; exact hp.cell (by omega)
      obtain ⟨u0, u1⟩ := HU.out q hqn'
      have hh := heap_alloc_new wr (.cells #[.int .u64 0, .int .u64 13, .int .u64 1] 53)
      have hs1 : w.Since w.heap.size (wr.alloc (.cells #[.int .u64 0, .int .u64 13, .int .u64 1] 53)) := hs.alloc hs.size _
      clear hc0
      go_wp2_with fail
      refine (in_any [0, 13, 1] (c q) _ (by decide) hh).mono ?_
      rintro e w2 ⟨rfl, rfl⟩
      clear hh hc k4
      by_cases hst : memB [0, 13, 1] (c q) = true
      · have hb1 : (c q == 18446744073709551615) = false := beq_eq_false_iff_ne.2 (by omega)
        by_cases hL : (c q == 0) = true
        · have hv : fsC c n i0 z = 0 := hfs.out.trans (fsC_L hq hL)
          have HV := Lib.hid hv
          clear hv
          go_wp2_with fail
          go_ret
          exact ⟨ret_int HV.out.symm, hs1⟩
        · have hL' : (c q == 0) = false := by simpa using hL
          have hR : sRC c q = true := by rw [mem_LAR, hL'] at hst; simpa [sRC] using hst
          have hv : fsC c n i0 z = 1 := hfs.out.trans (fsC_R hq hL' hR)
          have HV := Lib.hid hv
          clear hv hL
          go_wp2_with fail
          go_ret
          exact ⟨ret_int HV.out.symm, hs1⟩
      · have hst' : memB [0, 13, 1] (c q) = false := by simpa using hst
        have h1 : sLC c q = false := by rw [mem_LAR] at hst'; have := (Bool.or_eq_false_iff.1 hst').1; exact this
        have h2 : sRC c q = false := by rw [mem_LAR] at hst'; have := (Bool.or_eq_false_iff.1 hst').2; exact this
        have hfs2 := hfs.out.trans (fsC_jmp hq hto h1 h2)
        have hh2 := heap_alloc_new (wr.alloc (.cells #[.int .u64 0, .int .u64 13, .int .u64 1] 53)) (.cells #[.int .u64 23, .int .u64 21, .int .u64 22] 53)
        rw [World.size_alloc] at hh2
        have hs2 := hs1.alloc (by simp; have := hs.size; omega) (.cells #[.int .u64 23, .int .u64 21, .int .u64 22] 53)
        clear hst h1 h2 hfs hs
        go_wp2_with fail
        refine (in_any [23, 21, 22] (c q) _ (by decide) hh2).mono ?_
        rintro e w2 ⟨rfl, rfl⟩
        clear hh2
        by_cases hi : memB [23, 21, 22] (c q) = true
        · have hi2 : iniC c q = true := by rw [mem_FLR] at hi; exact hi
          have hmle := HIN.out q hq0 hq hi2
          have hmgt := mat_gt (ini := iniC c) (pdi := pdiC c) hqn'
          have hmtq : mt (iniC c) (pdiC c) n q = (mat (iniC c) (pdiC c) n q : Int) := mt_ini hi2
          have hj : jmp (iniC c) (pdiC c) n q = mat (iniC c) (pdiC c) n q + 1 := if_pos hi2
          rw [hj] at hfs2
          have k6 : ((wr.alloc (.cells #[.int .u64 0, .int .u64 13, .int .u64 1] 53)).alloc (.cells #[.int .u64 23, .int .u64 21, .int .u64 22] 53)).cell? ⟨p, 6, none⟩ = some (.slice (some ⟨N6, 0, none⟩) n n) := by rw [hs2.cell (a := ⟨p, 6, none⟩) hp.lt]; exact hp.cell (by omega)
          have k7 : ((wr.alloc (.cells #[.int .u64 0, .int .u64 13, .int .u64 1] 53)).alloc (.cells #[.int .u64 23, .int .u64 21, .int .u64 22] 53)).cell? ⟨N6, q, none⟩ = some (.int .i64 (mat (iniC c) (pdiC c) n q : Int)) := by rw [hs2.cell (a := ⟨N6, q, none⟩) he.lt, he.cell hqn', hmtq]
          obtain ⟨mq, hmq⟩ : ∃ mq, mq = mat (iniC c) (pdiC c) n q := ⟨_, rfl⟩
          rw [← hmq] at hmle hmgt hfs2 k7
          have HF := Lib.hid hfs2
          clear hmtq hj hmq hfs2 hi2
          have hz1 : ¬ (z : Int) < (mq : Int) := by omega
          go_wp2_with fail
          go_roundg (n + 1 - (mq + 1))
          case rel => exact ⟨mq + 1, by omega, by omega, rfl, by go_num, rfl, HF, hs2⟩
          case measure => omega
        · have hi' : memB [23, 21, 22] (c q) = false := by simpa using hi
          have hi2 : iniC c q = false := by rw [mem_FLR] at hi'; exact hi'
          have hj : jmp (iniC c) (pdiC c) n q = q + 1 := if_neg (by rw [hi2]; decide)
          rw [hj] at hfs2
          have HF := Lib.hid hfs2
          clear hj hfs2 hi hi2
          go_wp2_with fail
          go_roundg (n + 1 - (q + 1))
          case rel => exact ⟨q + 1, by omega, by omega, rfl, by go_num, rfl, HF, hs2⟩
          case measure => omega
    · have hqz : ¬ (q : Int) < (z : Int) := by omega
      have hv : fsC c n i0 z = 0 := hfs.out.trans (fsC_end (by omega))
      have HV := Lib.hid hv
      clear hv
      go_wp2_with fail
      go_ret
      exact ⟨ret_int HV.out.symm, hs⟩

set_option maxHeartbeats 1000000 in
theorem bidiEmbedding_any {ao : Option Addr} {b o n cc : Nat} {c : Nat → Int} (w : World) (hn : n ≤ 4294967296) (hx : Sees w ao b o n cc (fun i => .int .u64 (c i))) (hu : ∀ i, i < n → 0 ≤ c i ∧ c i ≤ 24) :
    Calls Tryd.prog 24 #[.slice ao n cc] w fun e w' => e = .returned (.int .i8 (fsC c n 0 n)) ∧ w.Since w.heap.size w' := by
  have HU := Lib.hid hu
  clear hu
  go_enter Tryd.func24, Tryd.ntmps24
  go_wp2_with fail
  refine (bare_any _ hn hx).mono ?_
  rintro e w1 ⟨p, rfl, ⟨a0, c0, b0, a4, c4, b4, hp, hs0, hs4, hne, hb0, hb4, _⟩, hge, hsi⟩
  go_wp2_with fail
  refine (dmi_any (f1 := .slice none 0 0) (f2 := .slice none 0 0) (f3 := .int .i8 0) (f5 := .slice none 0 0) _ hn hp hs4 (fun h => (hne h).2.1)).mono ?_
  rintro e w2 ⟨rfl, hM⟩
  have hs2 : w.Since w.heap.size w2 := ⟨hM.kept.os.trans hsi.os, hM.kept.tape.trans hsi.tape, hM.kept.output.trans hsi.output, Nat.le_trans hsi.size hM.kept.size, fun k hk => (hM.kept.block k (Nat.lt_of_lt_of_le hk hsi.size) (by omega)).trans (hsi.block k hk)⟩
  have k0 : w2.cell? ⟨p, 0, none⟩ = some (.slice a0 n c0) := hM.para.cell (by omega)
  have hs4' := hM.kept.sees hs4 (fun h => (hne h).2.1)
  clear hp hs0 hs4 hne hsi
  go_wp2_with fail
  refine (len_any _ k0).mono ?_
  rintro e w3 ⟨rfl, rfl⟩
  go_wp2_with fail
  refine (dpel_any (i0 := 0) (z := n) _ hn (Nat.le_refl _) (Nat.zero_le _) hM.para hs4' hM.ends HU.out (fun i _ hi _ => mat_le hi)).mono ?_
  rintro e w3 ⟨rfl, hs3⟩
  go_wp2_with fail
  go_ret
  exact ⟨rfl, since2 hs2 hs3⟩

theorem fsC_small (c : Nat → Int) (n i z : Nat) : fsC c n i z = 0 ∨ fsC c n i z = 1 := by
  unfold fsC
  generalize z - i = f
  induction f generalizing i with
  | zero => exact .inl rfl
  | succ f ih =>
    rw [fsr]
    split
    · exact .inl rfl
    · split
      · exact .inl rfl
      · split
        · exact .inr rfl
        · exact ih _

set_option maxHeartbeats 1000000 in
theorem implEmbedding_any {ao : Option Addr} {b o n cc : Nat} {x : Nat → Int} (w : World) (ht : Tab w) (hn : n ≤ 4294967296) (hx : Sees w ao b o n cc (fun i => .int .i64 (x i))) :
    Calls Tryd.prog 15 #[.slice ao n cc] w fun e w' => e = .returned (.int .i64 (fsC (fun i => cls (x i)) n 0 n)) ∧ w.Since w.heap.size w' := by
  have hsm := fsC_small (fun i => cls (x i)) n 0 n
  obtain ⟨v, hv⟩ : ∃ v, v = fsC (fun i => cls (x i)) n 0 n := ⟨_, rfl⟩
  rw [← hv] at hsm
  rw [← hv]
  have HV := Lib.hid hv
  have v0 : 0 ≤ v := by omega
  have v1 : v ≤ 1 := by omega
  clear hv hsm
  go_enter Tryd.func15, Tryd.ntmps15
  go_wp2_with fail
  refine (classesOf_any _ ht hn hx).mono ?_
  rintro e w1 ⟨ao1, b1, o1, c1, rfl, hs1, hf1, hsi1⟩
  go_wp2_with fail
  refine (bidiEmbedding_any _ hn hs1 (fun i _ => cls_range _)).mono ?_
  rintro e w2 ⟨rfl, hsi2⟩
  rw [← HV.out]
  go_wp2_with fail
  go_ret
  exact ⟨rfl, since2 hsi1 hsi2⟩

end Go.Proofs.YtckffgcmeajbdaaDoor
