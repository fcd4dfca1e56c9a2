/- (*paragraph).determineParagraphEmbeddingLevel, bidi.Embedding, impl.Embedding; spec.FirstStrong, spec.BaseLevel. -/
import Derived.Test.YtjelgbfgciaapaaDoorBare
import Derived.Test.YtjelgbfgciaapaaDoorIso2
namespace Go.Proofs.YtjelgbfgciaapaaDoor
open Go.RowKit

theorem ret_int {k : IntKind} {a b : Int} (h : a = b) : Ending.returned (.int k a) = Ending.returned (.int k b) := by rw [h]

/-- Strong classes of a text of classes. -/
def sLC (c : Nat → Int) (i : Nat) : Bool := c i == 0
def sRC (c : Nat → Int) (i : Nat) : Bool := c i == 1 || c i == 13

theorem mem_LAR (c : Int) : memB [0, 13, 1] c = ((c == 0) || (c == 1 || c == 13)) := by
  unfold memB; simp only [List.contains_cons, List.contains_nil, Bool.or_false]
  cases (c == 0) <;> cases (c == 1) <;> cases (c == 13) <;> rfl
theorem mem_FLR (c : Int) : memB [23, 21, 22] c = memB [21, 22, 23] c := by
  unfold memB; simp only [List.contains_cons, List.contains_nil, Bool.or_false]
  cases (c == 21) <;> cases (c == 22) <;> cases (c == 23) <;> rfl

theorem jmp_gt {ini pdi : Nat → Bool} {n : Nat} (i : Nat) (hi : i < n) : i < jmp ini pdi n i := by
  unfold jmp
  split
  · have := mat_gt (ini := ini) (pdi := pdi) hi; omega
  · omega

/-- The level from a place on up to another one. -/
def fsC (c : Nat → Int) (n i z : Nat) : Int := fsr (sLC c) (sRC c) (jmp (iniC c) (pdiC c) n) 0 z (z - i) i

theorem fsC_end {c : Nat → Int} {n i z : Nat} (h : z ≤ i) : fsC c n i z = 0 := fsr_end h
theorem fsC_jmp {c : Nat → Int} {n i z : Nat} (h : i < z) (hn : z ≤ n) (h1 : sLC c i = false) (h2 : sRC c i = false) : fsC c n i z = fsC c n (jmp (iniC c) (pdiC c) n i) z := by
  unfold fsC
  rw [show z - i = (z - i - 1) + 1 by omega, fsr_next h h1 h2]
  have hg := jmp_gt (ini := iniC c) (pdi := pdiC c) i (show i < n by omega)
  -- fuel
  have key : ∀ f g i, z ≤ i + f → z ≤ i + g → fsr (sLC c) (sRC c) (jmp (iniC c) (pdiC c) n) 0 z f i = fsr (sLC c) (sRC c) (jmp (iniC c) (pdiC c) n) 0 z g i := by
    intro f
    induction f with
    | zero => intro g i h _; rw [fsr_end (f := g) (by omega)]; rfl
    | succ f ih =>
      intro g i h1 h2
      by_cases hi : z ≤ i
      · rw [fsr_end hi, fsr_end hi]
      · cases g with
        | zero => omega
        | succ g =>
          have := jmp_gt (ini := iniC c) (pdi := pdiC c) i (show i < n by omega)
          rw [fsr, fsr, ih g _ (by omega) (by omega)]
  exact key _ _ _ (by omega) (by omega)
theorem fsC_L {c : Nat → Int} {n i z : Nat} (h : i < z) (h1 : sLC c i = true) : fsC c n i z = 0 := by
  unfold fsC; rw [show z - i = (z - i - 1) + 1 by omega, fsr_L h h1]
theorem fsC_R {c : Nat → Int} {n i z : Nat} (h : i < z) (h1 : sLC c i = false) (h2 : sRC c i = true) : fsC c n i z = 1 := by
  unfold fsC; rw [show z - i = (z - i - 1) + 1 by omega, fsr_R h h1 h2]

set_option maxHeartbeats 2000000 in
/-- The level of the characters from a place on up to another one; the isolates that begin there end there. -/
theorem dpel_any {p n i0 z : Nat} {f0 f1 f2 f3 f5 f7 : Value} {ao : Option Addr} {b o cc N6 : Nat} {c cur : Nat → Int} (w : World) (hn : n ≤ 4294967296) (hto : z ≤ n) (hi0 : i0 ≤ n) (hcur : ∀ i, i0 ≤ i → i < n → cur i = c i)
    (hp : w.rowIs p 79 8 (pf f0 f1 f2 f3 (.slice ao n cc) f5 (.slice (some ⟨N6, 0, none⟩) n n) f7)) (hx : Sees w ao b o n cc (fun i => .int .u64 (cur i)))
    (he : w.rowIs N6 3 n (fun i => .int .i64 (mt (iniC c) (pdiC c) n i))) (hu : ∀ i, i < n → 0 ≤ c i ∧ c i ≤ 24) (hin : ∀ i, i0 ≤ i → i < z → iniC c i = true → mat (iniC c) (pdiC c) n i ≤ z) :
    Calls Tryd.prog 58 #[.pointer (some ⟨p, 0, none⟩), .int .i64 i0, .int .i64 z] w fun e w' => e = .returned (.int .i8 (fsC c n i0 z)) ∧ w.Since w.heap.size w' := by
  have HIN := Lib.hid hin
  have HU := Lib.hid hu
  have HCUR := Lib.hid hcur
  clear hin hu hcur
  go_enter Tryd.func58, Tryd.ntmps58
  go_wp2
  go_loopg [7, 8, 9] (n + 1 - i0) (fun g s i _ wr => ∃ q : Nat, i0 ≤ q ∧ q ≤ n + 1 ∧ g = n + 1 - q ∧ i = .int .i64 q ∧ s = .int .u64 18446744073709551615 ∧ Hid (fsC c n i0 z = fsC c n q z) ∧ w.Since w.heap.size wr)
  case atStart => exact ⟨i0, by omega, by omega, rfl, rfl, rfl, rfl, World.Since.refl _ _⟩
  case round =>
    obtain ⟨q, hq0, hq1, rfl, rfl, rfl, hfs, hs⟩ := hrel
    by_cases hq : q < z
    · have hqz : (q : Int) < (z : Int) := by omega
      have hqn : (q : Int) < (n : Int) := by omega
      have hqn' : q < n := by omega
      obtain ⟨rfl, hc0⟩ := hx.get hqn'
      rw [HCUR.out q hq0 hqn'] at hc0
      have hc : wr.cell? ⟨b, o + q, none⟩ = some (.int .u64 (c q)) := by rw [hs.cell (World.block_lt_of_cell? _ _ hc0)]; exact hc0
      have k4 : wr.cell? ⟨p, 4, none⟩ = some (.slice (some ⟨b, o, none⟩) n cc) := by rw [hs.cell (a := ⟨p, 4, none⟩) hp.lt]; exact hp.cell (by omega)
      obtain ⟨u0, u1⟩ := HU.out q hqn'
      have hh := heap_alloc_new wr (.cells #[.int .u64 0, .int .u64 13, .int .u64 1] 67)
      have hs1 : w.Since w.heap.size (wr.alloc (.cells #[.int .u64 0, .int .u64 13, .int .u64 1] 67)) := hs.alloc hs.size _
      clear hc0
      go_wp2_with fail
      refine (in_any [0, 13, 1] (c q) _ (by decide) hh).mono ?_
      rintro e w2 ⟨rfl, rfl⟩
      clear hh hc k4
      by_cases hst : memB [0, 13, 1] (c q) = true
      · have hb1 : (c q == 18446744073709551615) = false := beq_eq_false_iff_ne.2 (by omega)
        by_cases hL : (c q == 0) = true
        · have hv : fsC c n i0 z = 0 := hfs.out.trans (fsC_L hq hL)
          have HV := Lib.hid hv
          clear hv
          go_wp2_with fail
          go_ret
          exact ⟨ret_int HV.out.symm, hs1⟩
        · have hL' : (c q == 0) = false := by simpa using hL
          have hR : sRC c q = true := by rw [mem_LAR, hL'] at hst; simpa [sRC] using hst
          have hv : fsC c n i0 z = 1 := hfs.out.trans (fsC_R hq hL' hR)
          have HV := Lib.hid hv
          clear hv hL
          go_wp2_with fail
          go_ret
          exact ⟨ret_int HV.out.symm, hs1⟩
      · have hst' : memB [0, 13, 1] (c q) = false := by simpa using hst
        have h1 : sLC c q = false := by rw [mem_LAR] at hst'; have := (Bool.or_eq_false_iff.1 hst').1; exact this
        have h2 : sRC c q = false := by rw [mem_LAR] at hst'; have := (Bool.or_eq_false_iff.1 hst').2; exact this
        have hfs2 := hfs.out.trans (fsC_jmp hq hto h1 h2)
        have hh2 := heap_alloc_new (wr.alloc (.cells #[.int .u64 0, .int .u64 13, .int .u64 1] 67)) (.cells #[.int .u64 23, .int .u64 21, .int .u64 22] 67)
        rw [World.size_alloc] at hh2
        have hs2 := hs1.alloc (by simp; have := hs.size; omega) (.cells #[.int .u64 23, .int .u64 21, .int .u64 22] 67)
        clear hst h1 h2 hfs hs
        go_wp2_with fail
        refine (in_any [23, 21, 22] (c q) _ (by decide) hh2).mono ?_
        rintro e w2 ⟨rfl, rfl⟩
        clear hh2
        by_cases hi : memB [23, 21, 22] (c q) = true
        · have hi2 : iniC c q = true := by rw [mem_FLR] at hi; exact hi
          have hmle := HIN.out q hq0 hq hi2
          have hmgt := mat_gt (ini := iniC c) (pdi := pdiC c) hqn'
          have hmtq : mt (iniC c) (pdiC c) n q = (mat (iniC c) (pdiC c) n q : Int) := mt_ini hi2
          have hj : jmp (iniC c) (pdiC c) n q = mat (iniC c) (pdiC c) n q + 1 := if_pos hi2
          rw [hj] at hfs2
          have k6 : ((wr.alloc (.cells #[.int .u64 0, .int .u64 13, .int .u64 1] 67)).alloc (.cells #[.int .u64 23, .int .u64 21, .int .u64 22] 67)).cell? ⟨p, 6, none⟩ = some (.slice (some ⟨N6, 0, none⟩) n n) := by rw [hs2.cell (a := ⟨p, 6, none⟩) hp.lt]; exact hp.cell (by omega)
          have k7 : ((wr.alloc (.cells #[.int .u64 0, .int .u64 13, .int .u64 1] 67)).alloc (.cells #[.int .u64 23, .int .u64 21, .int .u64 22] 67)).cell? ⟨N6, q, none⟩ = some (.int .i64 (mat (iniC c) (pdiC c) n q : Int)) := by rw [hs2.cell (a := ⟨N6, q, none⟩) he.lt, he.cell hqn', hmtq]
          obtain ⟨mq, hmq⟩ : ∃ mq, mq = mat (iniC c) (pdiC c) n q := ⟨_, rfl⟩
          rw [← hmq] at hmle hmgt hfs2 k7
          have HF := Lib.hid hfs2
          clear hmtq hj hmq hfs2 hi2
          have hz1 : ¬ (z : Int) < (mq : Int) := by omega
          go_wp2_with fail
          go_roundg (n + 1 - (mq + 1))
          case rel => exact ⟨mq + 1, by omega, by omega, rfl, by go_num, rfl, HF, hs2⟩
          case measure => omega
        · have hi' : memB [23, 21, 22] (c q) = false := by simpa using hi
          have hi2 : iniC c q = false := by rw [mem_FLR] at hi'; exact hi'
          have hj : jmp (iniC c) (pdiC c) n q = q + 1 := if_neg (by rw [hi2]; decide)
          rw [hj] at hfs2
          have HF := Lib.hid hfs2
          clear hj hfs2 hi hi2
          go_wp2_with fail
          go_roundg (n + 1 - (q + 1))
          case rel => exact ⟨q + 1, by omega, by omega, rfl, by go_num, rfl, HF, hs2⟩
          case measure => omega
    · have hqz : ¬ (q : Int) < (z : Int) := by omega
      have hv : fsC c n i0 z = 0 := hfs.out.trans (fsC_end (by omega))
      have HV := Lib.hid hv
      clear hv
      go_wp2_with fail
      go_ret
      exact ⟨ret_int HV.out.symm, hs⟩

theorem fsC_small (c : Nat → Int) (n i z : Nat) : fsC c n i z = 0 ∨ fsC c n i z = 1 := by
  unfold fsC
  generalize z - i = f
  induction f generalizing i with
  | zero => exact .inl rfl
  | succ f ih =>
    rw [fsr]
    split
    · exact .inl rfl
    · split
      · exact .inl rfl
      · split
        · exact .inr rfl
        · exact ih _

end Go.Proofs.YtjelgbfgciaapaaDoor
