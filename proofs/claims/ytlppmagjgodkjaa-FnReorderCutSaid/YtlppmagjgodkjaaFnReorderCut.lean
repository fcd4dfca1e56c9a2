/- The law FnReorderCut: for every input the call returns true, and each argument reads afterwards as it read before. No further condition. (The frame was written by the kit's proof-skeleton; the walk is the prover's.) -/
import Derived.Test.YtlppmagjgodkjaaRows
import Derived.Test.YtlppmagjgodkjaaOrders
import Derived.Test.YtlppmagjgodkjaaOrd2
import Derived.WalkKit
import Derived.ProofKit
import Derived.OpenShut
import Derived.ShutString
import Derived.ChangeOld
import Derived.Below
namespace Go.Proofs.Ytlppmagjgodkjaa.fnReorderCut
open Go.ChangeShapes Go.WideShapes Go.ChangeAt Go.RowKit
open Go.ChangeMaps (open_string shut_string)
set_option linter.unusedVariables false

theorem own : ownKnob Try.prog.godebug = none := by kernel_rfl
theorem laidOut : laidOutB Try.prog = true := by kernel_rfl

/-- WHAT THE WALK IS TOLD OF A SLICE OF INTEGERS THAT CAME IN: it is nil; or it leads to a row of 'cap' cells, the numbers 'zs' (the first 'len' are its elements, the rest its spare room), each fitting its kind. -/
def IsRow (k : IntKind) (w : World) (a : Option Addr) (len cap : Nat) (zs : List Int) : Prop :=
  (a = none ∧ len = 0 ∧ cap = 0 ∧ zs = []) ∨
  ∃ x, a = some x ∧ len ≤ cap ∧ cap ≤ maxLen ∧ zs.length = cap ∧ (∀ i, i < zs.length → w.cell? (x.add i) = some (.int k (zs.getD i 0))) ∧ ∀ n ∈ zs, (Lit.int k n).wf = true

/-! ### STEP 1: THE WALK: the Go text returns true, AND WRITES NOTHING THAT WAS THERE: 'Below w.heap.size w w'' (Derived/Below.lean: '.refl', '.alloc', '.drew', '.setCell' at a new block, '.trans'). Open each 'IsRow' by 'rcases' AHEAD of 'go_enter'; part every test ahead of the walk. -/
set_option maxHeartbeats 4000000 in
set_option maxRecDepth 100000 in
theorem walk (a0 : Option Addr) (len0 cap0 : Nat) (z0 : List Int) (a1 : Option Addr) (len1 cap1 : Nat) (z1 : List Int) (w : World) (w0 : IsRow .i64 w a0 len0 cap0 z0) (w1 : IsRow .i64 w a1 len1 cap1 z1) :
    Calls Try.prog 4 #[.slice a0 len0 cap0, .slice a1 len1 cap1] w fun e w' => e = .returned (.bool true) ∧ Below w.heap.size w w' := by
  obtain ⟨b0, o0, hx0⟩ := sees_of_row w0
  obtain ⟨x, hx⟩ : ∃ x : Nat → Int, Sees w a0 b0 o0 len0 cap0 (fun i => .int .i64 (x i)) := ⟨_, hx0⟩
  obtain ⟨b1, o1, hy0⟩ := sees_of_row w1
  obtain ⟨y, hy⟩ : ∃ y : Nat → Int, Sees w a1 b1 o1 len1 cap1 (fun i => .int .i64 (y i)) := ⟨_, hy0⟩
  clear hx0 hy0 w0 w1
  by_cases hn : len0 ≤ 2147483647
  case neg =>
    have hb : (2147483647 : Int) < (len0 : Int) := by omega
    go_enter Try.func4, Try.ntmps4
    go_wp2_with fail
    go_ret
    exact ⟨rfl, Below.refl _ _⟩
  by_cases hn1 : len1 ≤ 2147483647
  case neg =>
    have hb : (2147483647 : Int) < (len1 : Int) := by omega
    go_enter Try.func4, Try.ntmps4
    go_wp2_with fail
    go_ret
    exact ⟨rfl, Below.refl _ _⟩
  obtain ⟨F, hF⟩ : ∃ F : Nat → Int, F = fun i => if i = len0 then 0 else x i := ⟨_, rfl⟩
  obtain ⟨S, hS⟩ : ∃ S : Nat → Int, S = fun i => if i < 1 then 0 else y (i - 1) := ⟨_, rfl⟩
  have HF := Lib.hid hF
  have HS := Lib.hid hS
  clear hF hS
  have g1 := Gr.empty w w.heap.size 3 (fun _ => .int .i64 0) (Nat.le_refl _)
  have hs1 : w.Since w.heap.size (w.alloc (.cells #[] 3)) := (World.Since.refl _ _).alloc (Nat.le_refl _) _
  have hx1 := hx.since hs1
  go_enter Try.func4, Try.ntmps4
  -- first
  go_wp2_with (refine wpList_cat _ rfl (.tmp 16) (.tmp 17) 22 rfl w.heap.size 3 (.int .i64 0) 8 Try.underlying22 Try.infoInt rfl _ _ _ (by rfl) g1 (by rfl) hx1 (fun _ _ => rfl) (by omega) (by omega) (by simp) ?_)
  intro v2 w2 hg2 hgr2 _
  have hs2 : w.Since w.heap.size w2 := hs1.grown hgr2 (by simp) (by simp [Value.ownBlock])
  have hg2' : Gr w2 w.heap.size 3 v2 len0 (fun i => .int .i64 (x i)) := by first | exact hg2 | (rw [Nat.zero_add] at hg2; exact hg2.congr fun i _ => by simp)
  have hz2 : w.heap.size ≤ w2.heap.size := hs2.size
  clear g1 hs1 hx1 hg2 hgr2
  go_wp2_with (refine wpList_push w2 rfl (.tmp 18) (.tmp 19) 22 rfl w.heap.size 3 (.int .i64 0) 8 Try.underlying22 Try.infoInt rfl _ _ _ _ (by rfl) hg2' (by rfl) rfl (by omega) (by omega) hz2 ?_)
  intro v3 w3 hg3 hgr3 _
  have hs3 : w.Since w.heap.size w3 := (hs2.alloc hz2 _).grown hgr3 (by simp; omega) (fun k hk => (hg2'.ge k hk).1)
  have hg3' : Gr w3 w.heap.size 3 v3 (len0 + 1) (fun i => .int .i64 (F i)) := hg3.congr fun i _ => by rw [HF.out]; show _ = Value.int .i64 (if i = len0 then 0 else x i); by_cases e : i = len0 <;> simp [e]
  have hz3 : w.heap.size ≤ w3.heap.size := hs3.size
  obtain ⟨ao3, bo3, c3, hv3, hb3, hse3⟩ := hg3'.sees
  rw [hv3]
  clear hv3 hs2 hg2' hgr3 hg3 hg3' hz2
  -- second
  have g4 : Gr (w3.alloc (.cells #[.int .i64 0] 3)) w3.heap.size 3 (.slice (some ⟨w3.heap.size, 0, none⟩) 1 1) 1 (fun _ => .int .i64 0) := World.ownsRow_lit w3 #[.int .i64 0] 1 (Nat.le_refl _) (by decide) rfl
  have hsA : w3.Since w3.heap.size (w3.alloc (.cells #[.int .i64 0] 3)) := (World.Since.refl _ _).alloc (Nat.le_refl _) _
  have hy1 := (hy.since hs3).since hsA
  go_wp2_with (refine wpList_cat _ rfl (.tmp 21) (.tmp 22) 22 rfl w3.heap.size 3 (.int .i64 0) 8 Try.underlying22 Try.infoInt rfl _ _ _ (by rfl) g4 (by rfl) hy1 (fun _ _ => rfl) (by omega) (by omega) (by simp) ?_)
  intro v4 w4 hg4 hgr4 _
  have hs4' : w3.Since w3.heap.size w4 := hsA.grown hgr4 (by simp) (by simp [Value.ownBlock])
  have hs4 := since2 hs3 hs4'
  have hg4' : Gr w4 w3.heap.size 3 v4 (1 + len1) (fun i => .int .i64 (S i)) := hg4.congr fun i _ => by rw [HS.out]; show _ = Value.int .i64 (if i < 1 then 0 else y (i - 1)); by_cases e : i = 0 <;> simp [e]
  have hse3' := hse3.since hs4'
  have hbF : bo3 < w4.heap.size := Nat.lt_of_lt_of_le (hse3.lt (by omega)) hs4'.size
  obtain ⟨ao4, bo4, c4, hv4, hb4, hse4⟩ := hg4'.sees
  rw [hv4]
  have hbS : bo4 < w4.heap.size := hse4.lt (by omega)
  have hx4 := hx.since hs4
  have hy4 := hy.since hs4
  clear hv4 g4 hsA hy1 hg4 hgr4 hg4' hse3 hs3 hs4' hz3 hx hy
  -- AreLevels
  by_cases hl : levelsB len0 x = true
  case neg =>
    have hl' : levelsB len0 x = false := by simpa using hl
    clear hl
    go_wp2_with fail
    refine (areLevels_any _ (by omega) hx4).mono ?_
    rintro e w5 ⟨rfl, rfl⟩
    go_wp2_with fail
    go_ret
    exact ⟨rfl, below_of_since hs4⟩
  by_cases hm : levelsB len1 y = true
  case neg =>
    have hm' : levelsB len1 y = false := by simpa using hm
    clear hm
    go_wp2_with fail
    refine (areLevels_any _ (by omega) hx4).mono ?_
    rintro e w5 ⟨rfl, rfl⟩
    go_wp2_with fail
    refine (areLevels_any _ (by omega) hy4).mono ?_
    rintro e w5 ⟨rfl, rfl⟩
    go_wp2_with fail
    go_ret
    exact ⟨rfl, below_of_since hs4⟩
  have hlF : ∀ i, i < len0 + 1 → 0 ≤ F i ∧ F i ≤ 126 := fun i hi => by
    have h := (of_decide_eq_true hl : ∀ i, i < len0 → 0 ≤ x i ∧ x i ≤ 126)
    rw [HF.out]; show 0 ≤ (if i = len0 then 0 else x i) ∧ (if i = len0 then 0 else x i) ≤ 126
    split
    · omega
    · exact h i (by omega)
  have hlS : ∀ i, i < 1 + len1 → 0 ≤ S i ∧ S i ≤ 126 := fun i hi => by
    have h := (of_decide_eq_true hm : ∀ i, i < len1 → 0 ≤ y i ∧ y i ≤ 126)
    rw [HS.out]; show 0 ≤ (if i < 1 then 0 else y (i - 1)) ∧ (if i < 1 then 0 else y (i - 1)) ≤ 126
    split
    · omega
    · exact h _ (by omega)
  have hF0 : F (len0 + 1 - 1) ≤ 0 := by rw [HF.out, Nat.add_sub_cancel]; simp
  have hS0 : S 0 ≤ 0 := by rw [HS.out]; simp
  have HLF := Lib.hid hlF
  have HLS := Lib.hid hlS
  have HF0 := Lib.hid hF0
  have HS0 := Lib.hid hS0
  clear hlF hlS hF0 hS0
  go_wp2_with fail
  refine (areLevels_any _ (by omega) hx4).mono ?_
  rintro e w5 ⟨rfl, rfl⟩
  go_wp2_with fail
  refine (areLevels_any _ (by omega) hy4).mono ?_
  rintro e w5 ⟨rfl, rfl⟩
  clear hx4 hy4
  go_wp2_with fail
  refine (implReorder_gr _ (by omega) hse3' HLF.out).mono ?_
  rintro e w5 ⟨ao5, c5, rfl, hg5, hsi5⟩
  have hs5 := since2 hs4 hsi5
  have hzw : w.heap.size ≤ w4.heap.size := hs4.size
  have hzA : w4.heap.size ≤ w5.heap.size := hsi5.size
  have hF5 := hse3'.since hsi5
  have hS5 := hse4.since hsi5
  clear hse3' hse4 hs4 hsi5
  have hb1 : (((len0 : Int) + 1) != ((len0 : Int) + 1)) = false := by simp
  go_wp2_with fail
  refine (implReorder_any _ (by omega) hS5 HLS.out).mono ?_
  rintro e w6 ⟨ao6, b6, o6, c6, rfl, hs6, hf6, hsi6⟩
  go_wp2_with fail
  refine (raised_any _ _ (by omega) hs6 (by omega) (by omega) (fun i hi => by have := Ord.U_lt (lv := S) (n := 1 + len1) (m := 126) hi; omega)).mono ?_
  rintro e w7 ⟨ao7, b7, o7, c7, rfl, hs7, hf7, hsi7⟩
  have hs7' := since2 hs5 (since2 hsi6 hsi7)
  have hg7 := (hg5.since hsi6).since hsi7
  have hF7 := (hF5.since hsi6).since hsi7
  have hS7 := (hS5.since hsi6).since hsi7
  have hz7 : w4.heap.size ≤ w7.heap.size := Nat.le_trans hzA (since2 hsi6 hsi7).size
  have hzW : w.heap.size ≤ w4.heap.size := hzw
  clear hzA hzw hs6 hf6 hsi6 hsi7 hf7 hg5 hF5 hS5 hs5
  go_wp2_with (refine wpList_cat _ rfl (.tmp 39) (.tmp 44) 22 rfl w4.heap.size 3 (.int .i64 0) 8 Try.underlying22 Try.infoInt rfl _ _ _ (by rfl) hg7 (by rfl) hs7 (fun _ _ => rfl) (by omega) (by omega) hz7 ?_)
  intro v8 w8 hg8 hgr8 _
  have hs8 : w.Since w.heap.size w8 := hs7'.grown hgr8 hs7'.size (fun k hk => Nat.le_trans hzW (hg7.ge k hk).1)
  have hs78 : w7.Since w4.heap.size w8 := (World.Since.refl _ _).grown hgr8 hz7 (fun k hk => (hg7.ge k hk).1)
  have hF8 := hF7.kept (w' := w8) (fun h => hs78.block _ hbF)
  have hS8 := hS7.kept (w' := w8) (fun h => hs78.block _ hbS)
  obtain ⟨ao8, bo8, c8, hv8, hb8, hse8⟩ := hg8.sees
  rw [hv8]
  clear hv8 hg7 hs7 hgr8 hs7' hs78 hg8 hF7 hS7 hz7
  have hb8x : bo8 < w8.heap.size := hse8.lt (by omega)
  -- the whole
  have g9 := Gr.empty w8 w8.heap.size 3 (fun _ => .int .i64 0) (Nat.le_refl _)
  have hsB : w8.Since w8.heap.size (w8.alloc (.cells #[] 3)) := (World.Since.refl _ _).alloc (Nat.le_refl _) _
  have hF9 := hF8.since hsB
  go_wp2_with (refine wpList_cat _ rfl (.tmp 46) (.tmp 47) 22 rfl w8.heap.size 3 (.int .i64 0) 8 Try.underlying22 Try.infoInt rfl _ _ _ (by rfl) g9 (by rfl) hF9 (fun _ _ => rfl) (by omega) (by omega) (by simp) ?_)
  intro v10 w10 hg10 hgr10 _
  have hs10 : w8.Since w8.heap.size w10 := hsB.grown hgr10 (by simp) (by simp [Value.ownBlock])
  have hg10' : Gr w10 w8.heap.size 3 v10 (len0 + 1) (fun i => .int .i64 (F i)) := by first | exact hg10 | (rw [Nat.zero_add] at hg10; exact hg10.congr fun i _ => by simp)
  have hS10 := hS8.since hs10
  have hse10 := hse8.since hs10
  have hz10 : w8.heap.size ≤ w10.heap.size := hs10.size
  clear g9 hsB hF9 hg10 hgr10 hF8 hS8 hse8
  go_wp2_with (refine wpList_cat _ rfl (.tmp 48) (.tmp 49) 22 rfl w8.heap.size 3 (.int .i64 0) 8 Try.underlying22 Try.infoInt rfl _ _ _ (by rfl) hg10' (by rfl) hS10 (fun _ _ => rfl) (by omega) (by omega) hz10 ?_)
  intro v11 w11 hg11 hgr11 _
  have hs11 : w8.Since w8.heap.size w11 := hs10.grown hgr11 hz10 (fun k hk => (hg10'.ge k hk).1)
  have hse11 := hse10.kept (w' := w11) (fun h => by rw [hgr11.block _ (hse10.lt h) (fun e => by have := (hg10'.ge _ e.symm).1; have := hb8x; omega)])
  obtain ⟨ao11, bo11, c11, hv11, hb11, hsee11⟩ := hg11.sees
  rw [hv11]
  clear hv11 hg10' hS10 hg11 hgr11 hse10 hs10
  obtain ⟨C, hC⟩ : ∃ C : Nat → Int, C = fun i => if i < len0 + 1 then F i else S (i - (len0 + 1)) := ⟨_, rfl⟩
  have hsC : Sees w11 ao11 bo11 0 (len0 + 1 + (1 + len1)) c11 (fun i => .int .i64 (C i)) := hsee11.congr fun i _ => by rw [hC]; show _ = Value.int .i64 (if i < len0 + 1 then F i else S (i - (len0 + 1))); by_cases e : i < len0 + 1 <;> simp [e]
  have hlC : ∀ i, i < len0 + 1 + (1 + len1) → 0 ≤ C i ∧ C i ≤ 126 := fun i hi => by
    rw [hC]; show 0 ≤ (if i < len0 + 1 then F i else S (i - (len0 + 1))) ∧ (if i < len0 + 1 then F i else S (i - (len0 + 1))) ≤ 126
    split
    · exact HLF.out i (by assumption)
    · exact HLS.out _ (by omega)
  have hCl : ∀ m p, p < len0 + 1 → Ord.U C (len0 + 1 + (1 + len1)) m p = Ord.U F (len0 + 1) m p := fun m p hp =>
    Ord.U_left (by omega) (by omega) (fun i hi => by rw [hC]; exact if_pos hi) HF0.out m hp
  have hCr : ∀ m p, p < 1 + len1 → Ord.U C (len0 + 1 + (1 + len1)) m (len0 + 1 + p) = len0 + 1 + Ord.U S (1 + len1) m p := fun m p hp =>
    Ord.U_right rfl (fun i hi => by rw [hC]; show (if len0 + 1 + i < len0 + 1 then F (len0 + 1 + i) else S (len0 + 1 + i - (len0 + 1))) = S i; rw [if_neg (by omega), Nat.add_sub_cancel_left]) HS0.out m hp
  have HLC := Lib.hid hlC
  have HCl := Lib.hid hCl
  have HCr := Lib.hid hCr
  clear hC hlC hCl hCr hsee11
  go_wp2_with fail
  refine (implReorder_any _ (by omega) hsC HLC.out).mono ?_
  rintro e w12 ⟨ao12, b12, o12, c12, rfl, hs12, hf12, hsi12⟩
  have hse12 := hse11.since hsi12
  obtain ⟨W, hW⟩ : ∃ W : Nat → Int, Sees w12 ao8 bo8 0 (len0 + 1 + (1 + len1)) c8 (fun i => .int .i64 (W i)) ∧ W = fun i => if i < len0 + 1 then ((Ord.U F (len0 + 1) 126 i : Nat) : Int) else ((Ord.U S (1 + len1) 126 (i - (len0 + 1)) : Nat) : Int) + ((len0 : Int) + 1) := by
    refine ⟨_, hse12.congr fun i _ => ?_, rfl⟩
    show _ = Value.int .i64 (if i < len0 + 1 then ((Ord.U F (len0 + 1) 126 i : Nat) : Int) else ((Ord.U S (1 + len1) 126 (i - (len0 + 1)) : Nat) : Int) + ((len0 : Int) + 1))
    by_cases e : i < len0 + 1 <;> simp [e, ordVal]
  obtain ⟨hW1, hW2⟩ := hW
  have HW2 := Lib.hid hW2
  clear hW2 hse12 hse11 hsC
  go_wp2_with fail
  refine (same_any _ (by omega) (by omega) hs12 hW1).mono ?_
  rintro e w13 ⟨rfl, hsi13⟩
  go_wp2
  go_ret
  refine ⟨ret_bool ?_, below_of_since (since2 hs8 (since2 hs11 (since2 hsi12 hsi13)))⟩
  unfold sameB
  rw [decide_eq_true_eq]
  refine ⟨rfl, fun i hi => ?_⟩
  rw [HW2.out]
  show ((Ord.U C (len0 + 1 + (1 + len1)) 126 i : Nat) : Int) = if i < len0 + 1 then ((Ord.U F (len0 + 1) 126 i : Nat) : Int) else ((Ord.U S (1 + len1) 126 (i - (len0 + 1)) : Nat) : Int) + ((len0 : Int) + 1)
  split
  · rw [HCl.out 126 i (by assumption)]
  · have := HCr.out 126 (i - (len0 + 1)) (by omega)
    rw [show len0 + 1 + (i - (len0 + 1)) = i by omega] at this
    rw [this]; omega

/-! ### THE ROW's STEP: WRITTEN OUT: LEAVE IT -/
set_option maxRecDepth 100000 in
theorem lifted (os : Os) (started : os.Started) (H : Type) (enc : TypeId × Value → H) :
    ReturnsInHanded {} Try.checked os 4 .any (Rows.fnReorderCutSpec.pre6 enc Try.prog Try.f4 Rows.fnReorderCutRow.domain false) (Rows.fnReorderCutSpec.post enc Try.prog Try.f4 false true false false) := by
  refine returnsInHanded_of_change (C := Try.checked) own started (by kernel_rfl) Try.func4
    (ChangeSpec.witness6 (enc := enc) (C := Try.checked) false ⟨#[], #[.slice none 0 0, .slice none 0 0], []⟩ 8 (by kernel_rfl) (by kernel_rfl) (by kernel_rfl) (by kernel_rfl)) ?_
  intro W base args ds gs before hval0 hW hcnd _
  have hval : ∀ (j : Nat) t v, Try.f4.params[j]? = some t → args[j]? = some v → Value.okWide Try.prog W .any base t v := hval0
  have hW' := hW
  obtain ⟨p, q, hA0, hV, rfl, hfz, hnd⟩ := hW
  have hA : DataW.TrodAll enc Try.prog W 0 (fun _ => true) true Try.f4.params.toList args.toList ds p := hA0
  rw [Try.params4] at hA hval
  obtain ⟨v0, vs0, d0, ds0, p0, q0, hargs, rfl, rfl, h0, r0⟩ := trodAll_cons hA
  obtain ⟨v1, vs1, d1, ds1, p1, q1, rfl, rfl, rfl, h1, r1⟩ := trodAll_cons r0
  obtain ⟨rfl, rfl, rfl⟩ := trodAll_nil r1
  obtain rfl : args = #[v0, v1] := by cases args; simp_all
  obtain ⟨rfl, rfl⟩ := trodVars_none hV
  obtain ⟨a0, len0, cap0, rfl⟩ := okWide_slice Try.underlying22 (hval 0 22 v0 rfl rfl)
  have k0 := h0
  have lt0 : ∀ x ∈ p0, x.block < W.heap.size := by obtain ⟨m, hm⟩ := k0; exact DataW.trod_lt m _ _ _ hm
  obtain ⟨z0, w0⟩ : ∃ zs, IsRow .i64 W a0 len0 cap0 zs := by
    obtain ⟨fuel, hf⟩ := h0
    rcases open_ints Try.underlying22 Try.underlying3 (by kernel_rfl) hf with ⟨hcs, _⟩ | ⟨x, l, c, zs, hcs, _, hl, hm, hz, _, hcell, hwz⟩
    · simp [Value.cells] at hcs
      obtain ⟨rfl, rfl, rfl⟩ := hcs
      exact ⟨[], .inl ⟨rfl, rfl, rfl, rfl⟩⟩
    · simp [Value.cells] at hcs
      obtain ⟨rfl, rfl, rfl⟩ := hcs
      exact ⟨zs, .inr ⟨_, rfl, hl, hm, by simpa using hz, hcell, hwz⟩⟩
  obtain ⟨a1, len1, cap1, rfl⟩ := okWide_slice Try.underlying22 (hval 1 22 v1 rfl rfl)
  have k1 := h1
  have lt1 : ∀ x ∈ p1, x.block < W.heap.size := by obtain ⟨m, hm⟩ := k1; exact DataW.trod_lt m _ _ _ hm
  obtain ⟨z1, w1⟩ : ∃ zs, IsRow .i64 W a1 len1 cap1 zs := by
    obtain ⟨fuel, hf⟩ := h1
    rcases open_ints Try.underlying22 Try.underlying3 (by kernel_rfl) hf with ⟨hcs, _⟩ | ⟨x, l, c, zs, hcs, _, hl, hm, hz, _, hcell, hwz⟩
    · simp [Value.cells] at hcs
      obtain ⟨rfl, rfl, rfl⟩ := hcs
      exact ⟨[], .inl ⟨rfl, rfl, rfl, rfl⟩⟩
    · simp [Value.cells] at hcs
      obtain ⟨rfl, rfl, rfl⟩ := hcs
      exact ⟨zs, .inr ⟨_, rfl, hl, hm, by simpa using hz, hcell, hwz⟩⟩
  clear hA0 hval0
  refine (walk a0 len0 cap0 z0 a1 len1 cap1 z1 W w0 w1).mono fun e W' ⟨he, bel⟩ => ?_
  subst he
  exact ⟨_, rfl, _, _, _, [], _, [], hW', trodAll_mk1 (shut_bool Try.underlying4 _), (trodAll_cons_mk (Below.trod laidOut (by kernel_rfl) (of_decide_eq_true (by kernel_rfl)) k0 bel lt0) (trodAll_cons_mk (Below.trod laidOut (by kernel_rfl) (of_decide_eq_true (by kernel_rfl)) k1 bel lt1) trodAll_mk0)), rfl, bel.frame _, fun h => by cases h⟩

theorem over : Rows.fnReorderCutRow.holds Try.pinned (OpenSpec.ofChange Rows.fnReorderCutSpec) :=
  OpenClaim.holds_of_wide 4 Try.f4 rfl rfl rfl rfl rfl rfl rfl ⟨rfl, rfl, rfl, rfl, rfl⟩ rfl rfl rfl rfl rfl (by kernel_rfl) Try.func4 (by kernel_rfl)
    (of_decide_eq_true (by kernel_rfl)) (by unfold Func.isWrapper; first | (rw [if_pos (by decide +kernel)]; kernel_rfl) | (rw [if_neg (by decide +kernel)]; exact ⟨rfl, rfl⟩))
    (fun os started H enc _ => lifted os started H enc)

/-- ████ THE STATEMENT ████ -/
theorem proved : Rows.FnReorderCutSaid := over
#print axioms proved
end Go.Proofs.Ytlppmagjgodkjaa.fnReorderCut
