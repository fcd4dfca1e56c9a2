/- bidi.Embedding, impl.Embedding, over the parts of r5. -/
import Derived.Test.YtkocpijloiamcaaDoorGE
import Derived.Test.YtkocpijloiamcaaDoorGC
import Derived.Test.YtkocpijloiamcaaDoorCase
namespace Go.Proofs.YtkocpijloiamcaaDoor
open Go.RowKit
set_option linter.unusedVariables false

set_option maxHeartbeats 1000000 in
theorem bidiEmbedding_any {ao : Option Addr} {b o n cc : Nat} {c : Nat → Int} (w : World) (hn : n ≤ 4294967296) (hx : Sees w ao b o n cc (fun i => .int .u64 (c i))) (hu : ∀ i, i < n → 0 ≤ c i ∧ c i ≤ 24) :
    Calls Tryd.prog 37 #[.slice ao n cc] w fun e w' => e = .returned (.int .i8 (fsC c n 0 n)) ∧ w.Since w.heap.size w' := by
  have HU := Lib.hid hu
  clear hu
  go_enter Tryd.func37, Tryd.ntmps37
  go_wp2_with fail
  refine (bare_any _ hn hx).mono ?_
  rintro e w1 ⟨p, rfl, ⟨a0, c0, b0, a4, c4, b4, hp, hs0, hs4, hne, hb0, hb4, _⟩, hge, hsi⟩
  go_wp2_with fail
  refine (dmi_any (f1 := .slice none 0 0) (f2 := .slice none 0 0) (f3 := .int .i8 0) (f5 := .slice none 0 0) _ hn hp hs4 (fun h => (hne h).2.1)).mono ?_
  rintro e w2 ⟨rfl, hM⟩
  have hs2 : w.Since w.heap.size w2 := ⟨hM.kept.os.trans hsi.os, hM.kept.tape.trans hsi.tape, hM.kept.output.trans hsi.output, Nat.le_trans hsi.size hM.kept.size, fun k hk => (hM.kept.block k (Nat.lt_of_lt_of_le hk hsi.size) (by omega)).trans (hsi.block k hk)⟩
  have k0 : w2.cell? ⟨p, 0, none⟩ = some (.slice a0 n c0) := hM.para.cell (by omega)
  have hs4' := hM.kept.sees hs4 (fun h => (hne h).2.1)
  clear hp hs0 hs4 hne hsi
  go_wp2_with fail
  refine (len_any _ k0).mono ?_
  rintro e w3 ⟨rfl, rfl⟩
  go_wp2_with fail
  refine (dpel_any (i0 := 0) (z := n) _ hn (Nat.le_refl _) (Nat.zero_le _) (fun _ _ _ => rfl) hM.para hs4' hM.ends HU.out (fun i _ hi _ => mat_le hi)).mono ?_
  rintro e w3 ⟨rfl, hs3⟩
  go_wp2_with fail
  go_ret
  exact ⟨rfl, since2 hs2 hs3⟩

set_option maxHeartbeats 1000000 in
theorem implEmbedding_any {ao : Option Addr} {b o n cc : Nat} {x : Nat → Int} (w : World) (ht : Tab w) (hn : n ≤ 4294967296) (hx : Sees w ao b o n cc (fun i => .int .i64 (x i))) :
    Calls Tryd.prog 24 #[.slice ao n cc] w fun e w' => e = .returned (.int .i64 (fsC (fun i => cls (x i)) n 0 n)) ∧ w.Since w.heap.size w' := by
  have hsm := fsC_small (fun i => cls (x i)) n 0 n
  obtain ⟨v, hv⟩ : ∃ v, v = fsC (fun i => cls (x i)) n 0 n := ⟨_, rfl⟩
  rw [← hv] at hsm
  rw [← hv]
  have HV := Lib.hid hv
  have v0 : 0 ≤ v := by omega
  have v1 : v ≤ 1 := by omega
  clear hv hsm
  go_enter Tryd.func24, Tryd.ntmps24
  go_wp2_with fail
  refine (classesOf_any _ ht hn hx).mono ?_
  rintro e w1 ⟨ao1, b1, o1, c1, rfl, hs1, hf1, hsi1⟩
  go_wp2_with fail
  refine (bidiEmbedding_any _ hn hs1 (fun i _ => cls_range _)).mono ?_
  rintro e w2 ⟨rfl, hsi2⟩
  rw [← HV.out]
  go_wp2_with fail
  go_ret
  exact ⟨rfl, since2 hsi1 hsi2⟩

theorem sameB_of {n : Nat} {f g : Nat → Int} (h : ∀ i, i < n → f i = g i) : sameB n n f g = true := decide_eq_true ⟨rfl, h⟩
end Go.Proofs.YtkocpijloiamcaaDoor
