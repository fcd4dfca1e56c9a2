/- What a call leaves: a slice that reads as f, nothing that was there turned. No program in sight. -/
import Derived.Test.YtmaieenphcnefaaDoorBase
namespace Go.Proofs.YtmaieenphcnefaaDoor
open Go.RowKit

/-- A slice comes back that reads as f; nothing that was there has turned. -/
def RetSees (w : World) (n : Nat) (f : Nat → Value) (e : Ending) (w' : World) : Prop := ∃ ao b o c, e = .returned (.slice ao n c) ∧ Sees w' ao b o n c f ∧ w.heap.size ≤ b ∧ w.Since w.heap.size w'

theorem Gr.ret {w w' : World} {base : Nat} {e : TypeId} {v : Value} {n : Nat} {f : Nat → Value} (h : Gr w' base e v n f) (s : w.Since w.heap.size w') (hb : w.heap.size ≤ base) : RetSees w n f (.returned v) w' := by
  obtain ⟨ao, b, c, rfl, hb2, hs⟩ := h.sees
  exact ⟨ao, b, 0, c, rfl, hs, Nat.le_trans hb hb2, s⟩

/-- A slice comes back that the call has made, and that reads as f; nothing that was there has turned. -/
def RetGr (E : TypeId) (w : World) (n : Nat) (f : Nat → Value) (e : Ending) (w' : World) : Prop := ∃ ao c, e = .returned (.slice ao n c) ∧ Gr w' w.heap.size E (.slice ao n c) n f ∧ w.Since w.heap.size w'

theorem RetGr.sees {E : TypeId} {w : World} {n : Nat} {f : Nat → Value} {e : Ending} {w' : World} (h : RetGr E w n f e w') : RetSees w n f e w' := by
  obtain ⟨ao, c, rfl, hg, hs⟩ := h
  obtain ⟨b, hb, hs'⟩ := hg.see
  exact ⟨ao, b, 0, c, rfl, hs', hb, hs⟩

theorem Gr.ret' {w w' : World} {e : TypeId} {v : Value} {n : Nat} {f : Nat → Value} (h : Gr w' w.heap.size e v n f) (s : w.Since w.heap.size w') : RetGr e w n f (.returned v) w' := by
  obtain ⟨ao, b, c, rfl, hb2, hs⟩ := h.sees
  exact ⟨ao, c, rfl, h, s⟩

theorem ret_bool {a b : Bool} (h : a = b) : Ending.returned (.bool a) = .returned (.bool b) := by rw [h]

end Go.Proofs.YtmaieenphcnefaaDoor
