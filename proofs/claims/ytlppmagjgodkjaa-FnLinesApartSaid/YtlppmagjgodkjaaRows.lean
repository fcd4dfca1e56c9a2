/-
  No cell of these rows narrows 'for every input' (looked for: loops, veiled, ifaces, maps, wideKeys, modest, calm, conditions, laid).
  DERIVED. THE GIVEN ROWS OF THIS SEAT. 8 by the template 'for every input the law returns true; each argument reads behind the call as it read before'; 0 by the template 'total and deterministic' (their statements: YtlppmagjgodkjaaTotals.lean).
  GIVEN WITH THE SEED: the statements are not yours to turn. If you find one false, say at which input.
  Laid BY PROGRAM, IN A SANDBOX (cutbox-rows.mjs): the forced cells as the released guide's own fill.sh prints them over the translation f7bf43c01c7e8fd3… (all of the seat's roots in one cut). By AI agents, Wed Nov 11 2026. No macro, syntax, notation, axiom, sorry.
-/
import Derived.Test.YtlppmagjgodkjaaChecked
import GoSem.Claim
import GoSem.ClaimJoined
import GoSem.ClaimMapViews
import Derived.JoinedTies
import Derived.KernelRfl
namespace Go.Proofs.Ytlppmagjgodkjaa
/- THE CELL 'sum', in the pinned program and in every row, IS THE sha256 OF THE DUMP (.gsa) THAT YtlppmagjgodkjaaProg.lean LOADS. Nothing in Lean hashes anything: it is a label: what it is worth is what the hold of that sum in a sandbox is worth. -/
noncomputable def Try.pinned : Pinned := { name := "ytlppmagjgodkjaa", sum := "f7bf43c01c7e8fd35b69d773550bc3e680cc989d00b5d3ef95aaa05e6e90d293", checked := Try.checked }
namespace Rows
def none {H : Type} : Left H := { results := [], args := [] }

/-- 'laws.FnReorderAnswer': WHATEVER THE INPUT: true; the input reads as it did. -/
def fnReorderAnswerSpec : ChangeSpec := { name := "fnReorderAnswer", fn := fun _ => fun
  | [d] => { results := [.lit (.bool true)], args := [d] }
  | _ => none }
def fnReorderAnswerRow : OpenClaim := { program := "ytlppmagjgodkjaa", sum := "f7bf43c01c7e8fd35b69d773550bc3e680cc989d00b5d3ef95aaa05e6e90d293", func := "loop.example/pub-g01449/laws.FnReorderAnswer", spec := "fnReorderAnswer", apart := false }
def FnReorderAnswerSaid : Prop := fnReorderAnswerRow.holds Try.pinned (OpenSpec.ofChange fnReorderAnswerSpec)

/-- ITS FALSE NEIGHBOUR: 'it returns false'. Refute it at one input. -/
def fnReorderAnswerWrong : ChangeSpec := { name := "fnReorderAnswer", fn := fun _ => fun
  | [d] => { results := [.lit (.bool false)], args := [d] }
  | _ => none }
def FnReorderAnswerWrongFalsely : Prop := fnReorderAnswerRow.holds Try.pinned (OpenSpec.ofChange fnReorderAnswerWrong)

/-- 'laws.FnReorderCut': WHATEVER THE INPUT: true; the input reads as it did. -/
def fnReorderCutSpec : ChangeSpec := { name := "fnReorderCut", fn := fun _ => fun
  | [d1, d2] => { results := [.lit (.bool true)], args := [d1, d2] }
  | _ => none }
def fnReorderCutRow : OpenClaim := { program := "ytlppmagjgodkjaa", sum := "f7bf43c01c7e8fd35b69d773550bc3e680cc989d00b5d3ef95aaa05e6e90d293", func := "loop.example/pub-g01449/laws.FnReorderCut", spec := "fnReorderCut", apart := false }
def FnReorderCutSaid : Prop := fnReorderCutRow.holds Try.pinned (OpenSpec.ofChange fnReorderCutSpec)

/-- ITS FALSE NEIGHBOUR: 'it returns false'. Refute it at one input. -/
def fnReorderCutWrong : ChangeSpec := { name := "fnReorderCut", fn := fun _ => fun
  | [d1, d2] => { results := [.lit (.bool false)], args := [d1, d2] }
  | _ => none }
def FnReorderCutWrongFalsely : Prop := fnReorderCutRow.holds Try.pinned (OpenSpec.ofChange fnReorderCutWrong)

/-- 'laws.FnReorderNeighbours': WHATEVER THE INPUT: true; the input reads as it did. -/
def fnReorderNeighboursSpec : ChangeSpec := { name := "fnReorderNeighbours", fn := fun _ => fun
  | [d] => { results := [.lit (.bool true)], args := [d] }
  | _ => none }
def fnReorderNeighboursRow : OpenClaim := { program := "ytlppmagjgodkjaa", sum := "f7bf43c01c7e8fd35b69d773550bc3e680cc989d00b5d3ef95aaa05e6e90d293", func := "loop.example/pub-g01449/laws.FnReorderNeighbours", spec := "fnReorderNeighbours", apart := false }
def FnReorderNeighboursSaid : Prop := fnReorderNeighboursRow.holds Try.pinned (OpenSpec.ofChange fnReorderNeighboursSpec)

/-- ITS FALSE NEIGHBOUR: 'it returns false'. Refute it at one input. -/
def fnReorderNeighboursWrong : ChangeSpec := { name := "fnReorderNeighbours", fn := fun _ => fun
  | [d] => { results := [.lit (.bool false)], args := [d] }
  | _ => none }
def FnReorderNeighboursWrongFalsely : Prop := fnReorderNeighboursRow.holds Try.pinned (OpenSpec.ofChange fnReorderNeighboursWrong)

/-- 'laws.FnReorderOneLevel': WHATEVER THE INPUT: true; the input reads as it did. -/
def fnReorderOneLevelSpec : ChangeSpec := { name := "fnReorderOneLevel", fn := fun _ => fun
  | [d1, d2] => { results := [.lit (.bool true)], args := [d1, d2] }
  | _ => none }
def fnReorderOneLevelRow : OpenClaim := { program := "ytlppmagjgodkjaa", sum := "f7bf43c01c7e8fd35b69d773550bc3e680cc989d00b5d3ef95aaa05e6e90d293", func := "loop.example/pub-g01449/laws.FnReorderOneLevel", spec := "fnReorderOneLevel", apart := false }
def FnReorderOneLevelSaid : Prop := fnReorderOneLevelRow.holds Try.pinned (OpenSpec.ofChange fnReorderOneLevelSpec)

/-- ITS FALSE NEIGHBOUR: 'it returns false'. Refute it at one input. -/
def fnReorderOneLevelWrong : ChangeSpec := { name := "fnReorderOneLevel", fn := fun _ => fun
  | [d1, d2] => { results := [.lit (.bool false)], args := [d1, d2] }
  | _ => none }
def FnReorderOneLevelWrongFalsely : Prop := fnReorderOneLevelRow.holds Try.pinned (OpenSpec.ofChange fnReorderOneLevelWrong)

/-- 'laws.FnReorderPlaces': WHATEVER THE INPUT: true; the input reads as it did. -/
def fnReorderPlacesSpec : ChangeSpec := { name := "fnReorderPlaces", fn := fun _ => fun
  | [d] => { results := [.lit (.bool true)], args := [d] }
  | _ => none }
def fnReorderPlacesRow : OpenClaim := { program := "ytlppmagjgodkjaa", sum := "f7bf43c01c7e8fd35b69d773550bc3e680cc989d00b5d3ef95aaa05e6e90d293", func := "loop.example/pub-g01449/laws.FnReorderPlaces", spec := "fnReorderPlaces", apart := false }
def FnReorderPlacesSaid : Prop := fnReorderPlacesRow.holds Try.pinned (OpenSpec.ofChange fnReorderPlacesSpec)

/-- ITS FALSE NEIGHBOUR: 'it returns false'. Refute it at one input. -/
def fnReorderPlacesWrong : ChangeSpec := { name := "fnReorderPlaces", fn := fun _ => fun
  | [d] => { results := [.lit (.bool false)], args := [d] }
  | _ => none }
def FnReorderPlacesWrongFalsely : Prop := fnReorderPlacesRow.holds Try.pinned (OpenSpec.ofChange fnReorderPlacesWrong)

/-- 'laws.FnReorderRaised': WHATEVER THE INPUT: true; the input reads as it did. -/
def fnReorderRaisedSpec : ChangeSpec := { name := "fnReorderRaised", fn := fun _ => fun
  | [d] => { results := [.lit (.bool true)], args := [d] }
  | _ => none }
def fnReorderRaisedRow : OpenClaim := { program := "ytlppmagjgodkjaa", sum := "f7bf43c01c7e8fd35b69d773550bc3e680cc989d00b5d3ef95aaa05e6e90d293", func := "loop.example/pub-g01449/laws.FnReorderRaised", spec := "fnReorderRaised", apart := false }
def FnReorderRaisedSaid : Prop := fnReorderRaisedRow.holds Try.pinned (OpenSpec.ofChange fnReorderRaisedSpec)

/-- ITS FALSE NEIGHBOUR: 'it returns false'. Refute it at one input. -/
def fnReorderRaisedWrong : ChangeSpec := { name := "fnReorderRaised", fn := fun _ => fun
  | [d] => { results := [.lit (.bool false)], args := [d] }
  | _ => none }
def FnReorderRaisedWrongFalsely : Prop := fnReorderRaisedRow.holds Try.pinned (OpenSpec.ofChange fnReorderRaisedWrong)

/-- 'laws.FnReorderLinesAnswer': WHATEVER THE INPUT: true; the input reads as it did. -/
def fnReorderLinesAnswerSpec : ChangeSpec := { name := "fnReorderLinesAnswer", fn := fun _ => fun
  | [d1, d2] => { results := [.lit (.bool true)], args := [d1, d2] }
  | _ => none }
def fnReorderLinesAnswerRow : OpenClaim := { program := "ytlppmagjgodkjaa", sum := "f7bf43c01c7e8fd35b69d773550bc3e680cc989d00b5d3ef95aaa05e6e90d293", func := "loop.example/pub-g01449/laws.FnReorderLinesAnswer", spec := "fnReorderLinesAnswer", apart := false }
def FnReorderLinesAnswerSaid : Prop := fnReorderLinesAnswerRow.holds Try.pinned (OpenSpec.ofChange fnReorderLinesAnswerSpec)

/-- ITS FALSE NEIGHBOUR: 'it returns false'. Refute it at one input. -/
def fnReorderLinesAnswerWrong : ChangeSpec := { name := "fnReorderLinesAnswer", fn := fun _ => fun
  | [d1, d2] => { results := [.lit (.bool false)], args := [d1, d2] }
  | _ => none }
def FnReorderLinesAnswerWrongFalsely : Prop := fnReorderLinesAnswerRow.holds Try.pinned (OpenSpec.ofChange fnReorderLinesAnswerWrong)

/-- 'laws.FnLinesApart': WHATEVER THE INPUT: true; the input reads as it did. -/
def fnLinesApartSpec : ChangeSpec := { name := "fnLinesApart", fn := fun _ => fun
  | [d1, d2] => { results := [.lit (.bool true)], args := [d1, d2] }
  | _ => none }
def fnLinesApartRow : OpenClaim := { program := "ytlppmagjgodkjaa", sum := "f7bf43c01c7e8fd35b69d773550bc3e680cc989d00b5d3ef95aaa05e6e90d293", func := "loop.example/pub-g01449/laws.FnLinesApart", spec := "fnLinesApart", apart := false }
def FnLinesApartSaid : Prop := fnLinesApartRow.holds Try.pinned (OpenSpec.ofChange fnLinesApartSpec)

/-- ITS FALSE NEIGHBOUR: 'it returns false'. Refute it at one input. -/
def fnLinesApartWrong : ChangeSpec := { name := "fnLinesApart", fn := fun _ => fun
  | [d1, d2] => { results := [.lit (.bool false)], args := [d1, d2] }
  | _ => none }
def FnLinesApartWrongFalsely : Prop := fnLinesApartRow.holds Try.pinned (OpenSpec.ofChange fnLinesApartWrong)

/- THE SECOND FORM. 'bulk': how many values and letters a reading holds, each counted each time it is reached (what is shared counts as often as it is met; a slice's spare places count too). A statement '..UptoSaid' is the law's where the arguments, and the package variables that the reading takes, are together of bulk at most 1048576: NARROWER than '..Said'. Prove '..Said' where nothing that the law and all that it calls make is longer than what came in: it says more and counts as full. Else prove '..UptoSaid'. A law counts once. -/
mutual
def uptoBulk {H : Type} : DataW H → Nat
  | .lit (.string bytes) => bytes.length + 1
  | .lit _ => 1
  | .nil => 1
  | .ptr d => uptoBulk d + 1
  | .slice elems spare => uptoBulkAll elems + uptoBulkAll spare + 1
  | .agg parts => uptoBulkAll parts + 1
  | .iface _ d => uptoBulk d + 1
  | .map entries => uptoBulkEntries entries + 1
  | .held _ => 1
def uptoBulkAll {H : Type} : List (DataW H) → Nat
  | [] => 0
  | d :: r => uptoBulk d + uptoBulkAll r
def uptoBulkEntries {H : Type} : List (Lit × DataW H) → Nat
  | [] => 0
  | x :: r => uptoBulkEntry x + uptoBulkEntries r
def uptoBulkEntry {H : Type} : Lit × DataW H → Nat
  | (.string bytes, d) => bytes.length + uptoBulk d + 1
  | (_, d) => uptoBulk d + 1
 end
def uptoSmall : (H : Type) → List (DataW H) → Bool := fun _ ds => decide (uptoBulkAll ds ≤ 1048576)
def OpenSpec.upto (s : _root_.Go.ChangeSpec) : _root_.Go.OpenSpec := { _root_.Go.OpenSpec.ofChange s with cond := some uptoSmall }

/-- 'laws.FnReorderAnswer', WHERE WHAT IT READS IS OF BULK AT MOST 1048576: true; the input reads as it did. -/
def fnReorderAnswerUptoRow : OpenClaim := { program := "ytlppmagjgodkjaa", sum := "f7bf43c01c7e8fd35b69d773550bc3e680cc989d00b5d3ef95aaa05e6e90d293", func := "loop.example/pub-g01449/laws.FnReorderAnswer", spec := "fnReorderAnswer", apart := false, narrowed := true }
def FnReorderAnswerUptoSaid : Prop := fnReorderAnswerUptoRow.holds Try.pinned (OpenSpec.upto fnReorderAnswerSpec)

/-- 'laws.FnReorderCut', WHERE WHAT IT READS IS OF BULK AT MOST 1048576: true; the input reads as it did. -/
def fnReorderCutUptoRow : OpenClaim := { program := "ytlppmagjgodkjaa", sum := "f7bf43c01c7e8fd35b69d773550bc3e680cc989d00b5d3ef95aaa05e6e90d293", func := "loop.example/pub-g01449/laws.FnReorderCut", spec := "fnReorderCut", apart := false, narrowed := true }
def FnReorderCutUptoSaid : Prop := fnReorderCutUptoRow.holds Try.pinned (OpenSpec.upto fnReorderCutSpec)

/-- 'laws.FnReorderNeighbours', WHERE WHAT IT READS IS OF BULK AT MOST 1048576: true; the input reads as it did. -/
def fnReorderNeighboursUptoRow : OpenClaim := { program := "ytlppmagjgodkjaa", sum := "f7bf43c01c7e8fd35b69d773550bc3e680cc989d00b5d3ef95aaa05e6e90d293", func := "loop.example/pub-g01449/laws.FnReorderNeighbours", spec := "fnReorderNeighbours", apart := false, narrowed := true }
def FnReorderNeighboursUptoSaid : Prop := fnReorderNeighboursUptoRow.holds Try.pinned (OpenSpec.upto fnReorderNeighboursSpec)

/-- 'laws.FnReorderOneLevel', WHERE WHAT IT READS IS OF BULK AT MOST 1048576: true; the input reads as it did. -/
def fnReorderOneLevelUptoRow : OpenClaim := { program := "ytlppmagjgodkjaa", sum := "f7bf43c01c7e8fd35b69d773550bc3e680cc989d00b5d3ef95aaa05e6e90d293", func := "loop.example/pub-g01449/laws.FnReorderOneLevel", spec := "fnReorderOneLevel", apart := false, narrowed := true }
def FnReorderOneLevelUptoSaid : Prop := fnReorderOneLevelUptoRow.holds Try.pinned (OpenSpec.upto fnReorderOneLevelSpec)

/-- 'laws.FnReorderPlaces', WHERE WHAT IT READS IS OF BULK AT MOST 1048576: true; the input reads as it did. -/
def fnReorderPlacesUptoRow : OpenClaim := { program := "ytlppmagjgodkjaa", sum := "f7bf43c01c7e8fd35b69d773550bc3e680cc989d00b5d3ef95aaa05e6e90d293", func := "loop.example/pub-g01449/laws.FnReorderPlaces", spec := "fnReorderPlaces", apart := false, narrowed := true }
def FnReorderPlacesUptoSaid : Prop := fnReorderPlacesUptoRow.holds Try.pinned (OpenSpec.upto fnReorderPlacesSpec)

/-- 'laws.FnReorderRaised', WHERE WHAT IT READS IS OF BULK AT MOST 1048576: true; the input reads as it did. -/
def fnReorderRaisedUptoRow : OpenClaim := { program := "ytlppmagjgodkjaa", sum := "f7bf43c01c7e8fd35b69d773550bc3e680cc989d00b5d3ef95aaa05e6e90d293", func := "loop.example/pub-g01449/laws.FnReorderRaised", spec := "fnReorderRaised", apart := false, narrowed := true }
def FnReorderRaisedUptoSaid : Prop := fnReorderRaisedUptoRow.holds Try.pinned (OpenSpec.upto fnReorderRaisedSpec)

/-- 'laws.FnReorderLinesAnswer', WHERE WHAT IT READS IS OF BULK AT MOST 1048576: true; the input reads as it did. -/
def fnReorderLinesAnswerUptoRow : OpenClaim := { program := "ytlppmagjgodkjaa", sum := "f7bf43c01c7e8fd35b69d773550bc3e680cc989d00b5d3ef95aaa05e6e90d293", func := "loop.example/pub-g01449/laws.FnReorderLinesAnswer", spec := "fnReorderLinesAnswer", apart := false, narrowed := true }
def FnReorderLinesAnswerUptoSaid : Prop := fnReorderLinesAnswerUptoRow.holds Try.pinned (OpenSpec.upto fnReorderLinesAnswerSpec)

/-- 'laws.FnLinesApart', WHERE WHAT IT READS IS OF BULK AT MOST 1048576: true; the input reads as it did. -/
def fnLinesApartUptoRow : OpenClaim := { program := "ytlppmagjgodkjaa", sum := "f7bf43c01c7e8fd35b69d773550bc3e680cc989d00b5d3ef95aaa05e6e90d293", func := "loop.example/pub-g01449/laws.FnLinesApart", spec := "fnLinesApart", apart := false, narrowed := true }
def FnLinesApartUptoSaid : Prop := fnLinesApartUptoRow.holds Try.pinned (OpenSpec.upto fnLinesApartSpec)

end Rows
end Go.Proofs.Ytlppmagjgodkjaa
