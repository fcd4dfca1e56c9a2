/-
  NARROWER THAN 'FOR EVERY INPUT', by the rows' own cells (each row's printed sentence says how): FnPlainRow: laid · FnBoundaryNeutrals: laid · FnFollowingText: laid · FnIsolatesAreClosed: laid · FnMirrored: laid · FnSides: laid · FnParagraphLevel: laid.
  DERIVED. THE GIVEN ROWS OF THIS SEAT. 7 by the template 'for every input the law returns true; each argument reads behind the call as it read before'; 0 by the template 'total and deterministic' (their statements: YtkocpijloiamcaaDoorTotals.lean).
  GIVEN WITH THE SEED: the statements are not yours to turn. If you find one false, say at which input.
  Laid BY PROGRAM, IN A SANDBOX (cutbox-rows.mjs): the forced cells as the released guide's own fill.sh prints them over the translation fb481c48d04d48ea… (all of the seat's roots in one cut). By AI agents, Wed Nov 11 2026. No macro, syntax, notation, axiom, sorry.
-/
import Derived.Test.YtkocpijloiamcaaDoorChecked
import GoSem.Claim
import GoSem.ClaimJoined
import GoSem.ClaimMapViews
import Derived.JoinedTies
import Derived.KernelRfl
namespace Go.Proofs.YtkocpijloiamcaaDoor
/- THE CELL 'sum', in the pinned program and in every row, IS THE sha256 OF THE DUMP (.gsa) THAT YtkocpijloiamcaaDoorProg.lean LOADS. Nothing in Lean hashes anything: it is a label: what it is worth is what the hold of that sum in a sandbox is worth. -/
noncomputable def Tryd.pinned : Pinned := { name := "ytkocpijloiamcaadoor", sum := "fb481c48d04d48ea47a2aff429c617e731160fd54936c3de340dc8d13b5a7c9c", checked := Tryd.checked }
namespace Rows
def none {H : Type} : Left H := { results := [], args := [] }

/- WHAT THE LISTED PACKAGE-LEVEL VARIABLES READ AS WHEN THE CALL BEGINS. Each datum BY PROGRAM (the guide's laid-datum.mjs) off the statement by which the dump's own 'gosem.cut.vars' lays the variable. In a bare row this is a premise. The card (YtkocpijloiamcaaDoorCards.lean) ties it to the program's text. -/
def laid_loop_example_pub_g01449_impl_classes {H : Type} : DataW H := .agg [.lit (.int .u64 0), .lit (.int .u64 1), .lit (.int .u64 2), .lit (.int .u64 3), .lit (.int .u64 4), .lit (.int .u64 5), .lit (.int .u64 6), .lit (.int .u64 7), .lit (.int .u64 8), .lit (.int .u64 9), .lit (.int .u64 10), .lit (.int .u64 11), .lit (.int .u64 12), .lit (.int .u64 13), .lit (.int .u64 16), .lit (.int .u64 17), .lit (.int .u64 18), .lit (.int .u64 19), .lit (.int .u64 20), .lit (.int .u64 21), .lit (.int .u64 22), .lit (.int .u64 23), .lit (.int .u64 24)]

/-- 'laws.FnPlainRow': WHATEVER THE INPUT: true; the input reads as it did. -/
def fnPlainRowSpec : ChangeSpec := { name := "fnPlainRow", vars := ["loop.example/pub-g01449/impl.classes"], fn := fun _ => fun
  | [d1, d2, g1] => { results := [.lit (.bool true)], args := [d1, d2], vars := [g1] }
  | _ => none }
def fnPlainRowRow : OpenClaim := { program := "ytkocpijloiamcaadoor", sum := "fb481c48d04d48ea47a2aff429c617e731160fd54936c3de340dc8d13b5a7c9c", func := "loop.example/pub-g01449/laws.FnPlainRow", spec := "fnPlainRow", unfollowed := true, recurses := true, named := ["loop.example/pub-g01449/impl.classes"], apart := false, laid := [("loop.example/pub-g01449/impl.classes", laid_loop_example_pub_g01449_impl_classes)] }
def FnPlainRowSaid : Prop := fnPlainRowRow.holds Tryd.pinned (OpenSpec.ofChange fnPlainRowSpec)

/-- ITS FALSE NEIGHBOUR: 'it returns false'. Refute it at one input. -/
def fnPlainRowWrong : ChangeSpec := { name := "fnPlainRow", vars := ["loop.example/pub-g01449/impl.classes"], fn := fun _ => fun
  | [d1, d2, g1] => { results := [.lit (.bool false)], args := [d1, d2], vars := [g1] }
  | _ => none }
def FnPlainRowWrongFalsely : Prop := fnPlainRowRow.holds Tryd.pinned (OpenSpec.ofChange fnPlainRowWrong)

/-- 'laws.FnBoundaryNeutrals': WHATEVER THE INPUT: true; the input reads as it did. -/
def fnBoundaryNeutralsSpec : ChangeSpec := { name := "fnBoundaryNeutrals", vars := ["loop.example/pub-g01449/impl.classes"], fn := fun _ => fun
  | [d1, d2, d3, d4, g1] => { results := [.lit (.bool true)], args := [d1, d2, d3, d4], vars := [g1] }
  | _ => none }
def fnBoundaryNeutralsRow : OpenClaim := { program := "ytkocpijloiamcaadoor", sum := "fb481c48d04d48ea47a2aff429c617e731160fd54936c3de340dc8d13b5a7c9c", func := "loop.example/pub-g01449/laws.FnBoundaryNeutrals", spec := "fnBoundaryNeutrals", unfollowed := true, recurses := true, named := ["loop.example/pub-g01449/impl.classes"], apart := false, laid := [("loop.example/pub-g01449/impl.classes", laid_loop_example_pub_g01449_impl_classes)] }
def FnBoundaryNeutralsSaid : Prop := fnBoundaryNeutralsRow.holds Tryd.pinned (OpenSpec.ofChange fnBoundaryNeutralsSpec)

/-- ITS FALSE NEIGHBOUR: 'it returns false'. Refute it at one input. -/
def fnBoundaryNeutralsWrong : ChangeSpec := { name := "fnBoundaryNeutrals", vars := ["loop.example/pub-g01449/impl.classes"], fn := fun _ => fun
  | [d1, d2, d3, d4, g1] => { results := [.lit (.bool false)], args := [d1, d2, d3, d4], vars := [g1] }
  | _ => none }
def FnBoundaryNeutralsWrongFalsely : Prop := fnBoundaryNeutralsRow.holds Tryd.pinned (OpenSpec.ofChange fnBoundaryNeutralsWrong)

/-- 'laws.FnFollowingText': WHATEVER THE INPUT: true; the input reads as it did. -/
def fnFollowingTextSpec : ChangeSpec := { name := "fnFollowingText", vars := ["loop.example/pub-g01449/impl.classes"], fn := fun _ => fun
  | [d1, d2, d3, d4, g1] => { results := [.lit (.bool true)], args := [d1, d2, d3, d4], vars := [g1] }
  | _ => none }
def fnFollowingTextRow : OpenClaim := { program := "ytkocpijloiamcaadoor", sum := "fb481c48d04d48ea47a2aff429c617e731160fd54936c3de340dc8d13b5a7c9c", func := "loop.example/pub-g01449/laws.FnFollowingText", spec := "fnFollowingText", unfollowed := true, recurses := true, named := ["loop.example/pub-g01449/impl.classes"], apart := false, laid := [("loop.example/pub-g01449/impl.classes", laid_loop_example_pub_g01449_impl_classes)] }
def FnFollowingTextSaid : Prop := fnFollowingTextRow.holds Tryd.pinned (OpenSpec.ofChange fnFollowingTextSpec)

/-- ITS FALSE NEIGHBOUR: 'it returns false'. Refute it at one input. -/
def fnFollowingTextWrong : ChangeSpec := { name := "fnFollowingText", vars := ["loop.example/pub-g01449/impl.classes"], fn := fun _ => fun
  | [d1, d2, d3, d4, g1] => { results := [.lit (.bool false)], args := [d1, d2, d3, d4], vars := [g1] }
  | _ => none }
def FnFollowingTextWrongFalsely : Prop := fnFollowingTextRow.holds Tryd.pinned (OpenSpec.ofChange fnFollowingTextWrong)

/-- 'laws.FnIsolatesAreClosed': WHATEVER THE INPUT: true; the input reads as it did. -/
def fnIsolatesAreClosedSpec : ChangeSpec := { name := "fnIsolatesAreClosed", vars := ["loop.example/pub-g01449/impl.classes"], fn := fun _ => fun
  | [d1, d2, d3, d4, d5, d6, g1] => { results := [.lit (.bool true)], args := [d1, d2, d3, d4, d5, d6], vars := [g1] }
  | _ => none }
def fnIsolatesAreClosedRow : OpenClaim := { program := "ytkocpijloiamcaadoor", sum := "fb481c48d04d48ea47a2aff429c617e731160fd54936c3de340dc8d13b5a7c9c", func := "loop.example/pub-g01449/laws.FnIsolatesAreClosed", spec := "fnIsolatesAreClosed", unfollowed := true, recurses := true, named := ["loop.example/pub-g01449/impl.classes"], apart := false, laid := [("loop.example/pub-g01449/impl.classes", laid_loop_example_pub_g01449_impl_classes)] }
def FnIsolatesAreClosedSaid : Prop := fnIsolatesAreClosedRow.holds Tryd.pinned (OpenSpec.ofChange fnIsolatesAreClosedSpec)

/-- ITS FALSE NEIGHBOUR: 'it returns false'. Refute it at one input. -/
def fnIsolatesAreClosedWrong : ChangeSpec := { name := "fnIsolatesAreClosed", vars := ["loop.example/pub-g01449/impl.classes"], fn := fun _ => fun
  | [d1, d2, d3, d4, d5, d6, g1] => { results := [.lit (.bool false)], args := [d1, d2, d3, d4, d5, d6], vars := [g1] }
  | _ => none }
def FnIsolatesAreClosedWrongFalsely : Prop := fnIsolatesAreClosedRow.holds Tryd.pinned (OpenSpec.ofChange fnIsolatesAreClosedWrong)

/-- 'laws.FnMirrored': WHATEVER THE INPUT: true; the input reads as it did. -/
def fnMirroredSpec : ChangeSpec := { name := "fnMirrored", vars := ["loop.example/pub-g01449/impl.classes"], fn := fun _ => fun
  | [d1, d2, d3, g1] => { results := [.lit (.bool true)], args := [d1, d2, d3], vars := [g1] }
  | _ => none }
def fnMirroredRow : OpenClaim := { program := "ytkocpijloiamcaadoor", sum := "fb481c48d04d48ea47a2aff429c617e731160fd54936c3de340dc8d13b5a7c9c", func := "loop.example/pub-g01449/laws.FnMirrored", spec := "fnMirrored", unfollowed := true, recurses := true, named := ["loop.example/pub-g01449/impl.classes"], apart := false, laid := [("loop.example/pub-g01449/impl.classes", laid_loop_example_pub_g01449_impl_classes)] }
def FnMirroredSaid : Prop := fnMirroredRow.holds Tryd.pinned (OpenSpec.ofChange fnMirroredSpec)

/-- ITS FALSE NEIGHBOUR: 'it returns false'. Refute it at one input. -/
def fnMirroredWrong : ChangeSpec := { name := "fnMirrored", vars := ["loop.example/pub-g01449/impl.classes"], fn := fun _ => fun
  | [d1, d2, d3, g1] => { results := [.lit (.bool false)], args := [d1, d2, d3], vars := [g1] }
  | _ => none }
def FnMirroredWrongFalsely : Prop := fnMirroredRow.holds Tryd.pinned (OpenSpec.ofChange fnMirroredWrong)

/-- 'laws.FnSides': WHATEVER THE INPUT: true; the input reads as it did. -/
def fnSidesSpec : ChangeSpec := { name := "fnSides", vars := ["loop.example/pub-g01449/impl.classes"], fn := fun _ => fun
  | [d1, d2, d3, d4, g1] => { results := [.lit (.bool true)], args := [d1, d2, d3, d4], vars := [g1] }
  | _ => none }
def fnSidesRow : OpenClaim := { program := "ytkocpijloiamcaadoor", sum := "fb481c48d04d48ea47a2aff429c617e731160fd54936c3de340dc8d13b5a7c9c", func := "loop.example/pub-g01449/laws.FnSides", spec := "fnSides", unfollowed := true, recurses := true, named := ["loop.example/pub-g01449/impl.classes"], apart := false, laid := [("loop.example/pub-g01449/impl.classes", laid_loop_example_pub_g01449_impl_classes)] }
def FnSidesSaid : Prop := fnSidesRow.holds Tryd.pinned (OpenSpec.ofChange fnSidesSpec)

/-- ITS FALSE NEIGHBOUR: 'it returns false'. Refute it at one input. -/
def fnSidesWrong : ChangeSpec := { name := "fnSides", vars := ["loop.example/pub-g01449/impl.classes"], fn := fun _ => fun
  | [d1, d2, d3, d4, g1] => { results := [.lit (.bool false)], args := [d1, d2, d3, d4], vars := [g1] }
  | _ => none }
def FnSidesWrongFalsely : Prop := fnSidesRow.holds Tryd.pinned (OpenSpec.ofChange fnSidesWrong)

/-- 'laws.FnParagraphLevel': WHATEVER THE INPUT: true; the input reads as it did. -/
def fnParagraphLevelSpec : ChangeSpec := { name := "fnParagraphLevel", vars := ["loop.example/pub-g01449/impl.classes"], fn := fun _ => fun
  | [d1, d2, d3, g1] => { results := [.lit (.bool true)], args := [d1, d2, d3], vars := [g1] }
  | _ => none }
def fnParagraphLevelRow : OpenClaim := { program := "ytkocpijloiamcaadoor", sum := "fb481c48d04d48ea47a2aff429c617e731160fd54936c3de340dc8d13b5a7c9c", func := "loop.example/pub-g01449/laws.FnParagraphLevel", spec := "fnParagraphLevel", unfollowed := true, recurses := true, named := ["loop.example/pub-g01449/impl.classes"], apart := false, laid := [("loop.example/pub-g01449/impl.classes", laid_loop_example_pub_g01449_impl_classes)] }
def FnParagraphLevelSaid : Prop := fnParagraphLevelRow.holds Tryd.pinned (OpenSpec.ofChange fnParagraphLevelSpec)

/-- ITS FALSE NEIGHBOUR: 'it returns false'. Refute it at one input. -/
def fnParagraphLevelWrong : ChangeSpec := { name := "fnParagraphLevel", vars := ["loop.example/pub-g01449/impl.classes"], fn := fun _ => fun
  | [d1, d2, d3, g1] => { results := [.lit (.bool false)], args := [d1, d2, d3], vars := [g1] }
  | _ => none }
def FnParagraphLevelWrongFalsely : Prop := fnParagraphLevelRow.holds Tryd.pinned (OpenSpec.ofChange fnParagraphLevelWrong)

/- THE SECOND FORM. 'bulk': how many values and letters a reading holds, each counted each time it is reached (what is shared counts as often as it is met; a slice's spare places count too). A statement '..UptoSaid' is the law's where the arguments, and the package variables that the reading takes, are together of bulk at most 1048576: NARROWER than '..Said'. Prove '..Said' where nothing that the law and all that it calls make is longer than what came in: it says more and counts as full. Else prove '..UptoSaid'. A law counts once. -/
mutual
def uptoBulk {H : Type} : DataW H → Nat
  | .lit (.string bytes) => bytes.length + 1
  | .lit _ => 1
  | .nil => 1
  | .ptr d => uptoBulk d + 1
  | .slice elems spare => uptoBulkAll elems + uptoBulkAll spare + 1
  | .agg parts => uptoBulkAll parts + 1
  | .iface _ d => uptoBulk d + 1
  | .map entries => uptoBulkEntries entries + 1
  | .held _ => 1
def uptoBulkAll {H : Type} : List (DataW H) → Nat
  | [] => 0
  | d :: r => uptoBulk d + uptoBulkAll r
def uptoBulkEntries {H : Type} : List (Lit × DataW H) → Nat
  | [] => 0
  | x :: r => uptoBulkEntry x + uptoBulkEntries r
def uptoBulkEntry {H : Type} : Lit × DataW H → Nat
  | (.string bytes, d) => bytes.length + uptoBulk d + 1
  | (_, d) => uptoBulk d + 1
 end
def uptoSmall : (H : Type) → List (DataW H) → Bool := fun _ ds => decide (uptoBulkAll ds ≤ 1048576)
def OpenSpec.upto (s : _root_.Go.ChangeSpec) : _root_.Go.OpenSpec := { _root_.Go.OpenSpec.ofChange s with cond := some uptoSmall }

/-- 'laws.FnPlainRow', WHERE WHAT IT READS IS OF BULK AT MOST 1048576: true; the input reads as it did. -/
def fnPlainRowUptoRow : OpenClaim := { program := "ytkocpijloiamcaadoor", sum := "fb481c48d04d48ea47a2aff429c617e731160fd54936c3de340dc8d13b5a7c9c", func := "loop.example/pub-g01449/laws.FnPlainRow", spec := "fnPlainRow", unfollowed := true, recurses := true, named := ["loop.example/pub-g01449/impl.classes"], apart := false, laid := [("loop.example/pub-g01449/impl.classes", laid_loop_example_pub_g01449_impl_classes)], narrowed := true }
def FnPlainRowUptoSaid : Prop := fnPlainRowUptoRow.holds Tryd.pinned (OpenSpec.upto fnPlainRowSpec)

/-- 'laws.FnBoundaryNeutrals', WHERE WHAT IT READS IS OF BULK AT MOST 1048576: true; the input reads as it did. -/
def fnBoundaryNeutralsUptoRow : OpenClaim := { program := "ytkocpijloiamcaadoor", sum := "fb481c48d04d48ea47a2aff429c617e731160fd54936c3de340dc8d13b5a7c9c", func := "loop.example/pub-g01449/laws.FnBoundaryNeutrals", spec := "fnBoundaryNeutrals", unfollowed := true, recurses := true, named := ["loop.example/pub-g01449/impl.classes"], apart := false, laid := [("loop.example/pub-g01449/impl.classes", laid_loop_example_pub_g01449_impl_classes)], narrowed := true }
def FnBoundaryNeutralsUptoSaid : Prop := fnBoundaryNeutralsUptoRow.holds Tryd.pinned (OpenSpec.upto fnBoundaryNeutralsSpec)

/-- 'laws.FnFollowingText', WHERE WHAT IT READS IS OF BULK AT MOST 1048576: true; the input reads as it did. -/
def fnFollowingTextUptoRow : OpenClaim := { program := "ytkocpijloiamcaadoor", sum := "fb481c48d04d48ea47a2aff429c617e731160fd54936c3de340dc8d13b5a7c9c", func := "loop.example/pub-g01449/laws.FnFollowingText", spec := "fnFollowingText", unfollowed := true, recurses := true, named := ["loop.example/pub-g01449/impl.classes"], apart := false, laid := [("loop.example/pub-g01449/impl.classes", laid_loop_example_pub_g01449_impl_classes)], narrowed := true }
def FnFollowingTextUptoSaid : Prop := fnFollowingTextUptoRow.holds Tryd.pinned (OpenSpec.upto fnFollowingTextSpec)

/-- 'laws.FnIsolatesAreClosed', WHERE WHAT IT READS IS OF BULK AT MOST 1048576: true; the input reads as it did. -/
def fnIsolatesAreClosedUptoRow : OpenClaim := { program := "ytkocpijloiamcaadoor", sum := "fb481c48d04d48ea47a2aff429c617e731160fd54936c3de340dc8d13b5a7c9c", func := "loop.example/pub-g01449/laws.FnIsolatesAreClosed", spec := "fnIsolatesAreClosed", unfollowed := true, recurses := true, named := ["loop.example/pub-g01449/impl.classes"], apart := false, laid := [("loop.example/pub-g01449/impl.classes", laid_loop_example_pub_g01449_impl_classes)], narrowed := true }
def FnIsolatesAreClosedUptoSaid : Prop := fnIsolatesAreClosedUptoRow.holds Tryd.pinned (OpenSpec.upto fnIsolatesAreClosedSpec)

/-- 'laws.FnMirrored', WHERE WHAT IT READS IS OF BULK AT MOST 1048576: true; the input reads as it did. -/
def fnMirroredUptoRow : OpenClaim := { program := "ytkocpijloiamcaadoor", sum := "fb481c48d04d48ea47a2aff429c617e731160fd54936c3de340dc8d13b5a7c9c", func := "loop.example/pub-g01449/laws.FnMirrored", spec := "fnMirrored", unfollowed := true, recurses := true, named := ["loop.example/pub-g01449/impl.classes"], apart := false, laid := [("loop.example/pub-g01449/impl.classes", laid_loop_example_pub_g01449_impl_classes)], narrowed := true }
def FnMirroredUptoSaid : Prop := fnMirroredUptoRow.holds Tryd.pinned (OpenSpec.upto fnMirroredSpec)

/-- 'laws.FnSides', WHERE WHAT IT READS IS OF BULK AT MOST 1048576: true; the input reads as it did. -/
def fnSidesUptoRow : OpenClaim := { program := "ytkocpijloiamcaadoor", sum := "fb481c48d04d48ea47a2aff429c617e731160fd54936c3de340dc8d13b5a7c9c", func := "loop.example/pub-g01449/laws.FnSides", spec := "fnSides", unfollowed := true, recurses := true, named := ["loop.example/pub-g01449/impl.classes"], apart := false, laid := [("loop.example/pub-g01449/impl.classes", laid_loop_example_pub_g01449_impl_classes)], narrowed := true }
def FnSidesUptoSaid : Prop := fnSidesUptoRow.holds Tryd.pinned (OpenSpec.upto fnSidesSpec)

/-- 'laws.FnParagraphLevel', WHERE WHAT IT READS IS OF BULK AT MOST 1048576: true; the input reads as it did. -/
def fnParagraphLevelUptoRow : OpenClaim := { program := "ytkocpijloiamcaadoor", sum := "fb481c48d04d48ea47a2aff429c617e731160fd54936c3de340dc8d13b5a7c9c", func := "loop.example/pub-g01449/laws.FnParagraphLevel", spec := "fnParagraphLevel", unfollowed := true, recurses := true, named := ["loop.example/pub-g01449/impl.classes"], apart := false, laid := [("loop.example/pub-g01449/impl.classes", laid_loop_example_pub_g01449_impl_classes)], narrowed := true }
def FnParagraphLevelUptoSaid : Prop := fnParagraphLevelUptoRow.holds Tryd.pinned (OpenSpec.upto fnParagraphLevelSpec)

end Rows
end Go.Proofs.YtkocpijloiamcaaDoor
