/-
  NARROWER THAN 'FOR EVERY INPUT', by the rows' own cells (each row's printed sentence says how): FnExplicitAnswer: laid · FnExplicitDepth: laid · FnExplicitPlain: laid · FnLevelRunsAnswer: laid · FnRunsCover: laid · FnSequencesAnswer: laid · FnRunsInSequences: laid.
  DERIVED. THE GIVEN ROWS OF THIS SEAT. 7 by the template 'for every input the law returns true; each argument reads behind the call as it read before'; 0 by the template 'total and deterministic' (their statements: YtjelgbfgciaapaaDoorTotals.lean).
  GIVEN WITH THE SEED: the statements are not yours to turn. If you find one false, say at which input.
  Laid BY PROGRAM, IN A SANDBOX (cutbox-rows.mjs): the forced cells as the released guide's own fill.sh prints them over the translation deddfb365f377f7f… (all of the seat's roots in one cut). By AI agents, Wed Nov 11 2026. No macro, syntax, notation, axiom, sorry.
-/
import Derived.Test.YtjelgbfgciaapaaDoorChecked
import GoSem.Claim
import GoSem.ClaimJoined
import GoSem.ClaimMapViews
import Derived.JoinedTies
import Derived.KernelRfl
namespace Go.Proofs.YtjelgbfgciaapaaDoor
/- THE CELL 'sum', in the pinned program and in every row, IS THE sha256 OF THE DUMP (.gsa) THAT YtjelgbfgciaapaaDoorProg.lean LOADS. Nothing in Lean hashes anything: it is a label: what it is worth is what the hold of that sum in a sandbox is worth. -/
noncomputable def Tryd.pinned : Pinned := { name := "ytjelgbfgciaapaadoor", sum := "deddfb365f377f7f1b963137efb3772406ac48819c9ab6236c53e691ed7ad716", checked := Tryd.checked }
namespace Rows
def none {H : Type} : Left H := { results := [], args := [] }

/- WHAT THE LISTED PACKAGE-LEVEL VARIABLES READ AS WHEN THE CALL BEGINS. Each datum BY PROGRAM (the guide's laid-datum.mjs) off the statement by which the dump's own 'gosem.cut.vars' lays the variable. In a bare row this is a premise. The card (YtjelgbfgciaapaaDoorCards.lean) ties it to the program's text. -/
def laid_loop_example_pub_g01449_impl_classes {H : Type} : DataW H := .agg [.lit (.int .u64 0), .lit (.int .u64 1), .lit (.int .u64 2), .lit (.int .u64 3), .lit (.int .u64 4), .lit (.int .u64 5), .lit (.int .u64 6), .lit (.int .u64 7), .lit (.int .u64 8), .lit (.int .u64 9), .lit (.int .u64 10), .lit (.int .u64 11), .lit (.int .u64 12), .lit (.int .u64 13), .lit (.int .u64 16), .lit (.int .u64 17), .lit (.int .u64 18), .lit (.int .u64 19), .lit (.int .u64 20), .lit (.int .u64 21), .lit (.int .u64 22), .lit (.int .u64 23), .lit (.int .u64 24)]

/-- 'laws.FnExplicitAnswer': WHATEVER THE INPUT: true; the input reads as it did. -/
def fnExplicitAnswerSpec : ChangeSpec := { name := "fnExplicitAnswer", vars := ["loop.example/pub-g01449/impl.classes"], fn := fun _ => fun
  | [d1, d2, g1] => { results := [.lit (.bool true)], args := [d1, d2], vars := [g1] }
  | _ => none }
def fnExplicitAnswerRow : OpenClaim := { program := "ytjelgbfgciaapaadoor", sum := "deddfb365f377f7f1b963137efb3772406ac48819c9ab6236c53e691ed7ad716", func := "loop.example/pub-g01449/laws.FnExplicitAnswer", spec := "fnExplicitAnswer", named := ["loop.example/pub-g01449/impl.classes"], apart := false, laid := [("loop.example/pub-g01449/impl.classes", laid_loop_example_pub_g01449_impl_classes)] }
def FnExplicitAnswerSaid : Prop := fnExplicitAnswerRow.holds Tryd.pinned (OpenSpec.ofChange fnExplicitAnswerSpec)

/-- ITS FALSE NEIGHBOUR: 'it returns false'. Refute it at one input. -/
def fnExplicitAnswerWrong : ChangeSpec := { name := "fnExplicitAnswer", vars := ["loop.example/pub-g01449/impl.classes"], fn := fun _ => fun
  | [d1, d2, g1] => { results := [.lit (.bool false)], args := [d1, d2], vars := [g1] }
  | _ => none }
def FnExplicitAnswerWrongFalsely : Prop := fnExplicitAnswerRow.holds Tryd.pinned (OpenSpec.ofChange fnExplicitAnswerWrong)

/-- 'laws.FnExplicitDepth': WHATEVER THE INPUT: true; the input reads as it did. -/
def fnExplicitDepthSpec : ChangeSpec := { name := "fnExplicitDepth", vars := ["loop.example/pub-g01449/impl.classes"], fn := fun _ => fun
  | [d1, d2, g1] => { results := [.lit (.bool true)], args := [d1, d2], vars := [g1] }
  | _ => none }
def fnExplicitDepthRow : OpenClaim := { program := "ytjelgbfgciaapaadoor", sum := "deddfb365f377f7f1b963137efb3772406ac48819c9ab6236c53e691ed7ad716", func := "loop.example/pub-g01449/laws.FnExplicitDepth", spec := "fnExplicitDepth", named := ["loop.example/pub-g01449/impl.classes"], apart := false, laid := [("loop.example/pub-g01449/impl.classes", laid_loop_example_pub_g01449_impl_classes)] }
def FnExplicitDepthSaid : Prop := fnExplicitDepthRow.holds Tryd.pinned (OpenSpec.ofChange fnExplicitDepthSpec)

/-- ITS FALSE NEIGHBOUR: 'it returns false'. Refute it at one input. -/
def fnExplicitDepthWrong : ChangeSpec := { name := "fnExplicitDepth", vars := ["loop.example/pub-g01449/impl.classes"], fn := fun _ => fun
  | [d1, d2, g1] => { results := [.lit (.bool false)], args := [d1, d2], vars := [g1] }
  | _ => none }
def FnExplicitDepthWrongFalsely : Prop := fnExplicitDepthRow.holds Tryd.pinned (OpenSpec.ofChange fnExplicitDepthWrong)

/-- 'laws.FnExplicitPlain': WHATEVER THE INPUT: true; the input reads as it did. -/
def fnExplicitPlainSpec : ChangeSpec := { name := "fnExplicitPlain", vars := ["loop.example/pub-g01449/impl.classes"], fn := fun _ => fun
  | [d1, d2, g1] => { results := [.lit (.bool true)], args := [d1, d2], vars := [g1] }
  | _ => none }
def fnExplicitPlainRow : OpenClaim := { program := "ytjelgbfgciaapaadoor", sum := "deddfb365f377f7f1b963137efb3772406ac48819c9ab6236c53e691ed7ad716", func := "loop.example/pub-g01449/laws.FnExplicitPlain", spec := "fnExplicitPlain", named := ["loop.example/pub-g01449/impl.classes"], apart := false, laid := [("loop.example/pub-g01449/impl.classes", laid_loop_example_pub_g01449_impl_classes)] }
def FnExplicitPlainSaid : Prop := fnExplicitPlainRow.holds Tryd.pinned (OpenSpec.ofChange fnExplicitPlainSpec)

/-- ITS FALSE NEIGHBOUR: 'it returns false'. Refute it at one input. -/
def fnExplicitPlainWrong : ChangeSpec := { name := "fnExplicitPlain", vars := ["loop.example/pub-g01449/impl.classes"], fn := fun _ => fun
  | [d1, d2, g1] => { results := [.lit (.bool false)], args := [d1, d2], vars := [g1] }
  | _ => none }
def FnExplicitPlainWrongFalsely : Prop := fnExplicitPlainRow.holds Tryd.pinned (OpenSpec.ofChange fnExplicitPlainWrong)

/-- 'laws.FnLevelRunsAnswer': WHATEVER THE INPUT: true; the input reads as it did. -/
def fnLevelRunsAnswerSpec : ChangeSpec := { name := "fnLevelRunsAnswer", vars := ["loop.example/pub-g01449/impl.classes"], fn := fun _ => fun
  | [d1, d2, g1] => { results := [.lit (.bool true)], args := [d1, d2], vars := [g1] }
  | _ => none }
def fnLevelRunsAnswerRow : OpenClaim := { program := "ytjelgbfgciaapaadoor", sum := "deddfb365f377f7f1b963137efb3772406ac48819c9ab6236c53e691ed7ad716", func := "loop.example/pub-g01449/laws.FnLevelRunsAnswer", spec := "fnLevelRunsAnswer", named := ["loop.example/pub-g01449/impl.classes"], apart := false, laid := [("loop.example/pub-g01449/impl.classes", laid_loop_example_pub_g01449_impl_classes)] }
def FnLevelRunsAnswerSaid : Prop := fnLevelRunsAnswerRow.holds Tryd.pinned (OpenSpec.ofChange fnLevelRunsAnswerSpec)

/-- ITS FALSE NEIGHBOUR: 'it returns false'. Refute it at one input. -/
def fnLevelRunsAnswerWrong : ChangeSpec := { name := "fnLevelRunsAnswer", vars := ["loop.example/pub-g01449/impl.classes"], fn := fun _ => fun
  | [d1, d2, g1] => { results := [.lit (.bool false)], args := [d1, d2], vars := [g1] }
  | _ => none }
def FnLevelRunsAnswerWrongFalsely : Prop := fnLevelRunsAnswerRow.holds Tryd.pinned (OpenSpec.ofChange fnLevelRunsAnswerWrong)

/-- 'laws.FnRunsCover': WHATEVER THE INPUT: true; the input reads as it did. -/
def fnRunsCoverSpec : ChangeSpec := { name := "fnRunsCover", vars := ["loop.example/pub-g01449/impl.classes"], fn := fun _ => fun
  | [d1, d2, g1] => { results := [.lit (.bool true)], args := [d1, d2], vars := [g1] }
  | _ => none }
def fnRunsCoverRow : OpenClaim := { program := "ytjelgbfgciaapaadoor", sum := "deddfb365f377f7f1b963137efb3772406ac48819c9ab6236c53e691ed7ad716", func := "loop.example/pub-g01449/laws.FnRunsCover", spec := "fnRunsCover", named := ["loop.example/pub-g01449/impl.classes"], apart := false, laid := [("loop.example/pub-g01449/impl.classes", laid_loop_example_pub_g01449_impl_classes)] }
def FnRunsCoverSaid : Prop := fnRunsCoverRow.holds Tryd.pinned (OpenSpec.ofChange fnRunsCoverSpec)

/-- ITS FALSE NEIGHBOUR: 'it returns false'. Refute it at one input. -/
def fnRunsCoverWrong : ChangeSpec := { name := "fnRunsCover", vars := ["loop.example/pub-g01449/impl.classes"], fn := fun _ => fun
  | [d1, d2, g1] => { results := [.lit (.bool false)], args := [d1, d2], vars := [g1] }
  | _ => none }
def FnRunsCoverWrongFalsely : Prop := fnRunsCoverRow.holds Tryd.pinned (OpenSpec.ofChange fnRunsCoverWrong)

/-- 'laws.FnSequencesAnswer': WHATEVER THE INPUT: true; the input reads as it did. -/
def fnSequencesAnswerSpec : ChangeSpec := { name := "fnSequencesAnswer", vars := ["loop.example/pub-g01449/impl.classes"], fn := fun _ => fun
  | [d1, d2, g1] => { results := [.lit (.bool true)], args := [d1, d2], vars := [g1] }
  | _ => none }
def fnSequencesAnswerRow : OpenClaim := { program := "ytjelgbfgciaapaadoor", sum := "deddfb365f377f7f1b963137efb3772406ac48819c9ab6236c53e691ed7ad716", func := "loop.example/pub-g01449/laws.FnSequencesAnswer", spec := "fnSequencesAnswer", named := ["loop.example/pub-g01449/impl.classes"], apart := false, laid := [("loop.example/pub-g01449/impl.classes", laid_loop_example_pub_g01449_impl_classes)] }
def FnSequencesAnswerSaid : Prop := fnSequencesAnswerRow.holds Tryd.pinned (OpenSpec.ofChange fnSequencesAnswerSpec)

/-- ITS FALSE NEIGHBOUR: 'it returns false'. Refute it at one input. -/
def fnSequencesAnswerWrong : ChangeSpec := { name := "fnSequencesAnswer", vars := ["loop.example/pub-g01449/impl.classes"], fn := fun _ => fun
  | [d1, d2, g1] => { results := [.lit (.bool false)], args := [d1, d2], vars := [g1] }
  | _ => none }
def FnSequencesAnswerWrongFalsely : Prop := fnSequencesAnswerRow.holds Tryd.pinned (OpenSpec.ofChange fnSequencesAnswerWrong)

/-- 'laws.FnRunsInSequences': WHATEVER THE INPUT: true; the input reads as it did. -/
def fnRunsInSequencesSpec : ChangeSpec := { name := "fnRunsInSequences", vars := ["loop.example/pub-g01449/impl.classes"], fn := fun _ => fun
  | [d1, d2, g1] => { results := [.lit (.bool true)], args := [d1, d2], vars := [g1] }
  | _ => none }
def fnRunsInSequencesRow : OpenClaim := { program := "ytjelgbfgciaapaadoor", sum := "deddfb365f377f7f1b963137efb3772406ac48819c9ab6236c53e691ed7ad716", func := "loop.example/pub-g01449/laws.FnRunsInSequences", spec := "fnRunsInSequences", named := ["loop.example/pub-g01449/impl.classes"], apart := false, laid := [("loop.example/pub-g01449/impl.classes", laid_loop_example_pub_g01449_impl_classes)] }
def FnRunsInSequencesSaid : Prop := fnRunsInSequencesRow.holds Tryd.pinned (OpenSpec.ofChange fnRunsInSequencesSpec)

/-- ITS FALSE NEIGHBOUR: 'it returns false'. Refute it at one input. -/
def fnRunsInSequencesWrong : ChangeSpec := { name := "fnRunsInSequences", vars := ["loop.example/pub-g01449/impl.classes"], fn := fun _ => fun
  | [d1, d2, g1] => { results := [.lit (.bool false)], args := [d1, d2], vars := [g1] }
  | _ => none }
def FnRunsInSequencesWrongFalsely : Prop := fnRunsInSequencesRow.holds Tryd.pinned (OpenSpec.ofChange fnRunsInSequencesWrong)

/- THE SECOND FORM. 'bulk': how many values and letters a reading holds, each counted each time it is reached (what is shared counts as often as it is met; a slice's spare places count too). A statement '..UptoSaid' is the law's where the arguments, and the package variables that the reading takes, are together of bulk at most 1048576: NARROWER than '..Said'. Prove '..Said' where nothing that the law and all that it calls make is longer than what came in: it says more and counts as full. Else prove '..UptoSaid'. A law counts once. -/
mutual
def uptoBulk {H : Type} : DataW H → Nat
  | .lit (.string bytes) => bytes.length + 1
  | .lit _ => 1
  | .nil => 1
  | .ptr d => uptoBulk d + 1
  | .slice elems spare => uptoBulkAll elems + uptoBulkAll spare + 1
  | .agg parts => uptoBulkAll parts + 1
  | .iface _ d => uptoBulk d + 1
  | .map entries => uptoBulkEntries entries + 1
  | .held _ => 1
def uptoBulkAll {H : Type} : List (DataW H) → Nat
  | [] => 0
  | d :: r => uptoBulk d + uptoBulkAll r
def uptoBulkEntries {H : Type} : List (Lit × DataW H) → Nat
  | [] => 0
  | x :: r => uptoBulkEntry x + uptoBulkEntries r
def uptoBulkEntry {H : Type} : Lit × DataW H → Nat
  | (.string bytes, d) => bytes.length + uptoBulk d + 1
  | (_, d) => uptoBulk d + 1
 end
def uptoSmall : (H : Type) → List (DataW H) → Bool := fun _ ds => decide (uptoBulkAll ds ≤ 1048576)
def OpenSpec.upto (s : _root_.Go.ChangeSpec) : _root_.Go.OpenSpec := { _root_.Go.OpenSpec.ofChange s with cond := some uptoSmall }

/-- 'laws.FnExplicitAnswer', WHERE WHAT IT READS IS OF BULK AT MOST 1048576: true; the input reads as it did. -/
def fnExplicitAnswerUptoRow : OpenClaim := { program := "ytjelgbfgciaapaadoor", sum := "deddfb365f377f7f1b963137efb3772406ac48819c9ab6236c53e691ed7ad716", func := "loop.example/pub-g01449/laws.FnExplicitAnswer", spec := "fnExplicitAnswer", named := ["loop.example/pub-g01449/impl.classes"], apart := false, laid := [("loop.example/pub-g01449/impl.classes", laid_loop_example_pub_g01449_impl_classes)], narrowed := true }
def FnExplicitAnswerUptoSaid : Prop := fnExplicitAnswerUptoRow.holds Tryd.pinned (OpenSpec.upto fnExplicitAnswerSpec)

/-- 'laws.FnExplicitDepth', WHERE WHAT IT READS IS OF BULK AT MOST 1048576: true; the input reads as it did. -/
def fnExplicitDepthUptoRow : OpenClaim := { program := "ytjelgbfgciaapaadoor", sum := "deddfb365f377f7f1b963137efb3772406ac48819c9ab6236c53e691ed7ad716", func := "loop.example/pub-g01449/laws.FnExplicitDepth", spec := "fnExplicitDepth", named := ["loop.example/pub-g01449/impl.classes"], apart := false, laid := [("loop.example/pub-g01449/impl.classes", laid_loop_example_pub_g01449_impl_classes)], narrowed := true }
def FnExplicitDepthUptoSaid : Prop := fnExplicitDepthUptoRow.holds Tryd.pinned (OpenSpec.upto fnExplicitDepthSpec)

/-- 'laws.FnExplicitPlain', WHERE WHAT IT READS IS OF BULK AT MOST 1048576: true; the input reads as it did. -/
def fnExplicitPlainUptoRow : OpenClaim := { program := "ytjelgbfgciaapaadoor", sum := "deddfb365f377f7f1b963137efb3772406ac48819c9ab6236c53e691ed7ad716", func := "loop.example/pub-g01449/laws.FnExplicitPlain", spec := "fnExplicitPlain", named := ["loop.example/pub-g01449/impl.classes"], apart := false, laid := [("loop.example/pub-g01449/impl.classes", laid_loop_example_pub_g01449_impl_classes)], narrowed := true }
def FnExplicitPlainUptoSaid : Prop := fnExplicitPlainUptoRow.holds Tryd.pinned (OpenSpec.upto fnExplicitPlainSpec)

/-- 'laws.FnLevelRunsAnswer', WHERE WHAT IT READS IS OF BULK AT MOST 1048576: true; the input reads as it did. -/
def fnLevelRunsAnswerUptoRow : OpenClaim := { program := "ytjelgbfgciaapaadoor", sum := "deddfb365f377f7f1b963137efb3772406ac48819c9ab6236c53e691ed7ad716", func := "loop.example/pub-g01449/laws.FnLevelRunsAnswer", spec := "fnLevelRunsAnswer", named := ["loop.example/pub-g01449/impl.classes"], apart := false, laid := [("loop.example/pub-g01449/impl.classes", laid_loop_example_pub_g01449_impl_classes)], narrowed := true }
def FnLevelRunsAnswerUptoSaid : Prop := fnLevelRunsAnswerUptoRow.holds Tryd.pinned (OpenSpec.upto fnLevelRunsAnswerSpec)

/-- 'laws.FnRunsCover', WHERE WHAT IT READS IS OF BULK AT MOST 1048576: true; the input reads as it did. -/
def fnRunsCoverUptoRow : OpenClaim := { program := "ytjelgbfgciaapaadoor", sum := "deddfb365f377f7f1b963137efb3772406ac48819c9ab6236c53e691ed7ad716", func := "loop.example/pub-g01449/laws.FnRunsCover", spec := "fnRunsCover", named := ["loop.example/pub-g01449/impl.classes"], apart := false, laid := [("loop.example/pub-g01449/impl.classes", laid_loop_example_pub_g01449_impl_classes)], narrowed := true }
def FnRunsCoverUptoSaid : Prop := fnRunsCoverUptoRow.holds Tryd.pinned (OpenSpec.upto fnRunsCoverSpec)

/-- 'laws.FnSequencesAnswer', WHERE WHAT IT READS IS OF BULK AT MOST 1048576: true; the input reads as it did. -/
def fnSequencesAnswerUptoRow : OpenClaim := { program := "ytjelgbfgciaapaadoor", sum := "deddfb365f377f7f1b963137efb3772406ac48819c9ab6236c53e691ed7ad716", func := "loop.example/pub-g01449/laws.FnSequencesAnswer", spec := "fnSequencesAnswer", named := ["loop.example/pub-g01449/impl.classes"], apart := false, laid := [("loop.example/pub-g01449/impl.classes", laid_loop_example_pub_g01449_impl_classes)], narrowed := true }
def FnSequencesAnswerUptoSaid : Prop := fnSequencesAnswerUptoRow.holds Tryd.pinned (OpenSpec.upto fnSequencesAnswerSpec)

/-- 'laws.FnRunsInSequences', WHERE WHAT IT READS IS OF BULK AT MOST 1048576: true; the input reads as it did. -/
def fnRunsInSequencesUptoRow : OpenClaim := { program := "ytjelgbfgciaapaadoor", sum := "deddfb365f377f7f1b963137efb3772406ac48819c9ab6236c53e691ed7ad716", func := "loop.example/pub-g01449/laws.FnRunsInSequences", spec := "fnRunsInSequences", named := ["loop.example/pub-g01449/impl.classes"], apart := false, laid := [("loop.example/pub-g01449/impl.classes", laid_loop_example_pub_g01449_impl_classes)], narrowed := true }
def FnRunsInSequencesUptoSaid : Prop := fnRunsInSequencesUptoRow.holds Tryd.pinned (OpenSpec.upto fnRunsInSequencesSpec)

end Rows
end Go.Proofs.YtjelgbfgciaapaaDoor
