/-
  NARROWER THAN 'FOR EVERY INPUT', by the rows' own cells (each row's printed sentence says how): FnIsolatesAnswer: laid · FnIsolatesMatch: laid · FnEmbeddingAnswer: laid · FnImplicitAnswer: laid · FnImplicitRefuses: laid · FnImplicitSides: laid.
  DERIVED. THE GIVEN ROWS OF THIS SEAT. 6 by the template 'for every input the law returns true; each argument reads behind the call as it read before'; 0 by the template 'total and deterministic' (their statements: YtckffgcmeajbdaaDoorTotals.lean).
  GIVEN WITH THE SEED: the statements are not yours to turn. If you find one false, say at which input.
  Laid BY PROGRAM, IN A SANDBOX (cutbox-rows.mjs): the forced cells as the released guide's own fill.sh prints them over the translation 1dee50c2ef050fb2… (all of the seat's roots in one cut). By AI agents, Wed Nov 11 2026. No macro, syntax, notation, axiom, sorry.
-/
import Derived.Test.YtckffgcmeajbdaaDoorChecked
import GoSem.Claim
import GoSem.ClaimJoined
import GoSem.ClaimMapViews
import Derived.JoinedTies
import Derived.KernelRfl
namespace Go.Proofs.YtckffgcmeajbdaaDoor
/- THE CELL 'sum', in the pinned program and in every row, IS THE sha256 OF THE DUMP (.gsa) THAT YtckffgcmeajbdaaDoorProg.lean LOADS. Nothing in Lean hashes anything: it is a label: what it is worth is what the hold of that sum in a sandbox is worth. -/
noncomputable def Tryd.pinned : Pinned := { name := "ytckffgcmeajbdaadoor", sum := "1dee50c2ef050fb23cccc2b442463cf13709198bbbece784eae67ed59b57a6de", checked := Tryd.checked }
namespace Rows
def none {H : Type} : Left H := { results := [], args := [] }

/- WHAT THE LISTED PACKAGE-LEVEL VARIABLES READ AS WHEN THE CALL BEGINS. Each datum BY PROGRAM (the guide's laid-datum.mjs) off the statement by which the dump's own 'gosem.cut.vars' lays the variable. In a bare row this is a premise. The card (YtckffgcmeajbdaaDoorCards.lean) ties it to the program's text. -/
def laid_loop_example_pub_g01449_impl_classes {H : Type} : DataW H := .agg [.lit (.int .u64 0), .lit (.int .u64 1), .lit (.int .u64 2), .lit (.int .u64 3), .lit (.int .u64 4), .lit (.int .u64 5), .lit (.int .u64 6), .lit (.int .u64 7), .lit (.int .u64 8), .lit (.int .u64 9), .lit (.int .u64 10), .lit (.int .u64 11), .lit (.int .u64 12), .lit (.int .u64 13), .lit (.int .u64 16), .lit (.int .u64 17), .lit (.int .u64 18), .lit (.int .u64 19), .lit (.int .u64 20), .lit (.int .u64 21), .lit (.int .u64 22), .lit (.int .u64 23), .lit (.int .u64 24)]

/-- 'laws.FnIsolatesAnswer': WHATEVER THE INPUT: true; the input reads as it did. -/
def fnIsolatesAnswerSpec : ChangeSpec := { name := "fnIsolatesAnswer", vars := ["loop.example/pub-g01449/impl.classes"], fn := fun _ => fun
  | [d, g1] => { results := [.lit (.bool true)], args := [d], vars := [g1] }
  | _ => none }
def fnIsolatesAnswerRow : OpenClaim := { program := "ytckffgcmeajbdaadoor", sum := "1dee50c2ef050fb23cccc2b442463cf13709198bbbece784eae67ed59b57a6de", func := "loop.example/pub-g01449/laws.FnIsolatesAnswer", spec := "fnIsolatesAnswer", named := ["loop.example/pub-g01449/impl.classes"], apart := false, laid := [("loop.example/pub-g01449/impl.classes", laid_loop_example_pub_g01449_impl_classes)] }
def FnIsolatesAnswerSaid : Prop := fnIsolatesAnswerRow.holds Tryd.pinned (OpenSpec.ofChange fnIsolatesAnswerSpec)

/-- ITS FALSE NEIGHBOUR: 'it returns false'. Refute it at one input. -/
def fnIsolatesAnswerWrong : ChangeSpec := { name := "fnIsolatesAnswer", vars := ["loop.example/pub-g01449/impl.classes"], fn := fun _ => fun
  | [d, g1] => { results := [.lit (.bool false)], args := [d], vars := [g1] }
  | _ => none }
def FnIsolatesAnswerWrongFalsely : Prop := fnIsolatesAnswerRow.holds Tryd.pinned (OpenSpec.ofChange fnIsolatesAnswerWrong)

/-- 'laws.FnIsolatesMatch': WHATEVER THE INPUT: true; the input reads as it did. -/
def fnIsolatesMatchSpec : ChangeSpec := { name := "fnIsolatesMatch", vars := ["loop.example/pub-g01449/impl.classes"], fn := fun _ => fun
  | [d, g1] => { results := [.lit (.bool true)], args := [d], vars := [g1] }
  | _ => none }
def fnIsolatesMatchRow : OpenClaim := { program := "ytckffgcmeajbdaadoor", sum := "1dee50c2ef050fb23cccc2b442463cf13709198bbbece784eae67ed59b57a6de", func := "loop.example/pub-g01449/laws.FnIsolatesMatch", spec := "fnIsolatesMatch", named := ["loop.example/pub-g01449/impl.classes"], apart := false, laid := [("loop.example/pub-g01449/impl.classes", laid_loop_example_pub_g01449_impl_classes)] }
def FnIsolatesMatchSaid : Prop := fnIsolatesMatchRow.holds Tryd.pinned (OpenSpec.ofChange fnIsolatesMatchSpec)

/-- ITS FALSE NEIGHBOUR: 'it returns false'. Refute it at one input. -/
def fnIsolatesMatchWrong : ChangeSpec := { name := "fnIsolatesMatch", vars := ["loop.example/pub-g01449/impl.classes"], fn := fun _ => fun
  | [d, g1] => { results := [.lit (.bool false)], args := [d], vars := [g1] }
  | _ => none }
def FnIsolatesMatchWrongFalsely : Prop := fnIsolatesMatchRow.holds Tryd.pinned (OpenSpec.ofChange fnIsolatesMatchWrong)

/-- 'laws.FnEmbeddingAnswer': WHATEVER THE INPUT: true; the input reads as it did. -/
def fnEmbeddingAnswerSpec : ChangeSpec := { name := "fnEmbeddingAnswer", vars := ["loop.example/pub-g01449/impl.classes"], fn := fun _ => fun
  | [d, g1] => { results := [.lit (.bool true)], args := [d], vars := [g1] }
  | _ => none }
def fnEmbeddingAnswerRow : OpenClaim := { program := "ytckffgcmeajbdaadoor", sum := "1dee50c2ef050fb23cccc2b442463cf13709198bbbece784eae67ed59b57a6de", func := "loop.example/pub-g01449/laws.FnEmbeddingAnswer", spec := "fnEmbeddingAnswer", named := ["loop.example/pub-g01449/impl.classes"], apart := false, laid := [("loop.example/pub-g01449/impl.classes", laid_loop_example_pub_g01449_impl_classes)] }
def FnEmbeddingAnswerSaid : Prop := fnEmbeddingAnswerRow.holds Tryd.pinned (OpenSpec.ofChange fnEmbeddingAnswerSpec)

/-- ITS FALSE NEIGHBOUR: 'it returns false'. Refute it at one input. -/
def fnEmbeddingAnswerWrong : ChangeSpec := { name := "fnEmbeddingAnswer", vars := ["loop.example/pub-g01449/impl.classes"], fn := fun _ => fun
  | [d, g1] => { results := [.lit (.bool false)], args := [d], vars := [g1] }
  | _ => none }
def FnEmbeddingAnswerWrongFalsely : Prop := fnEmbeddingAnswerRow.holds Tryd.pinned (OpenSpec.ofChange fnEmbeddingAnswerWrong)

/-- 'laws.FnImplicitAnswer': WHATEVER THE INPUT: true; the input reads as it did. -/
def fnImplicitAnswerSpec : ChangeSpec := { name := "fnImplicitAnswer", vars := ["loop.example/pub-g01449/impl.classes"], fn := fun _ => fun
  | [d1, d2, g1] => { results := [.lit (.bool true)], args := [d1, d2], vars := [g1] }
  | _ => none }
def fnImplicitAnswerRow : OpenClaim := { program := "ytckffgcmeajbdaadoor", sum := "1dee50c2ef050fb23cccc2b442463cf13709198bbbece784eae67ed59b57a6de", func := "loop.example/pub-g01449/laws.FnImplicitAnswer", spec := "fnImplicitAnswer", unfollowed := true, recurses := true, named := ["loop.example/pub-g01449/impl.classes"], apart := false, laid := [("loop.example/pub-g01449/impl.classes", laid_loop_example_pub_g01449_impl_classes)] }
def FnImplicitAnswerSaid : Prop := fnImplicitAnswerRow.holds Tryd.pinned (OpenSpec.ofChange fnImplicitAnswerSpec)

/-- ITS FALSE NEIGHBOUR: 'it returns false'. Refute it at one input. -/
def fnImplicitAnswerWrong : ChangeSpec := { name := "fnImplicitAnswer", vars := ["loop.example/pub-g01449/impl.classes"], fn := fun _ => fun
  | [d1, d2, g1] => { results := [.lit (.bool false)], args := [d1, d2], vars := [g1] }
  | _ => none }
def FnImplicitAnswerWrongFalsely : Prop := fnImplicitAnswerRow.holds Tryd.pinned (OpenSpec.ofChange fnImplicitAnswerWrong)

/-- 'laws.FnImplicitRefuses': WHATEVER THE INPUT: true; the input reads as it did. -/
def fnImplicitRefusesSpec : ChangeSpec := { name := "fnImplicitRefuses", vars := ["loop.example/pub-g01449/impl.classes"], fn := fun _ => fun
  | [d1, d2, g1] => { results := [.lit (.bool true)], args := [d1, d2], vars := [g1] }
  | _ => none }
def fnImplicitRefusesRow : OpenClaim := { program := "ytckffgcmeajbdaadoor", sum := "1dee50c2ef050fb23cccc2b442463cf13709198bbbece784eae67ed59b57a6de", func := "loop.example/pub-g01449/laws.FnImplicitRefuses", spec := "fnImplicitRefuses", unfollowed := true, recurses := true, named := ["loop.example/pub-g01449/impl.classes"], apart := false, laid := [("loop.example/pub-g01449/impl.classes", laid_loop_example_pub_g01449_impl_classes)] }
def FnImplicitRefusesSaid : Prop := fnImplicitRefusesRow.holds Tryd.pinned (OpenSpec.ofChange fnImplicitRefusesSpec)

/-- ITS FALSE NEIGHBOUR: 'it returns false'. Refute it at one input. -/
def fnImplicitRefusesWrong : ChangeSpec := { name := "fnImplicitRefuses", vars := ["loop.example/pub-g01449/impl.classes"], fn := fun _ => fun
  | [d1, d2, g1] => { results := [.lit (.bool false)], args := [d1, d2], vars := [g1] }
  | _ => none }
def FnImplicitRefusesWrongFalsely : Prop := fnImplicitRefusesRow.holds Tryd.pinned (OpenSpec.ofChange fnImplicitRefusesWrong)

/-- 'laws.FnImplicitSides': WHATEVER THE INPUT: true; the input reads as it did. -/
def fnImplicitSidesSpec : ChangeSpec := { name := "fnImplicitSides", vars := ["loop.example/pub-g01449/impl.classes"], fn := fun _ => fun
  | [d1, d2, g1] => { results := [.lit (.bool true)], args := [d1, d2], vars := [g1] }
  | _ => none }
def fnImplicitSidesRow : OpenClaim := { program := "ytckffgcmeajbdaadoor", sum := "1dee50c2ef050fb23cccc2b442463cf13709198bbbece784eae67ed59b57a6de", func := "loop.example/pub-g01449/laws.FnImplicitSides", spec := "fnImplicitSides", unfollowed := true, recurses := true, named := ["loop.example/pub-g01449/impl.classes"], apart := false, laid := [("loop.example/pub-g01449/impl.classes", laid_loop_example_pub_g01449_impl_classes)] }
def FnImplicitSidesSaid : Prop := fnImplicitSidesRow.holds Tryd.pinned (OpenSpec.ofChange fnImplicitSidesSpec)

/-- ITS FALSE NEIGHBOUR: 'it returns false'. Refute it at one input. -/
def fnImplicitSidesWrong : ChangeSpec := { name := "fnImplicitSides", vars := ["loop.example/pub-g01449/impl.classes"], fn := fun _ => fun
  | [d1, d2, g1] => { results := [.lit (.bool false)], args := [d1, d2], vars := [g1] }
  | _ => none }
def FnImplicitSidesWrongFalsely : Prop := fnImplicitSidesRow.holds Tryd.pinned (OpenSpec.ofChange fnImplicitSidesWrong)

/- THE SECOND FORM. 'bulk': how many values and letters a reading holds, each counted each time it is reached (what is shared counts as often as it is met; a slice's spare places count too). A statement '..UptoSaid' is the law's where the arguments, and the package variables that the reading takes, are together of bulk at most 1048576: NARROWER than '..Said'. Prove '..Said' where nothing that the law and all that it calls make is longer than what came in: it says more and counts as full. Else prove '..UptoSaid'. A law counts once. -/
mutual
def uptoBulk {H : Type} : DataW H → Nat
  | .lit (.string bytes) => bytes.length + 1
  | .lit _ => 1
  | .nil => 1
  | .ptr d => uptoBulk d + 1
  | .slice elems spare => uptoBulkAll elems + uptoBulkAll spare + 1
  | .agg parts => uptoBulkAll parts + 1
  | .iface _ d => uptoBulk d + 1
  | .map entries => uptoBulkEntries entries + 1
  | .held _ => 1
def uptoBulkAll {H : Type} : List (DataW H) → Nat
  | [] => 0
  | d :: r => uptoBulk d + uptoBulkAll r
def uptoBulkEntries {H : Type} : List (Lit × DataW H) → Nat
  | [] => 0
  | x :: r => uptoBulkEntry x + uptoBulkEntries r
def uptoBulkEntry {H : Type} : Lit × DataW H → Nat
  | (.string bytes, d) => bytes.length + uptoBulk d + 1
  | (_, d) => uptoBulk d + 1
 end
def uptoSmall : (H : Type) → List (DataW H) → Bool := fun _ ds => decide (uptoBulkAll ds ≤ 1048576)
def OpenSpec.upto (s : _root_.Go.ChangeSpec) : _root_.Go.OpenSpec := { _root_.Go.OpenSpec.ofChange s with cond := some uptoSmall }

/-- 'laws.FnIsolatesAnswer', WHERE WHAT IT READS IS OF BULK AT MOST 1048576: true; the input reads as it did. -/
def fnIsolatesAnswerUptoRow : OpenClaim := { program := "ytckffgcmeajbdaadoor", sum := "1dee50c2ef050fb23cccc2b442463cf13709198bbbece784eae67ed59b57a6de", func := "loop.example/pub-g01449/laws.FnIsolatesAnswer", spec := "fnIsolatesAnswer", named := ["loop.example/pub-g01449/impl.classes"], apart := false, laid := [("loop.example/pub-g01449/impl.classes", laid_loop_example_pub_g01449_impl_classes)], narrowed := true }
def FnIsolatesAnswerUptoSaid : Prop := fnIsolatesAnswerUptoRow.holds Tryd.pinned (OpenSpec.upto fnIsolatesAnswerSpec)

/-- 'laws.FnIsolatesMatch', WHERE WHAT IT READS IS OF BULK AT MOST 1048576: true; the input reads as it did. -/
def fnIsolatesMatchUptoRow : OpenClaim := { program := "ytckffgcmeajbdaadoor", sum := "1dee50c2ef050fb23cccc2b442463cf13709198bbbece784eae67ed59b57a6de", func := "loop.example/pub-g01449/laws.FnIsolatesMatch", spec := "fnIsolatesMatch", named := ["loop.example/pub-g01449/impl.classes"], apart := false, laid := [("loop.example/pub-g01449/impl.classes", laid_loop_example_pub_g01449_impl_classes)], narrowed := true }
def FnIsolatesMatchUptoSaid : Prop := fnIsolatesMatchUptoRow.holds Tryd.pinned (OpenSpec.upto fnIsolatesMatchSpec)

/-- 'laws.FnEmbeddingAnswer', WHERE WHAT IT READS IS OF BULK AT MOST 1048576: true; the input reads as it did. -/
def fnEmbeddingAnswerUptoRow : OpenClaim := { program := "ytckffgcmeajbdaadoor", sum := "1dee50c2ef050fb23cccc2b442463cf13709198bbbece784eae67ed59b57a6de", func := "loop.example/pub-g01449/laws.FnEmbeddingAnswer", spec := "fnEmbeddingAnswer", named := ["loop.example/pub-g01449/impl.classes"], apart := false, laid := [("loop.example/pub-g01449/impl.classes", laid_loop_example_pub_g01449_impl_classes)], narrowed := true }
def FnEmbeddingAnswerUptoSaid : Prop := fnEmbeddingAnswerUptoRow.holds Tryd.pinned (OpenSpec.upto fnEmbeddingAnswerSpec)

/-- 'laws.FnImplicitAnswer', WHERE WHAT IT READS IS OF BULK AT MOST 1048576: true; the input reads as it did. -/
def fnImplicitAnswerUptoRow : OpenClaim := { program := "ytckffgcmeajbdaadoor", sum := "1dee50c2ef050fb23cccc2b442463cf13709198bbbece784eae67ed59b57a6de", func := "loop.example/pub-g01449/laws.FnImplicitAnswer", spec := "fnImplicitAnswer", unfollowed := true, recurses := true, named := ["loop.example/pub-g01449/impl.classes"], apart := false, laid := [("loop.example/pub-g01449/impl.classes", laid_loop_example_pub_g01449_impl_classes)], narrowed := true }
def FnImplicitAnswerUptoSaid : Prop := fnImplicitAnswerUptoRow.holds Tryd.pinned (OpenSpec.upto fnImplicitAnswerSpec)

/-- 'laws.FnImplicitRefuses', WHERE WHAT IT READS IS OF BULK AT MOST 1048576: true; the input reads as it did. -/
def fnImplicitRefusesUptoRow : OpenClaim := { program := "ytckffgcmeajbdaadoor", sum := "1dee50c2ef050fb23cccc2b442463cf13709198bbbece784eae67ed59b57a6de", func := "loop.example/pub-g01449/laws.FnImplicitRefuses", spec := "fnImplicitRefuses", unfollowed := true, recurses := true, named := ["loop.example/pub-g01449/impl.classes"], apart := false, laid := [("loop.example/pub-g01449/impl.classes", laid_loop_example_pub_g01449_impl_classes)], narrowed := true }
def FnImplicitRefusesUptoSaid : Prop := fnImplicitRefusesUptoRow.holds Tryd.pinned (OpenSpec.upto fnImplicitRefusesSpec)

/-- 'laws.FnImplicitSides', WHERE WHAT IT READS IS OF BULK AT MOST 1048576: true; the input reads as it did. -/
def fnImplicitSidesUptoRow : OpenClaim := { program := "ytckffgcmeajbdaadoor", sum := "1dee50c2ef050fb23cccc2b442463cf13709198bbbece784eae67ed59b57a6de", func := "loop.example/pub-g01449/laws.FnImplicitSides", spec := "fnImplicitSides", unfollowed := true, recurses := true, named := ["loop.example/pub-g01449/impl.classes"], apart := false, laid := [("loop.example/pub-g01449/impl.classes", laid_loop_example_pub_g01449_impl_classes)], narrowed := true }
def FnImplicitSidesUptoSaid : Prop := fnImplicitSidesUptoRow.holds Tryd.pinned (OpenSpec.upto fnImplicitSidesSpec)

end Rows
end Go.Proofs.YtckffgcmeajbdaaDoor
