/-
  NARROWER THAN 'FOR EVERY INPUT', by the rows' own cells (each row's printed sentence says how): FnOrderOfLines: laid · FnLinesOfResolve: laid.
  DERIVED. THE GIVEN ROWS OF THIS SEAT. 2 by the template 'for every input the law returns true; each argument reads behind the call as it read before'; 0 by the template 'total and deterministic' (their statements: YtkocpijloiamcaaGreatDoorTotals.lean).
  GIVEN WITH THE SEED: the statements are not yours to turn. If you find one false, say at which input.
  Laid BY PROGRAM, IN A SANDBOX (cutbox-rows.mjs): the forced cells as the released guide's own fill.sh prints them over the translation 7efc1f6106d45ae8… (all of the seat's roots in one cut). By AI agents, Wed Nov 11 2026. No macro, syntax, notation, axiom, sorry.
-/
import Derived.Test.YtkocpijloiamcaaGreatDoorChecked
import GoSem.Claim
import GoSem.ClaimJoined
import GoSem.ClaimMapViews
import Derived.JoinedTies
import Derived.KernelRfl
namespace Go.Proofs.YtkocpijloiamcaaGreatDoor
/- THE CELL 'sum', in the pinned program and in every row, IS THE sha256 OF THE DUMP (.gsa) THAT YtkocpijloiamcaaGreatDoorProg.lean LOADS. Nothing in Lean hashes anything: it is a label: what it is worth is what the hold of that sum in a sandbox is worth. -/
noncomputable def Tryz.pinned : Pinned := { name := "ytkocpijloiamcaagreatdoor", sum := "7efc1f6106d45ae8a3bf98238832ca5e96b15e8b91d48693a4fc78235f117ca4", checked := Tryz.checked }
namespace Rows
def none {H : Type} : Left H := { results := [], args := [] }

/- WHAT THE LISTED PACKAGE-LEVEL VARIABLES READ AS WHEN THE CALL BEGINS. Each datum BY PROGRAM (the guide's laid-datum.mjs) off the statement by which the dump's own 'gosem.cut.vars' lays the variable. In a bare row this is a premise. The card (YtkocpijloiamcaaGreatDoorCards.lean) ties it to the program's text. -/
def laid_loop_example_pub_g01449_impl_classes {H : Type} : DataW H := .agg [.lit (.int .u64 0), .lit (.int .u64 1), .lit (.int .u64 2), .lit (.int .u64 3), .lit (.int .u64 4), .lit (.int .u64 5), .lit (.int .u64 6), .lit (.int .u64 7), .lit (.int .u64 8), .lit (.int .u64 9), .lit (.int .u64 10), .lit (.int .u64 11), .lit (.int .u64 12), .lit (.int .u64 13), .lit (.int .u64 16), .lit (.int .u64 17), .lit (.int .u64 18), .lit (.int .u64 19), .lit (.int .u64 20), .lit (.int .u64 21), .lit (.int .u64 22), .lit (.int .u64 23), .lit (.int .u64 24)]

/-- 'laws.FnOrderOfLines': WHATEVER THE INPUT: true; the input reads as it did. -/
def fnOrderOfLinesSpec : ChangeSpec := { name := "fnOrderOfLines", vars := ["loop.example/pub-g01449/impl.classes"], fn := fun _ => fun
  | [d1, d2, d3, d4, d5, g1] => { results := [.lit (.bool true)], args := [d1, d2, d3, d4, d5], vars := [g1] }
  | _ => none }
def fnOrderOfLinesRow : OpenClaim := { program := "ytkocpijloiamcaagreatdoor", sum := "7efc1f6106d45ae8a3bf98238832ca5e96b15e8b91d48693a4fc78235f117ca4", func := "loop.example/pub-g01449/laws.FnOrderOfLines", spec := "fnOrderOfLines", unfollowed := true, recurses := true, named := ["loop.example/pub-g01449/impl.classes"], apart := false, laid := [("loop.example/pub-g01449/impl.classes", laid_loop_example_pub_g01449_impl_classes)] }
def FnOrderOfLinesSaid : Prop := fnOrderOfLinesRow.holds Tryz.pinned (OpenSpec.ofChange fnOrderOfLinesSpec)

/-- ITS FALSE NEIGHBOUR: 'it returns false'. Refute it at one input. -/
def fnOrderOfLinesWrong : ChangeSpec := { name := "fnOrderOfLines", vars := ["loop.example/pub-g01449/impl.classes"], fn := fun _ => fun
  | [d1, d2, d3, d4, d5, g1] => { results := [.lit (.bool false)], args := [d1, d2, d3, d4, d5], vars := [g1] }
  | _ => none }
def FnOrderOfLinesWrongFalsely : Prop := fnOrderOfLinesRow.holds Tryz.pinned (OpenSpec.ofChange fnOrderOfLinesWrong)

/-- 'laws.FnLinesOfResolve': WHATEVER THE INPUT: true; the input reads as it did. -/
def fnLinesOfResolveSpec : ChangeSpec := { name := "fnLinesOfResolve", vars := ["loop.example/pub-g01449/impl.classes"], fn := fun _ => fun
  | [d1, d2, d3, d4, d5, g1] => { results := [.lit (.bool true)], args := [d1, d2, d3, d4, d5], vars := [g1] }
  | _ => none }
def fnLinesOfResolveRow : OpenClaim := { program := "ytkocpijloiamcaagreatdoor", sum := "7efc1f6106d45ae8a3bf98238832ca5e96b15e8b91d48693a4fc78235f117ca4", func := "loop.example/pub-g01449/laws.FnLinesOfResolve", spec := "fnLinesOfResolve", unfollowed := true, recurses := true, named := ["loop.example/pub-g01449/impl.classes"], apart := false, laid := [("loop.example/pub-g01449/impl.classes", laid_loop_example_pub_g01449_impl_classes)] }
def FnLinesOfResolveSaid : Prop := fnLinesOfResolveRow.holds Tryz.pinned (OpenSpec.ofChange fnLinesOfResolveSpec)

/-- ITS FALSE NEIGHBOUR: 'it returns false'. Refute it at one input. -/
def fnLinesOfResolveWrong : ChangeSpec := { name := "fnLinesOfResolve", vars := ["loop.example/pub-g01449/impl.classes"], fn := fun _ => fun
  | [d1, d2, d3, d4, d5, g1] => { results := [.lit (.bool false)], args := [d1, d2, d3, d4, d5], vars := [g1] }
  | _ => none }
def FnLinesOfResolveWrongFalsely : Prop := fnLinesOfResolveRow.holds Tryz.pinned (OpenSpec.ofChange fnLinesOfResolveWrong)

/- THE SECOND FORM. 'bulk': how many values and letters a reading holds, each counted each time it is reached (what is shared counts as often as it is met; a slice's spare places count too). A statement '..UptoSaid' is the law's where the arguments, and the package variables that the reading takes, are together of bulk at most 1048576: NARROWER than '..Said'. Prove '..Said' where nothing that the law and all that it calls make is longer than what came in: it says more and counts as full. Else prove '..UptoSaid'. A law counts once. -/
mutual
def uptoBulk {H : Type} : DataW H → Nat
  | .lit (.string bytes) => bytes.length + 1
  | .lit _ => 1
  | .nil => 1
  | .ptr d => uptoBulk d + 1
  | .slice elems spare => uptoBulkAll elems + uptoBulkAll spare + 1
  | .agg parts => uptoBulkAll parts + 1
  | .iface _ d => uptoBulk d + 1
  | .map entries => uptoBulkEntries entries + 1
  | .held _ => 1
def uptoBulkAll {H : Type} : List (DataW H) → Nat
  | [] => 0
  | d :: r => uptoBulk d + uptoBulkAll r
def uptoBulkEntries {H : Type} : List (Lit × DataW H) → Nat
  | [] => 0
  | x :: r => uptoBulkEntry x + uptoBulkEntries r
def uptoBulkEntry {H : Type} : Lit × DataW H → Nat
  | (.string bytes, d) => bytes.length + uptoBulk d + 1
  | (_, d) => uptoBulk d + 1
 end
def uptoSmall : (H : Type) → List (DataW H) → Bool := fun _ ds => decide (uptoBulkAll ds ≤ 1048576)
def OpenSpec.upto (s : _root_.Go.ChangeSpec) : _root_.Go.OpenSpec := { _root_.Go.OpenSpec.ofChange s with cond := some uptoSmall }

/-- 'laws.FnOrderOfLines', WHERE WHAT IT READS IS OF BULK AT MOST 1048576: true; the input reads as it did. -/
def fnOrderOfLinesUptoRow : OpenClaim := { program := "ytkocpijloiamcaagreatdoor", sum := "7efc1f6106d45ae8a3bf98238832ca5e96b15e8b91d48693a4fc78235f117ca4", func := "loop.example/pub-g01449/laws.FnOrderOfLines", spec := "fnOrderOfLines", unfollowed := true, recurses := true, named := ["loop.example/pub-g01449/impl.classes"], apart := false, laid := [("loop.example/pub-g01449/impl.classes", laid_loop_example_pub_g01449_impl_classes)], narrowed := true }
def FnOrderOfLinesUptoSaid : Prop := fnOrderOfLinesUptoRow.holds Tryz.pinned (OpenSpec.upto fnOrderOfLinesSpec)

/-- 'laws.FnLinesOfResolve', WHERE WHAT IT READS IS OF BULK AT MOST 1048576: true; the input reads as it did. -/
def fnLinesOfResolveUptoRow : OpenClaim := { program := "ytkocpijloiamcaagreatdoor", sum := "7efc1f6106d45ae8a3bf98238832ca5e96b15e8b91d48693a4fc78235f117ca4", func := "loop.example/pub-g01449/laws.FnLinesOfResolve", spec := "fnLinesOfResolve", unfollowed := true, recurses := true, named := ["loop.example/pub-g01449/impl.classes"], apart := false, laid := [("loop.example/pub-g01449/impl.classes", laid_loop_example_pub_g01449_impl_classes)], narrowed := true }
def FnLinesOfResolveUptoSaid : Prop := fnLinesOfResolveUptoRow.holds Tryz.pinned (OpenSpec.upto fnLinesOfResolveSpec)

end Rows
end Go.Proofs.YtkocpijloiamcaaGreatDoor
