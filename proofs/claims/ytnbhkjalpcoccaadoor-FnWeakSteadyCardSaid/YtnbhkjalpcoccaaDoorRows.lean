/-
  NARROWER THAN 'FOR EVERY INPUT', by the rows' own cells (each row's printed sentence says how): FnNeutralAnswer: laid · FnNeutralKeeps: laid · FnNeutralRefuses: laid · FnWeakAnswer: laid · FnWeakRefuses: laid · FnWeakSteady: laid · FnWeakTwice: laid.
  DERIVED. THE GIVEN ROWS OF THIS SEAT. 7 by the template 'for every input the law returns true; each argument reads behind the call as it read before'; 0 by the template 'total and deterministic' (their statements: YtnbhkjalpcoccaaDoorTotals.lean).
  GIVEN WITH THE SEED: the statements are not yours to turn. If you find one false, say at which input.
  Laid BY PROGRAM, IN A SANDBOX (cutbox-rows.mjs): the forced cells as the released guide's own fill.sh prints them over the translation 185cb09f73bcd06f… (all of the seat's roots in one cut). By AI agents, Wed Nov 11 2026. No macro, syntax, notation, axiom, sorry.
-/
import Derived.Test.YtnbhkjalpcoccaaDoorChecked
import GoSem.Claim
import GoSem.ClaimJoined
import GoSem.ClaimMapViews
import Derived.JoinedTies
import Derived.KernelRfl
namespace Go.Proofs.YtnbhkjalpcoccaaDoor
/- THE CELL 'sum', in the pinned program and in every row, IS THE sha256 OF THE DUMP (.gsa) THAT YtnbhkjalpcoccaaDoorProg.lean LOADS. Nothing in Lean hashes anything: it is a label: what it is worth is what the hold of that sum in a sandbox is worth. -/
noncomputable def Tryd.pinned : Pinned := { name := "ytnbhkjalpcoccaadoor", sum := "185cb09f73bcd06fc1122fbce4401804c3c1d9224d3b94fe5058b60b3d444dcd", checked := Tryd.checked }
namespace Rows
def none {H : Type} : Left H := { results := [], args := [] }

/- WHAT THE LISTED PACKAGE-LEVEL VARIABLES READ AS WHEN THE CALL BEGINS. Each datum BY PROGRAM (the guide's laid-datum.mjs) off the statement by which the dump's own 'gosem.cut.vars' lays the variable. In a bare row this is a premise. The card (YtnbhkjalpcoccaaDoorCards.lean) ties it to the program's text. -/
def laid_loop_example_pub_g01449_impl_classes {H : Type} : DataW H := .agg [.lit (.int .u64 0), .lit (.int .u64 1), .lit (.int .u64 2), .lit (.int .u64 3), .lit (.int .u64 4), .lit (.int .u64 5), .lit (.int .u64 6), .lit (.int .u64 7), .lit (.int .u64 8), .lit (.int .u64 9), .lit (.int .u64 10), .lit (.int .u64 11), .lit (.int .u64 12), .lit (.int .u64 13), .lit (.int .u64 16), .lit (.int .u64 17), .lit (.int .u64 18), .lit (.int .u64 19), .lit (.int .u64 20), .lit (.int .u64 21), .lit (.int .u64 22), .lit (.int .u64 23), .lit (.int .u64 24)]

/-- 'laws.FnNeutralAnswer': WHATEVER THE INPUT: true; the input reads as it did. -/
def fnNeutralAnswerSpec : ChangeSpec := { name := "fnNeutralAnswer", vars := ["loop.example/pub-g01449/impl.classes"], fn := fun _ => fun
  | [d1, d2, d3, d4, g1] => { results := [.lit (.bool true)], args := [d1, d2, d3, d4], vars := [g1] }
  | _ => none }
def fnNeutralAnswerRow : OpenClaim := { program := "ytnbhkjalpcoccaadoor", sum := "185cb09f73bcd06fc1122fbce4401804c3c1d9224d3b94fe5058b60b3d444dcd", func := "loop.example/pub-g01449/laws.FnNeutralAnswer", spec := "fnNeutralAnswer", unfollowed := true, recurses := true, named := ["loop.example/pub-g01449/impl.classes"], apart := false, laid := [("loop.example/pub-g01449/impl.classes", laid_loop_example_pub_g01449_impl_classes)] }
def FnNeutralAnswerSaid : Prop := fnNeutralAnswerRow.holds Tryd.pinned (OpenSpec.ofChange fnNeutralAnswerSpec)

/-- ITS FALSE NEIGHBOUR: 'it returns false'. Refute it at one input. -/
def fnNeutralAnswerWrong : ChangeSpec := { name := "fnNeutralAnswer", vars := ["loop.example/pub-g01449/impl.classes"], fn := fun _ => fun
  | [d1, d2, d3, d4, g1] => { results := [.lit (.bool false)], args := [d1, d2, d3, d4], vars := [g1] }
  | _ => none }
def FnNeutralAnswerWrongFalsely : Prop := fnNeutralAnswerRow.holds Tryd.pinned (OpenSpec.ofChange fnNeutralAnswerWrong)

/-- 'laws.FnNeutralKeeps': WHATEVER THE INPUT: true; the input reads as it did. -/
def fnNeutralKeepsSpec : ChangeSpec := { name := "fnNeutralKeeps", vars := ["loop.example/pub-g01449/impl.classes"], fn := fun _ => fun
  | [d1, d2, d3, d4, g1] => { results := [.lit (.bool true)], args := [d1, d2, d3, d4], vars := [g1] }
  | _ => none }
def fnNeutralKeepsRow : OpenClaim := { program := "ytnbhkjalpcoccaadoor", sum := "185cb09f73bcd06fc1122fbce4401804c3c1d9224d3b94fe5058b60b3d444dcd", func := "loop.example/pub-g01449/laws.FnNeutralKeeps", spec := "fnNeutralKeeps", unfollowed := true, recurses := true, named := ["loop.example/pub-g01449/impl.classes"], apart := false, laid := [("loop.example/pub-g01449/impl.classes", laid_loop_example_pub_g01449_impl_classes)] }
def FnNeutralKeepsSaid : Prop := fnNeutralKeepsRow.holds Tryd.pinned (OpenSpec.ofChange fnNeutralKeepsSpec)

/-- ITS FALSE NEIGHBOUR: 'it returns false'. Refute it at one input. -/
def fnNeutralKeepsWrong : ChangeSpec := { name := "fnNeutralKeeps", vars := ["loop.example/pub-g01449/impl.classes"], fn := fun _ => fun
  | [d1, d2, d3, d4, g1] => { results := [.lit (.bool false)], args := [d1, d2, d3, d4], vars := [g1] }
  | _ => none }
def FnNeutralKeepsWrongFalsely : Prop := fnNeutralKeepsRow.holds Tryd.pinned (OpenSpec.ofChange fnNeutralKeepsWrong)

/-- 'laws.FnNeutralRefuses': WHATEVER THE INPUT: true; the input reads as it did. -/
def fnNeutralRefusesSpec : ChangeSpec := { name := "fnNeutralRefuses", vars := ["loop.example/pub-g01449/impl.classes"], fn := fun _ => fun
  | [d1, d2, d3, d4, g1] => { results := [.lit (.bool true)], args := [d1, d2, d3, d4], vars := [g1] }
  | _ => none }
def fnNeutralRefusesRow : OpenClaim := { program := "ytnbhkjalpcoccaadoor", sum := "185cb09f73bcd06fc1122fbce4401804c3c1d9224d3b94fe5058b60b3d444dcd", func := "loop.example/pub-g01449/laws.FnNeutralRefuses", spec := "fnNeutralRefuses", unfollowed := true, recurses := true, named := ["loop.example/pub-g01449/impl.classes"], apart := false, laid := [("loop.example/pub-g01449/impl.classes", laid_loop_example_pub_g01449_impl_classes)] }
def FnNeutralRefusesSaid : Prop := fnNeutralRefusesRow.holds Tryd.pinned (OpenSpec.ofChange fnNeutralRefusesSpec)

/-- ITS FALSE NEIGHBOUR: 'it returns false'. Refute it at one input. -/
def fnNeutralRefusesWrong : ChangeSpec := { name := "fnNeutralRefuses", vars := ["loop.example/pub-g01449/impl.classes"], fn := fun _ => fun
  | [d1, d2, d3, d4, g1] => { results := [.lit (.bool false)], args := [d1, d2, d3, d4], vars := [g1] }
  | _ => none }
def FnNeutralRefusesWrongFalsely : Prop := fnNeutralRefusesRow.holds Tryd.pinned (OpenSpec.ofChange fnNeutralRefusesWrong)

/-- 'laws.FnWeakAnswer': WHATEVER THE INPUT: true; the input reads as it did. -/
def fnWeakAnswerSpec : ChangeSpec := { name := "fnWeakAnswer", vars := ["loop.example/pub-g01449/impl.classes"], fn := fun _ => fun
  | [d1, d2, d3, g1] => { results := [.lit (.bool true)], args := [d1, d2, d3], vars := [g1] }
  | _ => none }
def fnWeakAnswerRow : OpenClaim := { program := "ytnbhkjalpcoccaadoor", sum := "185cb09f73bcd06fc1122fbce4401804c3c1d9224d3b94fe5058b60b3d444dcd", func := "loop.example/pub-g01449/laws.FnWeakAnswer", spec := "fnWeakAnswer", unfollowed := true, recurses := true, named := ["loop.example/pub-g01449/impl.classes"], apart := false, laid := [("loop.example/pub-g01449/impl.classes", laid_loop_example_pub_g01449_impl_classes)] }
def FnWeakAnswerSaid : Prop := fnWeakAnswerRow.holds Tryd.pinned (OpenSpec.ofChange fnWeakAnswerSpec)

/-- ITS FALSE NEIGHBOUR: 'it returns false'. Refute it at one input. -/
def fnWeakAnswerWrong : ChangeSpec := { name := "fnWeakAnswer", vars := ["loop.example/pub-g01449/impl.classes"], fn := fun _ => fun
  | [d1, d2, d3, g1] => { results := [.lit (.bool false)], args := [d1, d2, d3], vars := [g1] }
  | _ => none }
def FnWeakAnswerWrongFalsely : Prop := fnWeakAnswerRow.holds Tryd.pinned (OpenSpec.ofChange fnWeakAnswerWrong)

/-- 'laws.FnWeakRefuses': WHATEVER THE INPUT: true; the input reads as it did. -/
def fnWeakRefusesSpec : ChangeSpec := { name := "fnWeakRefuses", vars := ["loop.example/pub-g01449/impl.classes"], fn := fun _ => fun
  | [d1, d2, d3, g1] => { results := [.lit (.bool true)], args := [d1, d2, d3], vars := [g1] }
  | _ => none }
def fnWeakRefusesRow : OpenClaim := { program := "ytnbhkjalpcoccaadoor", sum := "185cb09f73bcd06fc1122fbce4401804c3c1d9224d3b94fe5058b60b3d444dcd", func := "loop.example/pub-g01449/laws.FnWeakRefuses", spec := "fnWeakRefuses", unfollowed := true, recurses := true, named := ["loop.example/pub-g01449/impl.classes"], apart := false, laid := [("loop.example/pub-g01449/impl.classes", laid_loop_example_pub_g01449_impl_classes)] }
def FnWeakRefusesSaid : Prop := fnWeakRefusesRow.holds Tryd.pinned (OpenSpec.ofChange fnWeakRefusesSpec)

/-- ITS FALSE NEIGHBOUR: 'it returns false'. Refute it at one input. -/
def fnWeakRefusesWrong : ChangeSpec := { name := "fnWeakRefuses", vars := ["loop.example/pub-g01449/impl.classes"], fn := fun _ => fun
  | [d1, d2, d3, g1] => { results := [.lit (.bool false)], args := [d1, d2, d3], vars := [g1] }
  | _ => none }
def FnWeakRefusesWrongFalsely : Prop := fnWeakRefusesRow.holds Tryd.pinned (OpenSpec.ofChange fnWeakRefusesWrong)

/-- 'laws.FnWeakSteady': WHATEVER THE INPUT: true; the input reads as it did. -/
def fnWeakSteadySpec : ChangeSpec := { name := "fnWeakSteady", vars := ["loop.example/pub-g01449/impl.classes"], fn := fun _ => fun
  | [d1, d2, d3, g1] => { results := [.lit (.bool true)], args := [d1, d2, d3], vars := [g1] }
  | _ => none }
def fnWeakSteadyRow : OpenClaim := { program := "ytnbhkjalpcoccaadoor", sum := "185cb09f73bcd06fc1122fbce4401804c3c1d9224d3b94fe5058b60b3d444dcd", func := "loop.example/pub-g01449/laws.FnWeakSteady", spec := "fnWeakSteady", unfollowed := true, recurses := true, named := ["loop.example/pub-g01449/impl.classes"], apart := false, laid := [("loop.example/pub-g01449/impl.classes", laid_loop_example_pub_g01449_impl_classes)] }
def FnWeakSteadySaid : Prop := fnWeakSteadyRow.holds Tryd.pinned (OpenSpec.ofChange fnWeakSteadySpec)

/-- ITS FALSE NEIGHBOUR: 'it returns false'. Refute it at one input. -/
def fnWeakSteadyWrong : ChangeSpec := { name := "fnWeakSteady", vars := ["loop.example/pub-g01449/impl.classes"], fn := fun _ => fun
  | [d1, d2, d3, g1] => { results := [.lit (.bool false)], args := [d1, d2, d3], vars := [g1] }
  | _ => none }
def FnWeakSteadyWrongFalsely : Prop := fnWeakSteadyRow.holds Tryd.pinned (OpenSpec.ofChange fnWeakSteadyWrong)

/-- 'laws.FnWeakTwice': WHATEVER THE INPUT: true; the input reads as it did. -/
def fnWeakTwiceSpec : ChangeSpec := { name := "fnWeakTwice", vars := ["loop.example/pub-g01449/impl.classes"], fn := fun _ => fun
  | [d1, d2, d3, g1] => { results := [.lit (.bool true)], args := [d1, d2, d3], vars := [g1] }
  | _ => none }
def fnWeakTwiceRow : OpenClaim := { program := "ytnbhkjalpcoccaadoor", sum := "185cb09f73bcd06fc1122fbce4401804c3c1d9224d3b94fe5058b60b3d444dcd", func := "loop.example/pub-g01449/laws.FnWeakTwice", spec := "fnWeakTwice", unfollowed := true, recurses := true, named := ["loop.example/pub-g01449/impl.classes"], apart := false, laid := [("loop.example/pub-g01449/impl.classes", laid_loop_example_pub_g01449_impl_classes)] }
def FnWeakTwiceSaid : Prop := fnWeakTwiceRow.holds Tryd.pinned (OpenSpec.ofChange fnWeakTwiceSpec)

/-- ITS FALSE NEIGHBOUR: 'it returns false'. Refute it at one input. -/
def fnWeakTwiceWrong : ChangeSpec := { name := "fnWeakTwice", vars := ["loop.example/pub-g01449/impl.classes"], fn := fun _ => fun
  | [d1, d2, d3, g1] => { results := [.lit (.bool false)], args := [d1, d2, d3], vars := [g1] }
  | _ => none }
def FnWeakTwiceWrongFalsely : Prop := fnWeakTwiceRow.holds Tryd.pinned (OpenSpec.ofChange fnWeakTwiceWrong)

/- THE SECOND FORM. 'bulk': how many values and letters a reading holds, each counted each time it is reached (what is shared counts as often as it is met; a slice's spare places count too). A statement '..UptoSaid' is the law's where the arguments, and the package variables that the reading takes, are together of bulk at most 1048576: NARROWER than '..Said'. Prove '..Said' where nothing that the law and all that it calls make is longer than what came in: it says more and counts as full. Else prove '..UptoSaid'. A law counts once. -/
mutual
def uptoBulk {H : Type} : DataW H → Nat
  | .lit (.string bytes) => bytes.length + 1
  | .lit _ => 1
  | .nil => 1
  | .ptr d => uptoBulk d + 1
  | .slice elems spare => uptoBulkAll elems + uptoBulkAll spare + 1
  | .agg parts => uptoBulkAll parts + 1
  | .iface _ d => uptoBulk d + 1
  | .map entries => uptoBulkEntries entries + 1
  | .held _ => 1
def uptoBulkAll {H : Type} : List (DataW H) → Nat
  | [] => 0
  | d :: r => uptoBulk d + uptoBulkAll r
def uptoBulkEntries {H : Type} : List (Lit × DataW H) → Nat
  | [] => 0
  | x :: r => uptoBulkEntry x + uptoBulkEntries r
def uptoBulkEntry {H : Type} : Lit × DataW H → Nat
  | (.string bytes, d) => bytes.length + uptoBulk d + 1
  | (_, d) => uptoBulk d + 1
 end
def uptoSmall : (H : Type) → List (DataW H) → Bool := fun _ ds => decide (uptoBulkAll ds ≤ 1048576)
def OpenSpec.upto (s : _root_.Go.ChangeSpec) : _root_.Go.OpenSpec := { _root_.Go.OpenSpec.ofChange s with cond := some uptoSmall }

/-- 'laws.FnNeutralAnswer', WHERE WHAT IT READS IS OF BULK AT MOST 1048576: true; the input reads as it did. -/
def fnNeutralAnswerUptoRow : OpenClaim := { program := "ytnbhkjalpcoccaadoor", sum := "185cb09f73bcd06fc1122fbce4401804c3c1d9224d3b94fe5058b60b3d444dcd", func := "loop.example/pub-g01449/laws.FnNeutralAnswer", spec := "fnNeutralAnswer", unfollowed := true, recurses := true, named := ["loop.example/pub-g01449/impl.classes"], apart := false, laid := [("loop.example/pub-g01449/impl.classes", laid_loop_example_pub_g01449_impl_classes)], narrowed := true }
def FnNeutralAnswerUptoSaid : Prop := fnNeutralAnswerUptoRow.holds Tryd.pinned (OpenSpec.upto fnNeutralAnswerSpec)

/-- 'laws.FnNeutralKeeps', WHERE WHAT IT READS IS OF BULK AT MOST 1048576: true; the input reads as it did. -/
def fnNeutralKeepsUptoRow : OpenClaim := { program := "ytnbhkjalpcoccaadoor", sum := "185cb09f73bcd06fc1122fbce4401804c3c1d9224d3b94fe5058b60b3d444dcd", func := "loop.example/pub-g01449/laws.FnNeutralKeeps", spec := "fnNeutralKeeps", unfollowed := true, recurses := true, named := ["loop.example/pub-g01449/impl.classes"], apart := false, laid := [("loop.example/pub-g01449/impl.classes", laid_loop_example_pub_g01449_impl_classes)], narrowed := true }
def FnNeutralKeepsUptoSaid : Prop := fnNeutralKeepsUptoRow.holds Tryd.pinned (OpenSpec.upto fnNeutralKeepsSpec)

/-- 'laws.FnNeutralRefuses', WHERE WHAT IT READS IS OF BULK AT MOST 1048576: true; the input reads as it did. -/
def fnNeutralRefusesUptoRow : OpenClaim := { program := "ytnbhkjalpcoccaadoor", sum := "185cb09f73bcd06fc1122fbce4401804c3c1d9224d3b94fe5058b60b3d444dcd", func := "loop.example/pub-g01449/laws.FnNeutralRefuses", spec := "fnNeutralRefuses", unfollowed := true, recurses := true, named := ["loop.example/pub-g01449/impl.classes"], apart := false, laid := [("loop.example/pub-g01449/impl.classes", laid_loop_example_pub_g01449_impl_classes)], narrowed := true }
def FnNeutralRefusesUptoSaid : Prop := fnNeutralRefusesUptoRow.holds Tryd.pinned (OpenSpec.upto fnNeutralRefusesSpec)

/-- 'laws.FnWeakAnswer', WHERE WHAT IT READS IS OF BULK AT MOST 1048576: true; the input reads as it did. -/
def fnWeakAnswerUptoRow : OpenClaim := { program := "ytnbhkjalpcoccaadoor", sum := "185cb09f73bcd06fc1122fbce4401804c3c1d9224d3b94fe5058b60b3d444dcd", func := "loop.example/pub-g01449/laws.FnWeakAnswer", spec := "fnWeakAnswer", unfollowed := true, recurses := true, named := ["loop.example/pub-g01449/impl.classes"], apart := false, laid := [("loop.example/pub-g01449/impl.classes", laid_loop_example_pub_g01449_impl_classes)], narrowed := true }
def FnWeakAnswerUptoSaid : Prop := fnWeakAnswerUptoRow.holds Tryd.pinned (OpenSpec.upto fnWeakAnswerSpec)

/-- 'laws.FnWeakRefuses', WHERE WHAT IT READS IS OF BULK AT MOST 1048576: true; the input reads as it did. -/
def fnWeakRefusesUptoRow : OpenClaim := { program := "ytnbhkjalpcoccaadoor", sum := "185cb09f73bcd06fc1122fbce4401804c3c1d9224d3b94fe5058b60b3d444dcd", func := "loop.example/pub-g01449/laws.FnWeakRefuses", spec := "fnWeakRefuses", unfollowed := true, recurses := true, named := ["loop.example/pub-g01449/impl.classes"], apart := false, laid := [("loop.example/pub-g01449/impl.classes", laid_loop_example_pub_g01449_impl_classes)], narrowed := true }
def FnWeakRefusesUptoSaid : Prop := fnWeakRefusesUptoRow.holds Tryd.pinned (OpenSpec.upto fnWeakRefusesSpec)

/-- 'laws.FnWeakSteady', WHERE WHAT IT READS IS OF BULK AT MOST 1048576: true; the input reads as it did. -/
def fnWeakSteadyUptoRow : OpenClaim := { program := "ytnbhkjalpcoccaadoor", sum := "185cb09f73bcd06fc1122fbce4401804c3c1d9224d3b94fe5058b60b3d444dcd", func := "loop.example/pub-g01449/laws.FnWeakSteady", spec := "fnWeakSteady", unfollowed := true, recurses := true, named := ["loop.example/pub-g01449/impl.classes"], apart := false, laid := [("loop.example/pub-g01449/impl.classes", laid_loop_example_pub_g01449_impl_classes)], narrowed := true }
def FnWeakSteadyUptoSaid : Prop := fnWeakSteadyUptoRow.holds Tryd.pinned (OpenSpec.upto fnWeakSteadySpec)

/-- 'laws.FnWeakTwice', WHERE WHAT IT READS IS OF BULK AT MOST 1048576: true; the input reads as it did. -/
def fnWeakTwiceUptoRow : OpenClaim := { program := "ytnbhkjalpcoccaadoor", sum := "185cb09f73bcd06fc1122fbce4401804c3c1d9224d3b94fe5058b60b3d444dcd", func := "loop.example/pub-g01449/laws.FnWeakTwice", spec := "fnWeakTwice", unfollowed := true, recurses := true, named := ["loop.example/pub-g01449/impl.classes"], apart := false, laid := [("loop.example/pub-g01449/impl.classes", laid_loop_example_pub_g01449_impl_classes)], narrowed := true }
def FnWeakTwiceUptoSaid : Prop := fnWeakTwiceUptoRow.holds Tryd.pinned (OpenSpec.upto fnWeakTwiceSpec)

end Rows
end Go.Proofs.YtnbhkjalpcoccaaDoor
