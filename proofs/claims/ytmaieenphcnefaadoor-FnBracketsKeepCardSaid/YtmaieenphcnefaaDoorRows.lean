/-
  NARROWER THAN 'FOR EVERY INPUT', by the rows' own cells (each row's printed sentence says how): FnPairsAnswer: laid · FnPairsDeep: laid · FnPairsLie: laid · FnBracketsAnswer: laid · FnBracketsKeep: laid.
  DERIVED. THE GIVEN ROWS OF THIS SEAT. 5 by the template 'for every input the law returns true; each argument reads behind the call as it read before'; 0 by the template 'total and deterministic' (their statements: YtmaieenphcnefaaDoorTotals.lean).
  GIVEN WITH THE SEED: the statements are not yours to turn. If you find one false, say at which input.
  Laid BY PROGRAM, IN A SANDBOX (cutbox-rows.mjs): the forced cells as the released guide's own fill.sh prints them over the translation e13633c7125d761e… (all of the seat's roots in one cut). By AI agents, Wed Nov 11 2026. No macro, syntax, notation, axiom, sorry.
-/
import Derived.Test.YtmaieenphcnefaaDoorChecked
import GoSem.Claim
import GoSem.ClaimJoined
import GoSem.ClaimMapViews
import Derived.JoinedTies
import Derived.KernelRfl
namespace Go.Proofs.YtmaieenphcnefaaDoor
/- THE CELL 'sum', in the pinned program and in every row, IS THE sha256 OF THE DUMP (.gsa) THAT YtmaieenphcnefaaDoorProg.lean LOADS. Nothing in Lean hashes anything: it is a label: what it is worth is what the hold of that sum in a sandbox is worth. -/
noncomputable def Tryd.pinned : Pinned := { name := "ytmaieenphcnefaadoor", sum := "e13633c7125d761ec73ed0deb34a7f8996bcc54e77069f70df4f491ea295ea9a", checked := Tryd.checked }
namespace Rows
def none {H : Type} : Left H := { results := [], args := [] }

/- WHAT THE LISTED PACKAGE-LEVEL VARIABLES READ AS WHEN THE CALL BEGINS. Each datum BY PROGRAM (the guide's laid-datum.mjs) off the statement by which the dump's own 'gosem.cut.vars' lays the variable. In a bare row this is a premise. The card (YtmaieenphcnefaaDoorCards.lean) ties it to the program's text. -/
def laid_loop_example_pub_g01449_impl_classes {H : Type} : DataW H := .agg [.lit (.int .u64 0), .lit (.int .u64 1), .lit (.int .u64 2), .lit (.int .u64 3), .lit (.int .u64 4), .lit (.int .u64 5), .lit (.int .u64 6), .lit (.int .u64 7), .lit (.int .u64 8), .lit (.int .u64 9), .lit (.int .u64 10), .lit (.int .u64 11), .lit (.int .u64 12), .lit (.int .u64 13), .lit (.int .u64 16), .lit (.int .u64 17), .lit (.int .u64 18), .lit (.int .u64 19), .lit (.int .u64 20), .lit (.int .u64 21), .lit (.int .u64 22), .lit (.int .u64 23), .lit (.int .u64 24)]

/-- 'laws.FnPairsAnswer': WHATEVER THE INPUT: true; the input reads as it did. -/
def fnPairsAnswerSpec : ChangeSpec := { name := "fnPairsAnswer", vars := ["loop.example/pub-g01449/impl.classes"], fn := fun _ => fun
  | [d1, d2, d3, g1] => { results := [.lit (.bool true)], args := [d1, d2, d3], vars := [g1] }
  | _ => none }
def fnPairsAnswerRow : OpenClaim := { program := "ytmaieenphcnefaadoor", sum := "e13633c7125d761ec73ed0deb34a7f8996bcc54e77069f70df4f491ea295ea9a", func := "loop.example/pub-g01449/laws.FnPairsAnswer", spec := "fnPairsAnswer", unfollowed := true, recurses := true, named := ["loop.example/pub-g01449/impl.classes"], apart := false, laid := [("loop.example/pub-g01449/impl.classes", laid_loop_example_pub_g01449_impl_classes)] }
def FnPairsAnswerSaid : Prop := fnPairsAnswerRow.holds Tryd.pinned (OpenSpec.ofChange fnPairsAnswerSpec)

/-- ITS FALSE NEIGHBOUR: 'it returns false'. Refute it at one input. -/
def fnPairsAnswerWrong : ChangeSpec := { name := "fnPairsAnswer", vars := ["loop.example/pub-g01449/impl.classes"], fn := fun _ => fun
  | [d1, d2, d3, g1] => { results := [.lit (.bool false)], args := [d1, d2, d3], vars := [g1] }
  | _ => none }
def FnPairsAnswerWrongFalsely : Prop := fnPairsAnswerRow.holds Tryd.pinned (OpenSpec.ofChange fnPairsAnswerWrong)

/-- 'laws.FnPairsDeep': WHATEVER THE INPUT: true; the input reads as it did. -/
def fnPairsDeepSpec : ChangeSpec := { name := "fnPairsDeep", vars := ["loop.example/pub-g01449/impl.classes"], fn := fun _ => fun
  | [d, g1] => { results := [.lit (.bool true)], args := [d], vars := [g1] }
  | _ => none }
def fnPairsDeepRow : OpenClaim := { program := "ytmaieenphcnefaadoor", sum := "e13633c7125d761ec73ed0deb34a7f8996bcc54e77069f70df4f491ea295ea9a", func := "loop.example/pub-g01449/laws.FnPairsDeep", spec := "fnPairsDeep", unfollowed := true, recurses := true, named := ["loop.example/pub-g01449/impl.classes"], apart := false, laid := [("loop.example/pub-g01449/impl.classes", laid_loop_example_pub_g01449_impl_classes)] }
def FnPairsDeepSaid : Prop := fnPairsDeepRow.holds Tryd.pinned (OpenSpec.ofChange fnPairsDeepSpec)

/-- ITS FALSE NEIGHBOUR: 'it returns false'. Refute it at one input. -/
def fnPairsDeepWrong : ChangeSpec := { name := "fnPairsDeep", vars := ["loop.example/pub-g01449/impl.classes"], fn := fun _ => fun
  | [d, g1] => { results := [.lit (.bool false)], args := [d], vars := [g1] }
  | _ => none }
def FnPairsDeepWrongFalsely : Prop := fnPairsDeepRow.holds Tryd.pinned (OpenSpec.ofChange fnPairsDeepWrong)

/-- 'laws.FnPairsLie': WHATEVER THE INPUT: true; the input reads as it did. -/
def fnPairsLieSpec : ChangeSpec := { name := "fnPairsLie", vars := ["loop.example/pub-g01449/impl.classes"], fn := fun _ => fun
  | [d1, d2, d3, g1] => { results := [.lit (.bool true)], args := [d1, d2, d3], vars := [g1] }
  | _ => none }
def fnPairsLieRow : OpenClaim := { program := "ytmaieenphcnefaadoor", sum := "e13633c7125d761ec73ed0deb34a7f8996bcc54e77069f70df4f491ea295ea9a", func := "loop.example/pub-g01449/laws.FnPairsLie", spec := "fnPairsLie", unfollowed := true, recurses := true, named := ["loop.example/pub-g01449/impl.classes"], apart := false, laid := [("loop.example/pub-g01449/impl.classes", laid_loop_example_pub_g01449_impl_classes)] }
def FnPairsLieSaid : Prop := fnPairsLieRow.holds Tryd.pinned (OpenSpec.ofChange fnPairsLieSpec)

/-- ITS FALSE NEIGHBOUR: 'it returns false'. Refute it at one input. -/
def fnPairsLieWrong : ChangeSpec := { name := "fnPairsLie", vars := ["loop.example/pub-g01449/impl.classes"], fn := fun _ => fun
  | [d1, d2, d3, g1] => { results := [.lit (.bool false)], args := [d1, d2, d3], vars := [g1] }
  | _ => none }
def FnPairsLieWrongFalsely : Prop := fnPairsLieRow.holds Tryd.pinned (OpenSpec.ofChange fnPairsLieWrong)

/-- 'laws.FnBracketsAnswer': WHATEVER THE INPUT: true; the input reads as it did. -/
def fnBracketsAnswerSpec : ChangeSpec := { name := "fnBracketsAnswer", vars := ["loop.example/pub-g01449/impl.classes"], fn := fun _ => fun
  | [d1, d2, d3, d4, d5, d6, g1] => { results := [.lit (.bool true)], args := [d1, d2, d3, d4, d5, d6], vars := [g1] }
  | _ => none }
def fnBracketsAnswerRow : OpenClaim := { program := "ytmaieenphcnefaadoor", sum := "e13633c7125d761ec73ed0deb34a7f8996bcc54e77069f70df4f491ea295ea9a", func := "loop.example/pub-g01449/laws.FnBracketsAnswer", spec := "fnBracketsAnswer", unfollowed := true, recurses := true, named := ["loop.example/pub-g01449/impl.classes"], apart := false, laid := [("loop.example/pub-g01449/impl.classes", laid_loop_example_pub_g01449_impl_classes)] }
def FnBracketsAnswerSaid : Prop := fnBracketsAnswerRow.holds Tryd.pinned (OpenSpec.ofChange fnBracketsAnswerSpec)

/-- ITS FALSE NEIGHBOUR: 'it returns false'. Refute it at one input. -/
def fnBracketsAnswerWrong : ChangeSpec := { name := "fnBracketsAnswer", vars := ["loop.example/pub-g01449/impl.classes"], fn := fun _ => fun
  | [d1, d2, d3, d4, d5, d6, g1] => { results := [.lit (.bool false)], args := [d1, d2, d3, d4, d5, d6], vars := [g1] }
  | _ => none }
def FnBracketsAnswerWrongFalsely : Prop := fnBracketsAnswerRow.holds Tryd.pinned (OpenSpec.ofChange fnBracketsAnswerWrong)

/-- 'laws.FnBracketsKeep': WHATEVER THE INPUT: true; the input reads as it did. -/
def fnBracketsKeepSpec : ChangeSpec := { name := "fnBracketsKeep", vars := ["loop.example/pub-g01449/impl.classes"], fn := fun _ => fun
  | [d1, d2, d3, d4, d5, d6, g1] => { results := [.lit (.bool true)], args := [d1, d2, d3, d4, d5, d6], vars := [g1] }
  | _ => none }
def fnBracketsKeepRow : OpenClaim := { program := "ytmaieenphcnefaadoor", sum := "e13633c7125d761ec73ed0deb34a7f8996bcc54e77069f70df4f491ea295ea9a", func := "loop.example/pub-g01449/laws.FnBracketsKeep", spec := "fnBracketsKeep", unfollowed := true, recurses := true, named := ["loop.example/pub-g01449/impl.classes"], apart := false, laid := [("loop.example/pub-g01449/impl.classes", laid_loop_example_pub_g01449_impl_classes)] }
def FnBracketsKeepSaid : Prop := fnBracketsKeepRow.holds Tryd.pinned (OpenSpec.ofChange fnBracketsKeepSpec)

/-- ITS FALSE NEIGHBOUR: 'it returns false'. Refute it at one input. -/
def fnBracketsKeepWrong : ChangeSpec := { name := "fnBracketsKeep", vars := ["loop.example/pub-g01449/impl.classes"], fn := fun _ => fun
  | [d1, d2, d3, d4, d5, d6, g1] => { results := [.lit (.bool false)], args := [d1, d2, d3, d4, d5, d6], vars := [g1] }
  | _ => none }
def FnBracketsKeepWrongFalsely : Prop := fnBracketsKeepRow.holds Tryd.pinned (OpenSpec.ofChange fnBracketsKeepWrong)

/- THE SECOND FORM. 'bulk': how many values and letters a reading holds, each counted each time it is reached (what is shared counts as often as it is met; a slice's spare places count too). A statement '..UptoSaid' is the law's where the arguments, and the package variables that the reading takes, are together of bulk at most 1048576: NARROWER than '..Said'. Prove '..Said' where nothing that the law and all that it calls make is longer than what came in: it says more and counts as full. Else prove '..UptoSaid'. A law counts once. -/
mutual
def uptoBulk {H : Type} : DataW H → Nat
  | .lit (.string bytes) => bytes.length + 1
  | .lit _ => 1
  | .nil => 1
  | .ptr d => uptoBulk d + 1
  | .slice elems spare => uptoBulkAll elems + uptoBulkAll spare + 1
  | .agg parts => uptoBulkAll parts + 1
  | .iface _ d => uptoBulk d + 1
  | .map entries => uptoBulkEntries entries + 1
  | .held _ => 1
def uptoBulkAll {H : Type} : List (DataW H) → Nat
  | [] => 0
  | d :: r => uptoBulk d + uptoBulkAll r
def uptoBulkEntries {H : Type} : List (Lit × DataW H) → Nat
  | [] => 0
  | x :: r => uptoBulkEntry x + uptoBulkEntries r
def uptoBulkEntry {H : Type} : Lit × DataW H → Nat
  | (.string bytes, d) => bytes.length + uptoBulk d + 1
  | (_, d) => uptoBulk d + 1
 end
def uptoSmall : (H : Type) → List (DataW H) → Bool := fun _ ds => decide (uptoBulkAll ds ≤ 1048576)
def OpenSpec.upto (s : _root_.Go.ChangeSpec) : _root_.Go.OpenSpec := { _root_.Go.OpenSpec.ofChange s with cond := some uptoSmall }

/-- 'laws.FnPairsAnswer', WHERE WHAT IT READS IS OF BULK AT MOST 1048576: true; the input reads as it did. -/
def fnPairsAnswerUptoRow : OpenClaim := { program := "ytmaieenphcnefaadoor", sum := "e13633c7125d761ec73ed0deb34a7f8996bcc54e77069f70df4f491ea295ea9a", func := "loop.example/pub-g01449/laws.FnPairsAnswer", spec := "fnPairsAnswer", unfollowed := true, recurses := true, named := ["loop.example/pub-g01449/impl.classes"], apart := false, laid := [("loop.example/pub-g01449/impl.classes", laid_loop_example_pub_g01449_impl_classes)], narrowed := true }
def FnPairsAnswerUptoSaid : Prop := fnPairsAnswerUptoRow.holds Tryd.pinned (OpenSpec.upto fnPairsAnswerSpec)

/-- 'laws.FnPairsDeep', WHERE WHAT IT READS IS OF BULK AT MOST 1048576: true; the input reads as it did. -/
def fnPairsDeepUptoRow : OpenClaim := { program := "ytmaieenphcnefaadoor", sum := "e13633c7125d761ec73ed0deb34a7f8996bcc54e77069f70df4f491ea295ea9a", func := "loop.example/pub-g01449/laws.FnPairsDeep", spec := "fnPairsDeep", unfollowed := true, recurses := true, named := ["loop.example/pub-g01449/impl.classes"], apart := false, laid := [("loop.example/pub-g01449/impl.classes", laid_loop_example_pub_g01449_impl_classes)], narrowed := true }
def FnPairsDeepUptoSaid : Prop := fnPairsDeepUptoRow.holds Tryd.pinned (OpenSpec.upto fnPairsDeepSpec)

/-- 'laws.FnPairsLie', WHERE WHAT IT READS IS OF BULK AT MOST 1048576: true; the input reads as it did. -/
def fnPairsLieUptoRow : OpenClaim := { program := "ytmaieenphcnefaadoor", sum := "e13633c7125d761ec73ed0deb34a7f8996bcc54e77069f70df4f491ea295ea9a", func := "loop.example/pub-g01449/laws.FnPairsLie", spec := "fnPairsLie", unfollowed := true, recurses := true, named := ["loop.example/pub-g01449/impl.classes"], apart := false, laid := [("loop.example/pub-g01449/impl.classes", laid_loop_example_pub_g01449_impl_classes)], narrowed := true }
def FnPairsLieUptoSaid : Prop := fnPairsLieUptoRow.holds Tryd.pinned (OpenSpec.upto fnPairsLieSpec)

/-- 'laws.FnBracketsAnswer', WHERE WHAT IT READS IS OF BULK AT MOST 1048576: true; the input reads as it did. -/
def fnBracketsAnswerUptoRow : OpenClaim := { program := "ytmaieenphcnefaadoor", sum := "e13633c7125d761ec73ed0deb34a7f8996bcc54e77069f70df4f491ea295ea9a", func := "loop.example/pub-g01449/laws.FnBracketsAnswer", spec := "fnBracketsAnswer", unfollowed := true, recurses := true, named := ["loop.example/pub-g01449/impl.classes"], apart := false, laid := [("loop.example/pub-g01449/impl.classes", laid_loop_example_pub_g01449_impl_classes)], narrowed := true }
def FnBracketsAnswerUptoSaid : Prop := fnBracketsAnswerUptoRow.holds Tryd.pinned (OpenSpec.upto fnBracketsAnswerSpec)

/-- 'laws.FnBracketsKeep', WHERE WHAT IT READS IS OF BULK AT MOST 1048576: true; the input reads as it did. -/
def fnBracketsKeepUptoRow : OpenClaim := { program := "ytmaieenphcnefaadoor", sum := "e13633c7125d761ec73ed0deb34a7f8996bcc54e77069f70df4f491ea295ea9a", func := "loop.example/pub-g01449/laws.FnBracketsKeep", spec := "fnBracketsKeep", unfollowed := true, recurses := true, named := ["loop.example/pub-g01449/impl.classes"], apart := false, laid := [("loop.example/pub-g01449/impl.classes", laid_loop_example_pub_g01449_impl_classes)], narrowed := true }
def FnBracketsKeepUptoSaid : Prop := fnBracketsKeepUptoRow.holds Tryd.pinned (OpenSpec.upto fnBracketsKeepSpec)

end Rows
end Go.Proofs.YtmaieenphcnefaaDoor
