/-
  DERIVED. GIVEN WITH THE SEED: THE CARDS: each row of YtjelgbfgciaapaaDoorRows.lean that lists a variable, with what it lists TIED to the program's text (the seventh form; the later family's looks); each row that meets fmt, with fmt's text TOLD by the authors' own Lean function (tested against real Go, not proved from fmt's source: count such statements apart). THE CARD IS WHAT COUNTS. Prove the row's statement (the work); the ties are given (YtjelgbfgciaapaaDoorTie.lean); close each card by the builder's one call (the guide's Derived/Test/ToyasCard.lean, 'card_holds'). Laid BY PROGRAM, IN A SANDBOX (cutbox-door.mjs). By AI agents, Wed Nov 11 2026. No macro, syntax, notation, axiom, sorry.
-/
import Derived.Test.YtjelgbfgciaapaaDoorRows
import GoSem.ClaimSeven
namespace Go.Proofs.YtjelgbfgciaapaaDoor
namespace Rows

/-- THE TIED CARD OF 'laws.FnExplicitAnswer'. -/
def fnExplicitAnswerCard : Claim7 := { stood := { row := fnExplicitAnswerRow, standIns := [], harness := (true, "066c4e26d7f09d81d45a9516f5d4f368d665f876c0d127d3a0c57a76179dd6f1"), looks := false }, kinds := [], alts := [], laidByText := true, laidKinds := [.data], laidTests := true, laidLooks := .later }
def FnExplicitAnswerCardSaid : Prop := Claim7.holds Tryd.pinned (.plain (OpenSpec.ofChange fnExplicitAnswerSpec)) fnExplicitAnswerCard

/-- THE TIED CARD OF 'laws.FnExplicitDepth'. -/
def fnExplicitDepthCard : Claim7 := { stood := { row := fnExplicitDepthRow, standIns := [], harness := (true, "066c4e26d7f09d81d45a9516f5d4f368d665f876c0d127d3a0c57a76179dd6f1"), looks := false }, kinds := [], alts := [], laidByText := true, laidKinds := [.data], laidTests := true, laidLooks := .later }
def FnExplicitDepthCardSaid : Prop := Claim7.holds Tryd.pinned (.plain (OpenSpec.ofChange fnExplicitDepthSpec)) fnExplicitDepthCard

/-- THE TIED CARD OF 'laws.FnExplicitPlain'. -/
def fnExplicitPlainCard : Claim7 := { stood := { row := fnExplicitPlainRow, standIns := [], harness := (true, "066c4e26d7f09d81d45a9516f5d4f368d665f876c0d127d3a0c57a76179dd6f1"), looks := false }, kinds := [], alts := [], laidByText := true, laidKinds := [.data], laidTests := true, laidLooks := .later }
def FnExplicitPlainCardSaid : Prop := Claim7.holds Tryd.pinned (.plain (OpenSpec.ofChange fnExplicitPlainSpec)) fnExplicitPlainCard

/-- THE TIED CARD OF 'laws.FnLevelRunsAnswer'. -/
def fnLevelRunsAnswerCard : Claim7 := { stood := { row := fnLevelRunsAnswerRow, standIns := [], harness := (true, "066c4e26d7f09d81d45a9516f5d4f368d665f876c0d127d3a0c57a76179dd6f1"), looks := false }, kinds := [], alts := [], laidByText := true, laidKinds := [.data], laidTests := true, laidLooks := .later }
def FnLevelRunsAnswerCardSaid : Prop := Claim7.holds Tryd.pinned (.plain (OpenSpec.ofChange fnLevelRunsAnswerSpec)) fnLevelRunsAnswerCard

/-- THE TIED CARD OF 'laws.FnRunsCover'. -/
def fnRunsCoverCard : Claim7 := { stood := { row := fnRunsCoverRow, standIns := [], harness := (true, "066c4e26d7f09d81d45a9516f5d4f368d665f876c0d127d3a0c57a76179dd6f1"), looks := false }, kinds := [], alts := [], laidByText := true, laidKinds := [.data], laidTests := true, laidLooks := .later }
def FnRunsCoverCardSaid : Prop := Claim7.holds Tryd.pinned (.plain (OpenSpec.ofChange fnRunsCoverSpec)) fnRunsCoverCard

/-- THE TIED CARD OF 'laws.FnSequencesAnswer'. -/
def fnSequencesAnswerCard : Claim7 := { stood := { row := fnSequencesAnswerRow, standIns := [], harness := (true, "066c4e26d7f09d81d45a9516f5d4f368d665f876c0d127d3a0c57a76179dd6f1"), looks := false }, kinds := [], alts := [], laidByText := true, laidKinds := [.data], laidTests := true, laidLooks := .later }
def FnSequencesAnswerCardSaid : Prop := Claim7.holds Tryd.pinned (.plain (OpenSpec.ofChange fnSequencesAnswerSpec)) fnSequencesAnswerCard

/-- THE TIED CARD OF 'laws.FnRunsInSequences'. -/
def fnRunsInSequencesCard : Claim7 := { stood := { row := fnRunsInSequencesRow, standIns := [], harness := (true, "066c4e26d7f09d81d45a9516f5d4f368d665f876c0d127d3a0c57a76179dd6f1"), looks := false }, kinds := [], alts := [], laidByText := true, laidKinds := [.data], laidTests := true, laidLooks := .later }
def FnRunsInSequencesCardSaid : Prop := Claim7.holds Tryd.pinned (.plain (OpenSpec.ofChange fnRunsInSequencesSpec)) fnRunsInSequencesCard

/-- THE SECOND FORM's CARD OF 'laws.FnExplicitAnswer'. -/
def fnExplicitAnswerUptoCard : Claim7 := { stood := { row := fnExplicitAnswerUptoRow, standIns := [], harness := (true, "066c4e26d7f09d81d45a9516f5d4f368d665f876c0d127d3a0c57a76179dd6f1"), looks := false }, kinds := [], alts := [], laidByText := true, laidKinds := [.data], laidTests := true, laidLooks := .later }
def FnExplicitAnswerUptoCardSaid : Prop := Claim7.holds Tryd.pinned (.plain (OpenSpec.upto fnExplicitAnswerSpec)) fnExplicitAnswerUptoCard

/-- THE SECOND FORM's CARD OF 'laws.FnExplicitDepth'. -/
def fnExplicitDepthUptoCard : Claim7 := { stood := { row := fnExplicitDepthUptoRow, standIns := [], harness := (true, "066c4e26d7f09d81d45a9516f5d4f368d665f876c0d127d3a0c57a76179dd6f1"), looks := false }, kinds := [], alts := [], laidByText := true, laidKinds := [.data], laidTests := true, laidLooks := .later }
def FnExplicitDepthUptoCardSaid : Prop := Claim7.holds Tryd.pinned (.plain (OpenSpec.upto fnExplicitDepthSpec)) fnExplicitDepthUptoCard

/-- THE SECOND FORM's CARD OF 'laws.FnExplicitPlain'. -/
def fnExplicitPlainUptoCard : Claim7 := { stood := { row := fnExplicitPlainUptoRow, standIns := [], harness := (true, "066c4e26d7f09d81d45a9516f5d4f368d665f876c0d127d3a0c57a76179dd6f1"), looks := false }, kinds := [], alts := [], laidByText := true, laidKinds := [.data], laidTests := true, laidLooks := .later }
def FnExplicitPlainUptoCardSaid : Prop := Claim7.holds Tryd.pinned (.plain (OpenSpec.upto fnExplicitPlainSpec)) fnExplicitPlainUptoCard

/-- THE SECOND FORM's CARD OF 'laws.FnLevelRunsAnswer'. -/
def fnLevelRunsAnswerUptoCard : Claim7 := { stood := { row := fnLevelRunsAnswerUptoRow, standIns := [], harness := (true, "066c4e26d7f09d81d45a9516f5d4f368d665f876c0d127d3a0c57a76179dd6f1"), looks := false }, kinds := [], alts := [], laidByText := true, laidKinds := [.data], laidTests := true, laidLooks := .later }
def FnLevelRunsAnswerUptoCardSaid : Prop := Claim7.holds Tryd.pinned (.plain (OpenSpec.upto fnLevelRunsAnswerSpec)) fnLevelRunsAnswerUptoCard

/-- THE SECOND FORM's CARD OF 'laws.FnRunsCover'. -/
def fnRunsCoverUptoCard : Claim7 := { stood := { row := fnRunsCoverUptoRow, standIns := [], harness := (true, "066c4e26d7f09d81d45a9516f5d4f368d665f876c0d127d3a0c57a76179dd6f1"), looks := false }, kinds := [], alts := [], laidByText := true, laidKinds := [.data], laidTests := true, laidLooks := .later }
def FnRunsCoverUptoCardSaid : Prop := Claim7.holds Tryd.pinned (.plain (OpenSpec.upto fnRunsCoverSpec)) fnRunsCoverUptoCard

/-- THE SECOND FORM's CARD OF 'laws.FnSequencesAnswer'. -/
def fnSequencesAnswerUptoCard : Claim7 := { stood := { row := fnSequencesAnswerUptoRow, standIns := [], harness := (true, "066c4e26d7f09d81d45a9516f5d4f368d665f876c0d127d3a0c57a76179dd6f1"), looks := false }, kinds := [], alts := [], laidByText := true, laidKinds := [.data], laidTests := true, laidLooks := .later }
def FnSequencesAnswerUptoCardSaid : Prop := Claim7.holds Tryd.pinned (.plain (OpenSpec.upto fnSequencesAnswerSpec)) fnSequencesAnswerUptoCard

/-- THE SECOND FORM's CARD OF 'laws.FnRunsInSequences'. -/
def fnRunsInSequencesUptoCard : Claim7 := { stood := { row := fnRunsInSequencesUptoRow, standIns := [], harness := (true, "066c4e26d7f09d81d45a9516f5d4f368d665f876c0d127d3a0c57a76179dd6f1"), looks := false }, kinds := [], alts := [], laidByText := true, laidKinds := [.data], laidTests := true, laidLooks := .later }
def FnRunsInSequencesUptoCardSaid : Prop := Claim7.holds Tryd.pinned (.plain (OpenSpec.upto fnRunsInSequencesSpec)) fnRunsInSequencesUptoCard
end Rows
end Go.Proofs.YtjelgbfgciaapaaDoor
