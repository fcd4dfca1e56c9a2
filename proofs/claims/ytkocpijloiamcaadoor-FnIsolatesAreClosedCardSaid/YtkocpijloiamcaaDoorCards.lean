/-
  DERIVED. GIVEN WITH THE SEED: THE CARDS: each row of YtkocpijloiamcaaDoorRows.lean that lists a variable, with what it lists TIED to the program's text (the seventh form; the later family's looks); each row that meets fmt, with fmt's text TOLD by the authors' own Lean function (tested against real Go, not proved from fmt's source: count such statements apart). THE CARD IS WHAT COUNTS. Prove the row's statement (the work); the ties are given (YtkocpijloiamcaaDoorTie.lean); close each card by the builder's one call (the guide's Derived/Test/ToyasCard.lean, 'card_holds'). Laid BY PROGRAM, IN A SANDBOX (cutbox-door.mjs). By AI agents, Wed Nov 11 2026. No macro, syntax, notation, axiom, sorry.
-/
import Derived.Test.YtkocpijloiamcaaDoorRows
import GoSem.ClaimSeven
namespace Go.Proofs.YtkocpijloiamcaaDoor
namespace Rows

/-- THE TIED CARD OF 'laws.FnPlainRow'. -/
def fnPlainRowCard : Claim7 := { stood := { row := fnPlainRowRow, standIns := [], harness := (true, "8bbeb0ac33c65290f09e2ab0f34305c6cc491d144867b404f8e8671862a0e227"), looks := true }, kinds := [], alts := [], laidByText := true, laidKinds := [.data], laidTests := true, laidLooks := .later }
def FnPlainRowCardSaid : Prop := Claim7.holds Tryd.pinned (.plain (OpenSpec.ofChange fnPlainRowSpec)) fnPlainRowCard

/-- THE TIED CARD OF 'laws.FnBoundaryNeutrals'. -/
def fnBoundaryNeutralsCard : Claim7 := { stood := { row := fnBoundaryNeutralsRow, standIns := [], harness := (true, "8bbeb0ac33c65290f09e2ab0f34305c6cc491d144867b404f8e8671862a0e227"), looks := true }, kinds := [], alts := [], laidByText := true, laidKinds := [.data], laidTests := true, laidLooks := .later }
def FnBoundaryNeutralsCardSaid : Prop := Claim7.holds Tryd.pinned (.plain (OpenSpec.ofChange fnBoundaryNeutralsSpec)) fnBoundaryNeutralsCard

/-- THE TIED CARD OF 'laws.FnFollowingText'. -/
def fnFollowingTextCard : Claim7 := { stood := { row := fnFollowingTextRow, standIns := [], harness := (true, "8bbeb0ac33c65290f09e2ab0f34305c6cc491d144867b404f8e8671862a0e227"), looks := true }, kinds := [], alts := [], laidByText := true, laidKinds := [.data], laidTests := true, laidLooks := .later }
def FnFollowingTextCardSaid : Prop := Claim7.holds Tryd.pinned (.plain (OpenSpec.ofChange fnFollowingTextSpec)) fnFollowingTextCard

/-- THE TIED CARD OF 'laws.FnIsolatesAreClosed'. -/
def fnIsolatesAreClosedCard : Claim7 := { stood := { row := fnIsolatesAreClosedRow, standIns := [], harness := (true, "8bbeb0ac33c65290f09e2ab0f34305c6cc491d144867b404f8e8671862a0e227"), looks := true }, kinds := [], alts := [], laidByText := true, laidKinds := [.data], laidTests := true, laidLooks := .later }
def FnIsolatesAreClosedCardSaid : Prop := Claim7.holds Tryd.pinned (.plain (OpenSpec.ofChange fnIsolatesAreClosedSpec)) fnIsolatesAreClosedCard

/-- THE TIED CARD OF 'laws.FnMirrored'. -/
def fnMirroredCard : Claim7 := { stood := { row := fnMirroredRow, standIns := [], harness := (true, "8bbeb0ac33c65290f09e2ab0f34305c6cc491d144867b404f8e8671862a0e227"), looks := true }, kinds := [], alts := [], laidByText := true, laidKinds := [.data], laidTests := true, laidLooks := .later }
def FnMirroredCardSaid : Prop := Claim7.holds Tryd.pinned (.plain (OpenSpec.ofChange fnMirroredSpec)) fnMirroredCard

/-- THE TIED CARD OF 'laws.FnSides'. -/
def fnSidesCard : Claim7 := { stood := { row := fnSidesRow, standIns := [], harness := (true, "8bbeb0ac33c65290f09e2ab0f34305c6cc491d144867b404f8e8671862a0e227"), looks := true }, kinds := [], alts := [], laidByText := true, laidKinds := [.data], laidTests := true, laidLooks := .later }
def FnSidesCardSaid : Prop := Claim7.holds Tryd.pinned (.plain (OpenSpec.ofChange fnSidesSpec)) fnSidesCard

/-- THE TIED CARD OF 'laws.FnParagraphLevel'. -/
def fnParagraphLevelCard : Claim7 := { stood := { row := fnParagraphLevelRow, standIns := [], harness := (true, "8bbeb0ac33c65290f09e2ab0f34305c6cc491d144867b404f8e8671862a0e227"), looks := true }, kinds := [], alts := [], laidByText := true, laidKinds := [.data], laidTests := true, laidLooks := .later }
def FnParagraphLevelCardSaid : Prop := Claim7.holds Tryd.pinned (.plain (OpenSpec.ofChange fnParagraphLevelSpec)) fnParagraphLevelCard

/-- THE SECOND FORM's CARD OF 'laws.FnPlainRow'. -/
def fnPlainRowUptoCard : Claim7 := { stood := { row := fnPlainRowUptoRow, standIns := [], harness := (true, "8bbeb0ac33c65290f09e2ab0f34305c6cc491d144867b404f8e8671862a0e227"), looks := true }, kinds := [], alts := [], laidByText := true, laidKinds := [.data], laidTests := true, laidLooks := .later }
def FnPlainRowUptoCardSaid : Prop := Claim7.holds Tryd.pinned (.plain (OpenSpec.upto fnPlainRowSpec)) fnPlainRowUptoCard

/-- THE SECOND FORM's CARD OF 'laws.FnBoundaryNeutrals'. -/
def fnBoundaryNeutralsUptoCard : Claim7 := { stood := { row := fnBoundaryNeutralsUptoRow, standIns := [], harness := (true, "8bbeb0ac33c65290f09e2ab0f34305c6cc491d144867b404f8e8671862a0e227"), looks := true }, kinds := [], alts := [], laidByText := true, laidKinds := [.data], laidTests := true, laidLooks := .later }
def FnBoundaryNeutralsUptoCardSaid : Prop := Claim7.holds Tryd.pinned (.plain (OpenSpec.upto fnBoundaryNeutralsSpec)) fnBoundaryNeutralsUptoCard

/-- THE SECOND FORM's CARD OF 'laws.FnFollowingText'. -/
def fnFollowingTextUptoCard : Claim7 := { stood := { row := fnFollowingTextUptoRow, standIns := [], harness := (true, "8bbeb0ac33c65290f09e2ab0f34305c6cc491d144867b404f8e8671862a0e227"), looks := true }, kinds := [], alts := [], laidByText := true, laidKinds := [.data], laidTests := true, laidLooks := .later }
def FnFollowingTextUptoCardSaid : Prop := Claim7.holds Tryd.pinned (.plain (OpenSpec.upto fnFollowingTextSpec)) fnFollowingTextUptoCard

/-- THE SECOND FORM's CARD OF 'laws.FnIsolatesAreClosed'. -/
def fnIsolatesAreClosedUptoCard : Claim7 := { stood := { row := fnIsolatesAreClosedUptoRow, standIns := [], harness := (true, "8bbeb0ac33c65290f09e2ab0f34305c6cc491d144867b404f8e8671862a0e227"), looks := true }, kinds := [], alts := [], laidByText := true, laidKinds := [.data], laidTests := true, laidLooks := .later }
def FnIsolatesAreClosedUptoCardSaid : Prop := Claim7.holds Tryd.pinned (.plain (OpenSpec.upto fnIsolatesAreClosedSpec)) fnIsolatesAreClosedUptoCard

/-- THE SECOND FORM's CARD OF 'laws.FnMirrored'. -/
def fnMirroredUptoCard : Claim7 := { stood := { row := fnMirroredUptoRow, standIns := [], harness := (true, "8bbeb0ac33c65290f09e2ab0f34305c6cc491d144867b404f8e8671862a0e227"), looks := true }, kinds := [], alts := [], laidByText := true, laidKinds := [.data], laidTests := true, laidLooks := .later }
def FnMirroredUptoCardSaid : Prop := Claim7.holds Tryd.pinned (.plain (OpenSpec.upto fnMirroredSpec)) fnMirroredUptoCard

/-- THE SECOND FORM's CARD OF 'laws.FnSides'. -/
def fnSidesUptoCard : Claim7 := { stood := { row := fnSidesUptoRow, standIns := [], harness := (true, "8bbeb0ac33c65290f09e2ab0f34305c6cc491d144867b404f8e8671862a0e227"), looks := true }, kinds := [], alts := [], laidByText := true, laidKinds := [.data], laidTests := true, laidLooks := .later }
def FnSidesUptoCardSaid : Prop := Claim7.holds Tryd.pinned (.plain (OpenSpec.upto fnSidesSpec)) fnSidesUptoCard

/-- THE SECOND FORM's CARD OF 'laws.FnParagraphLevel'. -/
def fnParagraphLevelUptoCard : Claim7 := { stood := { row := fnParagraphLevelUptoRow, standIns := [], harness := (true, "8bbeb0ac33c65290f09e2ab0f34305c6cc491d144867b404f8e8671862a0e227"), looks := true }, kinds := [], alts := [], laidByText := true, laidKinds := [.data], laidTests := true, laidLooks := .later }
def FnParagraphLevelUptoCardSaid : Prop := Claim7.holds Tryd.pinned (.plain (OpenSpec.upto fnParagraphLevelSpec)) fnParagraphLevelUptoCard
end Rows
end Go.Proofs.YtkocpijloiamcaaDoor
