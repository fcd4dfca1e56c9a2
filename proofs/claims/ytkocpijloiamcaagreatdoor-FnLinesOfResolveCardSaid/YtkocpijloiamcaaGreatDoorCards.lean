/-
  DERIVED. GIVEN WITH THE SEED: THE CARDS: each row of YtkocpijloiamcaaGreatDoorRows.lean that lists a variable, with what it lists TIED to the program's text (the seventh form; the later family's looks); each row that meets fmt, with fmt's text TOLD by the authors' own Lean function (tested against real Go, not proved from fmt's source: count such statements apart). THE CARD IS WHAT COUNTS. Prove the row's statement (the work); the ties are given (YtkocpijloiamcaaGreatDoorTie.lean); close each card by the builder's one call (the guide's Derived/Test/ToyasCard.lean, 'card_holds'). Laid BY PROGRAM, IN A SANDBOX (cutbox-door.mjs). By AI agents, Wed Nov 11 2026. No macro, syntax, notation, axiom, sorry.
-/
import Derived.Test.YtkocpijloiamcaaGreatDoorRows
import GoSem.ClaimSeven
namespace Go.Proofs.YtkocpijloiamcaaGreatDoor
namespace Rows

/-- THE TIED CARD OF 'laws.FnOrderOfLines'. -/
def fnOrderOfLinesCard : Claim7 := { stood := { row := fnOrderOfLinesRow, standIns := [], harness := (true, "0bca4559b4e1c7a32cac949db22dee11971b12a50a362024190f0e0564d0d843"), looks := true }, kinds := [], alts := [], laidByText := true, laidKinds := [.data], laidTests := true, laidLooks := .later }
def FnOrderOfLinesCardSaid : Prop := Claim7.holds Tryz.pinned (.plain (OpenSpec.ofChange fnOrderOfLinesSpec)) fnOrderOfLinesCard

/-- THE TIED CARD OF 'laws.FnLinesOfResolve'. -/
def fnLinesOfResolveCard : Claim7 := { stood := { row := fnLinesOfResolveRow, standIns := [], harness := (true, "0bca4559b4e1c7a32cac949db22dee11971b12a50a362024190f0e0564d0d843"), looks := true }, kinds := [], alts := [], laidByText := true, laidKinds := [.data], laidTests := true, laidLooks := .later }
def FnLinesOfResolveCardSaid : Prop := Claim7.holds Tryz.pinned (.plain (OpenSpec.ofChange fnLinesOfResolveSpec)) fnLinesOfResolveCard

/-- THE SECOND FORM's CARD OF 'laws.FnOrderOfLines'. -/
def fnOrderOfLinesUptoCard : Claim7 := { stood := { row := fnOrderOfLinesUptoRow, standIns := [], harness := (true, "0bca4559b4e1c7a32cac949db22dee11971b12a50a362024190f0e0564d0d843"), looks := true }, kinds := [], alts := [], laidByText := true, laidKinds := [.data], laidTests := true, laidLooks := .later }
def FnOrderOfLinesUptoCardSaid : Prop := Claim7.holds Tryz.pinned (.plain (OpenSpec.upto fnOrderOfLinesSpec)) fnOrderOfLinesUptoCard

/-- THE SECOND FORM's CARD OF 'laws.FnLinesOfResolve'. -/
def fnLinesOfResolveUptoCard : Claim7 := { stood := { row := fnLinesOfResolveUptoRow, standIns := [], harness := (true, "0bca4559b4e1c7a32cac949db22dee11971b12a50a362024190f0e0564d0d843"), looks := true }, kinds := [], alts := [], laidByText := true, laidKinds := [.data], laidTests := true, laidLooks := .later }
def FnLinesOfResolveUptoCardSaid : Prop := Claim7.holds Tryz.pinned (.plain (OpenSpec.upto fnLinesOfResolveSpec)) fnLinesOfResolveUptoCard
end Rows
end Go.Proofs.YtkocpijloiamcaaGreatDoor
