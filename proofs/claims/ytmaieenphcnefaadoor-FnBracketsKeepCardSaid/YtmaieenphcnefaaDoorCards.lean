/-
  DERIVED. GIVEN WITH THE SEED: THE CARDS: each row of YtmaieenphcnefaaDoorRows.lean that lists a variable, with what it lists TIED to the program's text (the seventh form; the later family's looks); each row that meets fmt, with fmt's text TOLD by the authors' own Lean function (tested against real Go, not proved from fmt's source: count such statements apart). THE CARD IS WHAT COUNTS. Prove the row's statement (the work); the ties are given (YtmaieenphcnefaaDoorTie.lean); close each card by the builder's one call (the guide's Derived/Test/ToyasCard.lean, 'card_holds'). Laid BY PROGRAM, IN A SANDBOX (cutbox-door.mjs). By AI agents, Wed Nov 11 2026. No macro, syntax, notation, axiom, sorry.
-/
import Derived.Test.YtmaieenphcnefaaDoorRows
import GoSem.ClaimSeven
namespace Go.Proofs.YtmaieenphcnefaaDoor
namespace Rows

/-- THE TIED CARD OF 'laws.FnPairsAnswer'. -/
def fnPairsAnswerCard : Claim7 := { stood := { row := fnPairsAnswerRow, standIns := [], harness := (true, "2358ed2959cbff2f60558b0dc76d2bc9494e58ca0c123b888b6674964871da01"), looks := true }, kinds := [], alts := [], laidByText := true, laidKinds := [.data], laidTests := true, laidLooks := .later }
def FnPairsAnswerCardSaid : Prop := Claim7.holds Tryd.pinned (.plain (OpenSpec.ofChange fnPairsAnswerSpec)) fnPairsAnswerCard

/-- THE TIED CARD OF 'laws.FnPairsDeep'. -/
def fnPairsDeepCard : Claim7 := { stood := { row := fnPairsDeepRow, standIns := [], harness := (true, "2358ed2959cbff2f60558b0dc76d2bc9494e58ca0c123b888b6674964871da01"), looks := true }, kinds := [], alts := [], laidByText := true, laidKinds := [.data], laidTests := true, laidLooks := .later }
def FnPairsDeepCardSaid : Prop := Claim7.holds Tryd.pinned (.plain (OpenSpec.ofChange fnPairsDeepSpec)) fnPairsDeepCard

/-- THE TIED CARD OF 'laws.FnPairsLie'. -/
def fnPairsLieCard : Claim7 := { stood := { row := fnPairsLieRow, standIns := [], harness := (true, "2358ed2959cbff2f60558b0dc76d2bc9494e58ca0c123b888b6674964871da01"), looks := true }, kinds := [], alts := [], laidByText := true, laidKinds := [.data], laidTests := true, laidLooks := .later }
def FnPairsLieCardSaid : Prop := Claim7.holds Tryd.pinned (.plain (OpenSpec.ofChange fnPairsLieSpec)) fnPairsLieCard

/-- THE TIED CARD OF 'laws.FnBracketsAnswer'. -/
def fnBracketsAnswerCard : Claim7 := { stood := { row := fnBracketsAnswerRow, standIns := [], harness := (true, "2358ed2959cbff2f60558b0dc76d2bc9494e58ca0c123b888b6674964871da01"), looks := true }, kinds := [], alts := [], laidByText := true, laidKinds := [.data], laidTests := true, laidLooks := .later }
def FnBracketsAnswerCardSaid : Prop := Claim7.holds Tryd.pinned (.plain (OpenSpec.ofChange fnBracketsAnswerSpec)) fnBracketsAnswerCard

/-- THE TIED CARD OF 'laws.FnBracketsKeep'. -/
def fnBracketsKeepCard : Claim7 := { stood := { row := fnBracketsKeepRow, standIns := [], harness := (true, "2358ed2959cbff2f60558b0dc76d2bc9494e58ca0c123b888b6674964871da01"), looks := true }, kinds := [], alts := [], laidByText := true, laidKinds := [.data], laidTests := true, laidLooks := .later }
def FnBracketsKeepCardSaid : Prop := Claim7.holds Tryd.pinned (.plain (OpenSpec.ofChange fnBracketsKeepSpec)) fnBracketsKeepCard

/-- THE SECOND FORM's CARD OF 'laws.FnPairsAnswer'. -/
def fnPairsAnswerUptoCard : Claim7 := { stood := { row := fnPairsAnswerUptoRow, standIns := [], harness := (true, "2358ed2959cbff2f60558b0dc76d2bc9494e58ca0c123b888b6674964871da01"), looks := true }, kinds := [], alts := [], laidByText := true, laidKinds := [.data], laidTests := true, laidLooks := .later }
def FnPairsAnswerUptoCardSaid : Prop := Claim7.holds Tryd.pinned (.plain (OpenSpec.upto fnPairsAnswerSpec)) fnPairsAnswerUptoCard

/-- THE SECOND FORM's CARD OF 'laws.FnPairsDeep'. -/
def fnPairsDeepUptoCard : Claim7 := { stood := { row := fnPairsDeepUptoRow, standIns := [], harness := (true, "2358ed2959cbff2f60558b0dc76d2bc9494e58ca0c123b888b6674964871da01"), looks := true }, kinds := [], alts := [], laidByText := true, laidKinds := [.data], laidTests := true, laidLooks := .later }
def FnPairsDeepUptoCardSaid : Prop := Claim7.holds Tryd.pinned (.plain (OpenSpec.upto fnPairsDeepSpec)) fnPairsDeepUptoCard

/-- THE SECOND FORM's CARD OF 'laws.FnPairsLie'. -/
def fnPairsLieUptoCard : Claim7 := { stood := { row := fnPairsLieUptoRow, standIns := [], harness := (true, "2358ed2959cbff2f60558b0dc76d2bc9494e58ca0c123b888b6674964871da01"), looks := true }, kinds := [], alts := [], laidByText := true, laidKinds := [.data], laidTests := true, laidLooks := .later }
def FnPairsLieUptoCardSaid : Prop := Claim7.holds Tryd.pinned (.plain (OpenSpec.upto fnPairsLieSpec)) fnPairsLieUptoCard

/-- THE SECOND FORM's CARD OF 'laws.FnBracketsAnswer'. -/
def fnBracketsAnswerUptoCard : Claim7 := { stood := { row := fnBracketsAnswerUptoRow, standIns := [], harness := (true, "2358ed2959cbff2f60558b0dc76d2bc9494e58ca0c123b888b6674964871da01"), looks := true }, kinds := [], alts := [], laidByText := true, laidKinds := [.data], laidTests := true, laidLooks := .later }
def FnBracketsAnswerUptoCardSaid : Prop := Claim7.holds Tryd.pinned (.plain (OpenSpec.upto fnBracketsAnswerSpec)) fnBracketsAnswerUptoCard

/-- THE SECOND FORM's CARD OF 'laws.FnBracketsKeep'. -/
def fnBracketsKeepUptoCard : Claim7 := { stood := { row := fnBracketsKeepUptoRow, standIns := [], harness := (true, "2358ed2959cbff2f60558b0dc76d2bc9494e58ca0c123b888b6674964871da01"), looks := true }, kinds := [], alts := [], laidByText := true, laidKinds := [.data], laidTests := true, laidLooks := .later }
def FnBracketsKeepUptoCardSaid : Prop := Claim7.holds Tryd.pinned (.plain (OpenSpec.upto fnBracketsKeepSpec)) fnBracketsKeepUptoCard
end Rows
end Go.Proofs.YtmaieenphcnefaaDoor
