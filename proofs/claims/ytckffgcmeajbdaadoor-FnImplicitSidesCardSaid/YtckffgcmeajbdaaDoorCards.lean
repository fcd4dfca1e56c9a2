/-
  DERIVED. GIVEN WITH THE SEED: THE CARDS: each row of YtckffgcmeajbdaaDoorRows.lean that lists a variable, with what it lists TIED to the program's text (the seventh form; the later family's looks); each row that meets fmt, with fmt's text TOLD by the authors' own Lean function (tested against real Go, not proved from fmt's source: count such statements apart). THE CARD IS WHAT COUNTS. Prove the row's statement (the work); the ties are given (YtckffgcmeajbdaaDoorTie.lean); close each card by the builder's one call (the guide's Derived/Test/ToyasCard.lean, 'card_holds'). Laid BY PROGRAM, IN A SANDBOX (cutbox-door.mjs). By AI agents, Wed Nov 11 2026. No macro, syntax, notation, axiom, sorry.
-/
import Derived.Test.YtckffgcmeajbdaaDoorRows
import GoSem.ClaimSeven
namespace Go.Proofs.YtckffgcmeajbdaaDoor
namespace Rows

/-- THE TIED CARD OF 'laws.FnIsolatesAnswer'. -/
def fnIsolatesAnswerCard : Claim7 := { stood := { row := fnIsolatesAnswerRow, standIns := [], harness := (true, "96922fd0c2f82b2a505371d7460b87101a51bbd81027a95bb9bfb435f65ff47e"), looks := false }, kinds := [], alts := [], laidByText := true, laidKinds := [.data], laidTests := true, laidLooks := .later }
def FnIsolatesAnswerCardSaid : Prop := Claim7.holds Tryd.pinned (.plain (OpenSpec.ofChange fnIsolatesAnswerSpec)) fnIsolatesAnswerCard

/-- THE TIED CARD OF 'laws.FnIsolatesMatch'. -/
def fnIsolatesMatchCard : Claim7 := { stood := { row := fnIsolatesMatchRow, standIns := [], harness := (true, "96922fd0c2f82b2a505371d7460b87101a51bbd81027a95bb9bfb435f65ff47e"), looks := false }, kinds := [], alts := [], laidByText := true, laidKinds := [.data], laidTests := true, laidLooks := .later }
def FnIsolatesMatchCardSaid : Prop := Claim7.holds Tryd.pinned (.plain (OpenSpec.ofChange fnIsolatesMatchSpec)) fnIsolatesMatchCard

/-- THE TIED CARD OF 'laws.FnEmbeddingAnswer'. -/
def fnEmbeddingAnswerCard : Claim7 := { stood := { row := fnEmbeddingAnswerRow, standIns := [], harness := (true, "96922fd0c2f82b2a505371d7460b87101a51bbd81027a95bb9bfb435f65ff47e"), looks := false }, kinds := [], alts := [], laidByText := true, laidKinds := [.data], laidTests := true, laidLooks := .later }
def FnEmbeddingAnswerCardSaid : Prop := Claim7.holds Tryd.pinned (.plain (OpenSpec.ofChange fnEmbeddingAnswerSpec)) fnEmbeddingAnswerCard

/-- THE TIED CARD OF 'laws.FnImplicitAnswer'. -/
def fnImplicitAnswerCard : Claim7 := { stood := { row := fnImplicitAnswerRow, standIns := [], harness := (true, "96922fd0c2f82b2a505371d7460b87101a51bbd81027a95bb9bfb435f65ff47e"), looks := false }, kinds := [], alts := [], laidByText := true, laidKinds := [.data], laidTests := true, laidLooks := .later }
def FnImplicitAnswerCardSaid : Prop := Claim7.holds Tryd.pinned (.plain (OpenSpec.ofChange fnImplicitAnswerSpec)) fnImplicitAnswerCard

/-- THE TIED CARD OF 'laws.FnImplicitRefuses'. -/
def fnImplicitRefusesCard : Claim7 := { stood := { row := fnImplicitRefusesRow, standIns := [], harness := (true, "96922fd0c2f82b2a505371d7460b87101a51bbd81027a95bb9bfb435f65ff47e"), looks := false }, kinds := [], alts := [], laidByText := true, laidKinds := [.data], laidTests := true, laidLooks := .later }
def FnImplicitRefusesCardSaid : Prop := Claim7.holds Tryd.pinned (.plain (OpenSpec.ofChange fnImplicitRefusesSpec)) fnImplicitRefusesCard

/-- THE TIED CARD OF 'laws.FnImplicitSides'. -/
def fnImplicitSidesCard : Claim7 := { stood := { row := fnImplicitSidesRow, standIns := [], harness := (true, "96922fd0c2f82b2a505371d7460b87101a51bbd81027a95bb9bfb435f65ff47e"), looks := false }, kinds := [], alts := [], laidByText := true, laidKinds := [.data], laidTests := true, laidLooks := .later }
def FnImplicitSidesCardSaid : Prop := Claim7.holds Tryd.pinned (.plain (OpenSpec.ofChange fnImplicitSidesSpec)) fnImplicitSidesCard

/-- THE SECOND FORM's CARD OF 'laws.FnIsolatesAnswer'. -/
def fnIsolatesAnswerUptoCard : Claim7 := { stood := { row := fnIsolatesAnswerUptoRow, standIns := [], harness := (true, "96922fd0c2f82b2a505371d7460b87101a51bbd81027a95bb9bfb435f65ff47e"), looks := false }, kinds := [], alts := [], laidByText := true, laidKinds := [.data], laidTests := true, laidLooks := .later }
def FnIsolatesAnswerUptoCardSaid : Prop := Claim7.holds Tryd.pinned (.plain (OpenSpec.upto fnIsolatesAnswerSpec)) fnIsolatesAnswerUptoCard

/-- THE SECOND FORM's CARD OF 'laws.FnIsolatesMatch'. -/
def fnIsolatesMatchUptoCard : Claim7 := { stood := { row := fnIsolatesMatchUptoRow, standIns := [], harness := (true, "96922fd0c2f82b2a505371d7460b87101a51bbd81027a95bb9bfb435f65ff47e"), looks := false }, kinds := [], alts := [], laidByText := true, laidKinds := [.data], laidTests := true, laidLooks := .later }
def FnIsolatesMatchUptoCardSaid : Prop := Claim7.holds Tryd.pinned (.plain (OpenSpec.upto fnIsolatesMatchSpec)) fnIsolatesMatchUptoCard

/-- THE SECOND FORM's CARD OF 'laws.FnEmbeddingAnswer'. -/
def fnEmbeddingAnswerUptoCard : Claim7 := { stood := { row := fnEmbeddingAnswerUptoRow, standIns := [], harness := (true, "96922fd0c2f82b2a505371d7460b87101a51bbd81027a95bb9bfb435f65ff47e"), looks := false }, kinds := [], alts := [], laidByText := true, laidKinds := [.data], laidTests := true, laidLooks := .later }
def FnEmbeddingAnswerUptoCardSaid : Prop := Claim7.holds Tryd.pinned (.plain (OpenSpec.upto fnEmbeddingAnswerSpec)) fnEmbeddingAnswerUptoCard

/-- THE SECOND FORM's CARD OF 'laws.FnImplicitAnswer'. -/
def fnImplicitAnswerUptoCard : Claim7 := { stood := { row := fnImplicitAnswerUptoRow, standIns := [], harness := (true, "96922fd0c2f82b2a505371d7460b87101a51bbd81027a95bb9bfb435f65ff47e"), looks := false }, kinds := [], alts := [], laidByText := true, laidKinds := [.data], laidTests := true, laidLooks := .later }
def FnImplicitAnswerUptoCardSaid : Prop := Claim7.holds Tryd.pinned (.plain (OpenSpec.upto fnImplicitAnswerSpec)) fnImplicitAnswerUptoCard

/-- THE SECOND FORM's CARD OF 'laws.FnImplicitRefuses'. -/
def fnImplicitRefusesUptoCard : Claim7 := { stood := { row := fnImplicitRefusesUptoRow, standIns := [], harness := (true, "96922fd0c2f82b2a505371d7460b87101a51bbd81027a95bb9bfb435f65ff47e"), looks := false }, kinds := [], alts := [], laidByText := true, laidKinds := [.data], laidTests := true, laidLooks := .later }
def FnImplicitRefusesUptoCardSaid : Prop := Claim7.holds Tryd.pinned (.plain (OpenSpec.upto fnImplicitRefusesSpec)) fnImplicitRefusesUptoCard

/-- THE SECOND FORM's CARD OF 'laws.FnImplicitSides'. -/
def fnImplicitSidesUptoCard : Claim7 := { stood := { row := fnImplicitSidesUptoRow, standIns := [], harness := (true, "96922fd0c2f82b2a505371d7460b87101a51bbd81027a95bb9bfb435f65ff47e"), looks := false }, kinds := [], alts := [], laidByText := true, laidKinds := [.data], laidTests := true, laidLooks := .later }
def FnImplicitSidesUptoCardSaid : Prop := Claim7.holds Tryd.pinned (.plain (OpenSpec.upto fnImplicitSidesSpec)) fnImplicitSidesUptoCard
end Rows
end Go.Proofs.YtckffgcmeajbdaaDoor
