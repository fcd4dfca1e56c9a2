/-
  DERIVED. GIVEN WITH THE SEED: THE CARDS: each row of YtnbhkjalpcoccaaDoorRows.lean that lists a variable, with what it lists TIED to the program's text (the seventh form; the later family's looks); each row that meets fmt, with fmt's text TOLD by the authors' own Lean function (tested against real Go, not proved from fmt's source: count such statements apart). THE CARD IS WHAT COUNTS. Prove the row's statement (the work); the ties are given (YtnbhkjalpcoccaaDoorTie.lean); close each card by the builder's one call (the guide's Derived/Test/ToyasCard.lean, 'card_holds'). Laid BY PROGRAM, IN A SANDBOX (cutbox-door.mjs). By AI agents, Wed Nov 11 2026. No macro, syntax, notation, axiom, sorry.
-/
import Derived.Test.YtnbhkjalpcoccaaDoorRows
import GoSem.ClaimSeven
namespace Go.Proofs.YtnbhkjalpcoccaaDoor
namespace Rows

/-- THE TIED CARD OF 'laws.FnNeutralAnswer'. -/
def fnNeutralAnswerCard : Claim7 := { stood := { row := fnNeutralAnswerRow, standIns := [], harness := (true, "ee64b8c3eb6856c513fa4a48fafbe246809e611cd3808efc407a2198d56c0698"), looks := false }, kinds := [], alts := [], laidByText := true, laidKinds := [.data], laidTests := true, laidLooks := .later }
def FnNeutralAnswerCardSaid : Prop := Claim7.holds Tryd.pinned (.plain (OpenSpec.ofChange fnNeutralAnswerSpec)) fnNeutralAnswerCard

/-- THE TIED CARD OF 'laws.FnNeutralKeeps'. -/
def fnNeutralKeepsCard : Claim7 := { stood := { row := fnNeutralKeepsRow, standIns := [], harness := (true, "ee64b8c3eb6856c513fa4a48fafbe246809e611cd3808efc407a2198d56c0698"), looks := false }, kinds := [], alts := [], laidByText := true, laidKinds := [.data], laidTests := true, laidLooks := .later }
def FnNeutralKeepsCardSaid : Prop := Claim7.holds Tryd.pinned (.plain (OpenSpec.ofChange fnNeutralKeepsSpec)) fnNeutralKeepsCard

/-- THE TIED CARD OF 'laws.FnNeutralRefuses'. -/
def fnNeutralRefusesCard : Claim7 := { stood := { row := fnNeutralRefusesRow, standIns := [], harness := (true, "ee64b8c3eb6856c513fa4a48fafbe246809e611cd3808efc407a2198d56c0698"), looks := false }, kinds := [], alts := [], laidByText := true, laidKinds := [.data], laidTests := true, laidLooks := .later }
def FnNeutralRefusesCardSaid : Prop := Claim7.holds Tryd.pinned (.plain (OpenSpec.ofChange fnNeutralRefusesSpec)) fnNeutralRefusesCard

/-- THE TIED CARD OF 'laws.FnWeakAnswer'. -/
def fnWeakAnswerCard : Claim7 := { stood := { row := fnWeakAnswerRow, standIns := [], harness := (true, "ee64b8c3eb6856c513fa4a48fafbe246809e611cd3808efc407a2198d56c0698"), looks := false }, kinds := [], alts := [], laidByText := true, laidKinds := [.data], laidTests := true, laidLooks := .later }
def FnWeakAnswerCardSaid : Prop := Claim7.holds Tryd.pinned (.plain (OpenSpec.ofChange fnWeakAnswerSpec)) fnWeakAnswerCard

/-- THE TIED CARD OF 'laws.FnWeakRefuses'. -/
def fnWeakRefusesCard : Claim7 := { stood := { row := fnWeakRefusesRow, standIns := [], harness := (true, "ee64b8c3eb6856c513fa4a48fafbe246809e611cd3808efc407a2198d56c0698"), looks := false }, kinds := [], alts := [], laidByText := true, laidKinds := [.data], laidTests := true, laidLooks := .later }
def FnWeakRefusesCardSaid : Prop := Claim7.holds Tryd.pinned (.plain (OpenSpec.ofChange fnWeakRefusesSpec)) fnWeakRefusesCard

/-- THE TIED CARD OF 'laws.FnWeakSteady'. -/
def fnWeakSteadyCard : Claim7 := { stood := { row := fnWeakSteadyRow, standIns := [], harness := (true, "ee64b8c3eb6856c513fa4a48fafbe246809e611cd3808efc407a2198d56c0698"), looks := false }, kinds := [], alts := [], laidByText := true, laidKinds := [.data], laidTests := true, laidLooks := .later }
def FnWeakSteadyCardSaid : Prop := Claim7.holds Tryd.pinned (.plain (OpenSpec.ofChange fnWeakSteadySpec)) fnWeakSteadyCard

/-- THE TIED CARD OF 'laws.FnWeakTwice'. -/
def fnWeakTwiceCard : Claim7 := { stood := { row := fnWeakTwiceRow, standIns := [], harness := (true, "ee64b8c3eb6856c513fa4a48fafbe246809e611cd3808efc407a2198d56c0698"), looks := false }, kinds := [], alts := [], laidByText := true, laidKinds := [.data], laidTests := true, laidLooks := .later }
def FnWeakTwiceCardSaid : Prop := Claim7.holds Tryd.pinned (.plain (OpenSpec.ofChange fnWeakTwiceSpec)) fnWeakTwiceCard

/-- THE SECOND FORM's CARD OF 'laws.FnNeutralAnswer'. -/
def fnNeutralAnswerUptoCard : Claim7 := { stood := { row := fnNeutralAnswerUptoRow, standIns := [], harness := (true, "ee64b8c3eb6856c513fa4a48fafbe246809e611cd3808efc407a2198d56c0698"), looks := false }, kinds := [], alts := [], laidByText := true, laidKinds := [.data], laidTests := true, laidLooks := .later }
def FnNeutralAnswerUptoCardSaid : Prop := Claim7.holds Tryd.pinned (.plain (OpenSpec.upto fnNeutralAnswerSpec)) fnNeutralAnswerUptoCard

/-- THE SECOND FORM's CARD OF 'laws.FnNeutralKeeps'. -/
def fnNeutralKeepsUptoCard : Claim7 := { stood := { row := fnNeutralKeepsUptoRow, standIns := [], harness := (true, "ee64b8c3eb6856c513fa4a48fafbe246809e611cd3808efc407a2198d56c0698"), looks := false }, kinds := [], alts := [], laidByText := true, laidKinds := [.data], laidTests := true, laidLooks := .later }
def FnNeutralKeepsUptoCardSaid : Prop := Claim7.holds Tryd.pinned (.plain (OpenSpec.upto fnNeutralKeepsSpec)) fnNeutralKeepsUptoCard

/-- THE SECOND FORM's CARD OF 'laws.FnNeutralRefuses'. -/
def fnNeutralRefusesUptoCard : Claim7 := { stood := { row := fnNeutralRefusesUptoRow, standIns := [], harness := (true, "ee64b8c3eb6856c513fa4a48fafbe246809e611cd3808efc407a2198d56c0698"), looks := false }, kinds := [], alts := [], laidByText := true, laidKinds := [.data], laidTests := true, laidLooks := .later }
def FnNeutralRefusesUptoCardSaid : Prop := Claim7.holds Tryd.pinned (.plain (OpenSpec.upto fnNeutralRefusesSpec)) fnNeutralRefusesUptoCard

/-- THE SECOND FORM's CARD OF 'laws.FnWeakAnswer'. -/
def fnWeakAnswerUptoCard : Claim7 := { stood := { row := fnWeakAnswerUptoRow, standIns := [], harness := (true, "ee64b8c3eb6856c513fa4a48fafbe246809e611cd3808efc407a2198d56c0698"), looks := false }, kinds := [], alts := [], laidByText := true, laidKinds := [.data], laidTests := true, laidLooks := .later }
def FnWeakAnswerUptoCardSaid : Prop := Claim7.holds Tryd.pinned (.plain (OpenSpec.upto fnWeakAnswerSpec)) fnWeakAnswerUptoCard

/-- THE SECOND FORM's CARD OF 'laws.FnWeakRefuses'. -/
def fnWeakRefusesUptoCard : Claim7 := { stood := { row := fnWeakRefusesUptoRow, standIns := [], harness := (true, "ee64b8c3eb6856c513fa4a48fafbe246809e611cd3808efc407a2198d56c0698"), looks := false }, kinds := [], alts := [], laidByText := true, laidKinds := [.data], laidTests := true, laidLooks := .later }
def FnWeakRefusesUptoCardSaid : Prop := Claim7.holds Tryd.pinned (.plain (OpenSpec.upto fnWeakRefusesSpec)) fnWeakRefusesUptoCard

/-- THE SECOND FORM's CARD OF 'laws.FnWeakSteady'. -/
def fnWeakSteadyUptoCard : Claim7 := { stood := { row := fnWeakSteadyUptoRow, standIns := [], harness := (true, "ee64b8c3eb6856c513fa4a48fafbe246809e611cd3808efc407a2198d56c0698"), looks := false }, kinds := [], alts := [], laidByText := true, laidKinds := [.data], laidTests := true, laidLooks := .later }
def FnWeakSteadyUptoCardSaid : Prop := Claim7.holds Tryd.pinned (.plain (OpenSpec.upto fnWeakSteadySpec)) fnWeakSteadyUptoCard

/-- THE SECOND FORM's CARD OF 'laws.FnWeakTwice'. -/
def fnWeakTwiceUptoCard : Claim7 := { stood := { row := fnWeakTwiceUptoRow, standIns := [], harness := (true, "ee64b8c3eb6856c513fa4a48fafbe246809e611cd3808efc407a2198d56c0698"), looks := false }, kinds := [], alts := [], laidByText := true, laidKinds := [.data], laidTests := true, laidLooks := .later }
def FnWeakTwiceUptoCardSaid : Prop := Claim7.holds Tryd.pinned (.plain (OpenSpec.upto fnWeakTwiceSpec)) fnWeakTwiceUptoCard
end Rows
end Go.Proofs.YtnbhkjalpcoccaaDoor
