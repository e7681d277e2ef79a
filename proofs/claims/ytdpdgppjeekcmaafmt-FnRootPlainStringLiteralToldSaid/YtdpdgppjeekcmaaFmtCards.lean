/-
  DERIVED. GIVEN WITH THE SEED: THE CARDS: each row of YtdpdgppjeekcmaaFmtRows.lean that lists a variable, with what it lists TIED to the program's text (the seventh form; the later family's looks); each row that meets fmt, with fmt's text TOLD by the authors' own Lean function (tested against real Go, not proved from fmt's source: count such statements apart). THE CARD IS WHAT COUNTS. Prove the row's statement (the work); the ties are given (YtdpdgppjeekcmaaFmtTie.lean); close each card by the builder's one call (the guide's Derived/Test/ToyasCard.lean, 'card_holds'). Laid BY PROGRAM, IN A SANDBOX (cutbox-door.mjs). By AI agents, Wed Nov 11 2026. No macro, syntax, notation, axiom, sorry.
-/
import Derived.Test.YtdpdgppjeekcmaaFmtRows
import GoSem.ClaimSeven
namespace Go.Proofs.YtdpdgppjeekcmaaFmt
namespace Rows

/-- THE TOLD AND TIED CARD OF 'n003_69.FnNumberIntegerLiteral'. -/
def fnNumberIntegerLiteralCard : Claim7 := { stood := { row := fnNumberIntegerLiteralRow, standIns := [], harness := (true, "2c4720680185ff747e6dab41def19ade79e0d2997ab7773939e98884aa3993cb"), looks := false }, told := true, laidByText := true, laidKinds := [.data, .listed, .data, .pinned, .pinned, .pinned], laidTests := true, laidLooks := .later, goes := false }
def FnNumberIntegerLiteralToldSaid : Prop := Claim7.holds Tryf.pinned (.plain (OpenSpec.ofChange fnNumberIntegerLiteralSpec)) fnNumberIntegerLiteralCard
/-- ITS FALSE NEIGHBOUR. Refute it at one input. -/
def FnNumberIntegerLiteralToldWrongFalsely : Prop := Claim7.holds Tryf.pinned (.plain (OpenSpec.ofChange fnNumberIntegerLiteralWrong)) fnNumberIntegerLiteralCard

/-- THE TOLD AND TIED CARD OF 'n003_69.FnRootPlainStringLiteral'. -/
def fnRootPlainStringLiteralCard : Claim7 := { stood := { row := fnRootPlainStringLiteralRow, standIns := [], harness := (true, "2c4720680185ff747e6dab41def19ade79e0d2997ab7773939e98884aa3993cb"), looks := false }, told := true, laidByText := true, laidKinds := [.data, .listed, .data, .pinned, .pinned, .pinned], laidTests := true, laidLooks := .later, goes := false }
def FnRootPlainStringLiteralToldSaid : Prop := Claim7.holds Tryf.pinned (.plain (OpenSpec.ofChange fnRootPlainStringLiteralSpec)) fnRootPlainStringLiteralCard
/-- ITS FALSE NEIGHBOUR. Refute it at one input. -/
def FnRootPlainStringLiteralToldWrongFalsely : Prop := Claim7.holds Tryf.pinned (.plain (OpenSpec.ofChange fnRootPlainStringLiteralWrong)) fnRootPlainStringLiteralCard

/-- THE TOLD AND TIED CARD OF 'n003_69.FnScanRawStringRoundTrip'. -/
def fnScanRawStringRoundTripCard : Claim7 := { stood := { row := fnScanRawStringRoundTripRow, standIns := [], harness := (true, "2c4720680185ff747e6dab41def19ade79e0d2997ab7773939e98884aa3993cb"), looks := false }, told := true, laidByText := true, laidKinds := [.data, .listed, .data, .pinned, .pinned, .pinned], laidTests := true, laidLooks := .later, goes := false }
def FnScanRawStringRoundTripToldSaid : Prop := Claim7.holds Tryf.pinned (.plain (OpenSpec.ofChange fnScanRawStringRoundTripSpec)) fnScanRawStringRoundTripCard
/-- ITS FALSE NEIGHBOUR. Refute it at one input. -/
def FnScanRawStringRoundTripToldWrongFalsely : Prop := Claim7.holds Tryf.pinned (.plain (OpenSpec.ofChange fnScanRawStringRoundTripWrong)) fnScanRawStringRoundTripCard

/-- THE TOLD AND TIED CARD OF 'n003_69.FnScanRawStringMatchesModel'. -/
def fnScanRawStringMatchesModelCard : Claim7 := { stood := { row := fnScanRawStringMatchesModelRow, standIns := [], harness := (true, "2c4720680185ff747e6dab41def19ade79e0d2997ab7773939e98884aa3993cb"), looks := false }, told := true, laidByText := true, laidKinds := [.data, .listed, .data, .pinned, .pinned, .pinned], laidTests := true, laidLooks := .later, goes := false }
def FnScanRawStringMatchesModelToldSaid : Prop := Claim7.holds Tryf.pinned (.plain (OpenSpec.ofChange fnScanRawStringMatchesModelSpec)) fnScanRawStringMatchesModelCard
/-- ITS FALSE NEIGHBOUR. Refute it at one input. -/
def FnScanRawStringMatchesModelToldWrongFalsely : Prop := Claim7.holds Tryf.pinned (.plain (OpenSpec.ofChange fnScanRawStringMatchesModelWrong)) fnScanRawStringMatchesModelCard

/-- THE TOLD AND TIED CARD OF 'n003_69.FnScanStringIgnoresWhatFollows'. -/
def fnScanStringIgnoresWhatFollowsCard : Claim7 := { stood := { row := fnScanStringIgnoresWhatFollowsRow, standIns := [], harness := (true, "2c4720680185ff747e6dab41def19ade79e0d2997ab7773939e98884aa3993cb"), looks := false }, told := true, laidByText := true, laidKinds := [.data, .listed, .data, .pinned, .pinned, .pinned], laidTests := true, laidLooks := .later, goes := false }
def FnScanStringIgnoresWhatFollowsToldSaid : Prop := Claim7.holds Tryf.pinned (.plain (OpenSpec.ofChange fnScanStringIgnoresWhatFollowsSpec)) fnScanStringIgnoresWhatFollowsCard
/-- ITS FALSE NEIGHBOUR. Refute it at one input. -/
def FnScanStringIgnoresWhatFollowsToldWrongFalsely : Prop := Claim7.holds Tryf.pinned (.plain (OpenSpec.ofChange fnScanStringIgnoresWhatFollowsWrong)) fnScanStringIgnoresWhatFollowsCard

/-- THE TOLD AND TIED CARD OF 'n003_69.FnScanStringMatchesEscapeGrammar'. -/
def fnScanStringMatchesEscapeGrammarCard : Claim7 := { stood := { row := fnScanStringMatchesEscapeGrammarRow, standIns := [], harness := (true, "2c4720680185ff747e6dab41def19ade79e0d2997ab7773939e98884aa3993cb"), looks := false }, told := true, laidByText := true, laidKinds := [.data, .listed, .data, .pinned, .pinned, .pinned], laidTests := true, laidLooks := .later, goes := false }
def FnScanStringMatchesEscapeGrammarToldSaid : Prop := Claim7.holds Tryf.pinned (.plain (OpenSpec.ofChange fnScanStringMatchesEscapeGrammarSpec)) fnScanStringMatchesEscapeGrammarCard
/-- ITS FALSE NEIGHBOUR. Refute it at one input. -/
def FnScanStringMatchesEscapeGrammarToldWrongFalsely : Prop := Claim7.holds Tryf.pinned (.plain (OpenSpec.ofChange fnScanStringMatchesEscapeGrammarWrong)) fnScanStringMatchesEscapeGrammarCard
end Rows
end Go.Proofs.YtdpdgppjeekcmaaFmt
