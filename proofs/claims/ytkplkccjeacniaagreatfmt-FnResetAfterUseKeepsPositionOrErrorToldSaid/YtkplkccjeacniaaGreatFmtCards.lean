/-
  DERIVED. GIVEN WITH THE SEED: THE CARDS: each row of YtkplkccjeacniaaGreatFmtRows.lean that lists a variable, with what it lists TIED to the program's text (the seventh form; the later family's looks); each row that meets fmt, with fmt's text TOLD by the authors' own Lean function (tested against real Go, not proved from fmt's source: count such statements apart). THE CARD IS WHAT COUNTS. Prove the row's statement (the work); the ties are given (YtkplkccjeacniaaGreatFmtTie.lean); close each card by the builder's one call (the guide's Derived/Test/ToyasCard.lean, 'card_holds'). Laid BY PROGRAM, IN A SANDBOX (cutbox-door.mjs). By AI agents, Wed Nov 11 2026. No macro, syntax, notation, axiom, sorry.
-/
import Derived.Test.YtkplkccjeacniaaGreatFmtRows
import GoSem.ClaimSeven
namespace Go.Proofs.YtkplkccjeacniaaGreatFmt
namespace Rows

/-- THE TOLD AND TIED CARD OF 'n003_74.FnResetLastSourceWins'. -/
def fnResetLastSourceWinsCard : Claim7 := { stood := { row := fnResetLastSourceWinsRow, standIns := [], harness := (true, "ffc43a5a8eb8392443bcba6f8270826882227bf0447bc17781c4a58a3ee7e5d8"), looks := true }, told := true, laidByText := true, laidKinds := [.data, .listed, .data, .pinned, .pinned, .pinned], laidTests := true, laidLooks := .later, goes := false }
def FnResetLastSourceWinsToldSaid : Prop := Claim7.holds Tryz.pinned (.plain (OpenSpec.ofChange fnResetLastSourceWinsSpec)) fnResetLastSourceWinsCard
/-- ITS FALSE NEIGHBOUR. Refute it at one input. -/
def FnResetLastSourceWinsToldWrongFalsely : Prop := Claim7.holds Tryz.pinned (.plain (OpenSpec.ofChange fnResetLastSourceWinsWrong)) fnResetLastSourceWinsCard

/-- THE TOLD AND TIED CARD OF 'n003_74.FnNextAgreesWithLex'. -/
def fnNextAgreesWithLexCard : Claim7 := { stood := { row := fnNextAgreesWithLexRow, standIns := [], harness := (true, "ffc43a5a8eb8392443bcba6f8270826882227bf0447bc17781c4a58a3ee7e5d8"), looks := true }, told := true, laidByText := true, laidKinds := [.data, .listed, .data, .pinned, .pinned, .pinned], laidTests := true, laidLooks := .later, goes := false }
def FnNextAgreesWithLexToldSaid : Prop := Claim7.holds Tryz.pinned (.plain (OpenSpec.ofChange fnNextAgreesWithLexSpec)) fnNextAgreesWithLexCard
/-- ITS FALSE NEIGHBOUR. Refute it at one input. -/
def FnNextAgreesWithLexToldWrongFalsely : Prop := Claim7.holds Tryz.pinned (.plain (OpenSpec.ofChange fnNextAgreesWithLexWrong)) fnNextAgreesWithLexCard

/-- THE TOLD AND TIED CARD OF 'n003_74.FnLexSmallLanguageExact'. -/
def fnLexSmallLanguageExactCard : Claim7 := { stood := { row := fnLexSmallLanguageExactRow, standIns := [], harness := (true, "ffc43a5a8eb8392443bcba6f8270826882227bf0447bc17781c4a58a3ee7e5d8"), looks := true }, told := true, laidByText := true, laidKinds := [.data, .listed, .data, .pinned, .pinned, .pinned], laidTests := true, laidLooks := .later, goes := false }
def FnLexSmallLanguageExactToldSaid : Prop := Claim7.holds Tryz.pinned (.plain (OpenSpec.ofChange fnLexSmallLanguageExactSpec)) fnLexSmallLanguageExactCard
/-- ITS FALSE NEIGHBOUR. Refute it at one input. -/
def FnLexSmallLanguageExactToldWrongFalsely : Prop := Claim7.holds Tryz.pinned (.plain (OpenSpec.ofChange fnLexSmallLanguageExactWrong)) fnLexSmallLanguageExactCard

/-- THE TOLD AND TIED CARD OF 'n003_74.FnNextSmallLanguageExactThenExhausted'. -/
def fnNextSmallLanguageExactThenExhaustedCard : Claim7 := { stood := { row := fnNextSmallLanguageExactThenExhaustedRow, standIns := [], harness := (true, "ffc43a5a8eb8392443bcba6f8270826882227bf0447bc17781c4a58a3ee7e5d8"), looks := true }, told := true, laidByText := true, laidKinds := [.data, .listed, .data, .pinned, .pinned, .pinned], laidTests := true, laidLooks := .later, goes := false }
def FnNextSmallLanguageExactThenExhaustedToldSaid : Prop := Claim7.holds Tryz.pinned (.plain (OpenSpec.ofChange fnNextSmallLanguageExactThenExhaustedSpec)) fnNextSmallLanguageExactThenExhaustedCard
/-- ITS FALSE NEIGHBOUR. Refute it at one input. -/
def FnNextSmallLanguageExactThenExhaustedToldWrongFalsely : Prop := Claim7.holds Tryz.pinned (.plain (OpenSpec.ofChange fnNextSmallLanguageExactThenExhaustedWrong)) fnNextSmallLanguageExactThenExhaustedCard

/-- THE TOLD AND TIED CARD OF 'n003_74.FnResetAfterUseKeepsPositionOrError'. -/
def fnResetAfterUseKeepsPositionOrErrorCard : Claim7 := { stood := { row := fnResetAfterUseKeepsPositionOrErrorRow, standIns := [], harness := (true, "ffc43a5a8eb8392443bcba6f8270826882227bf0447bc17781c4a58a3ee7e5d8"), looks := true }, told := true, laidByText := true, laidKinds := [.data, .listed, .data, .pinned, .pinned, .pinned], laidTests := true, laidLooks := .later, goes := false }
def FnResetAfterUseKeepsPositionOrErrorToldSaid : Prop := Claim7.holds Tryz.pinned (.plain (OpenSpec.ofChange fnResetAfterUseKeepsPositionOrErrorSpec)) fnResetAfterUseKeepsPositionOrErrorCard
/-- ITS FALSE NEIGHBOUR. Refute it at one input. -/
def FnResetAfterUseKeepsPositionOrErrorToldWrongFalsely : Prop := Claim7.holds Tryz.pinned (.plain (OpenSpec.ofChange fnResetAfterUseKeepsPositionOrErrorWrong)) fnResetAfterUseKeepsPositionOrErrorCard
end Rows
end Go.Proofs.YtkplkccjeacniaaGreatFmt
