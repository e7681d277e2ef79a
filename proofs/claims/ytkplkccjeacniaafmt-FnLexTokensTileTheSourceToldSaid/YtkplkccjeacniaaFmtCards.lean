/-
  DERIVED. GIVEN WITH THE SEED: THE CARDS: each row of YtkplkccjeacniaaFmtRows.lean that lists a variable, with what it lists TIED to the program's text (the seventh form; the later family's looks); each row that meets fmt, with fmt's text TOLD by the authors' own Lean function (tested against real Go, not proved from fmt's source: count such statements apart). THE CARD IS WHAT COUNTS. Prove the row's statement (the work); the ties are given (YtkplkccjeacniaaFmtTie.lean); close each card by the builder's one call (the guide's Derived/Test/ToyasCard.lean, 'card_holds'). Laid BY PROGRAM, IN A SANDBOX (cutbox-door.mjs). By AI agents, Wed Nov 11 2026. No macro, syntax, notation, axiom, sorry.
-/
import Derived.Test.YtkplkccjeacniaaFmtRows
import GoSem.ClaimSeven
namespace Go.Proofs.YtkplkccjeacniaaFmt
namespace Rows

/-- THE TOLD AND TIED CARD OF 'n003_74.FnLexTokensTileTheSource'. -/
def fnLexTokensTileTheSourceCard : Claim7 := { stood := { row := fnLexTokensTileTheSourceRow, standIns := [], harness := (true, "28f852f68b6bf2d560c0785c1b6f75127ab94bcbe3d52e2db48e33c204b19086"), looks := true }, told := true, laidByText := true, laidKinds := [.data, .listed, .data, .pinned, .pinned, .pinned], laidTests := true, laidLooks := .later, goes := false }
def FnLexTokensTileTheSourceToldSaid : Prop := Claim7.holds Tryf.pinned (.plain (OpenSpec.ofChange fnLexTokensTileTheSourceSpec)) fnLexTokensTileTheSourceCard
/-- ITS FALSE NEIGHBOUR. Refute it at one input. -/
def FnLexTokensTileTheSourceToldWrongFalsely : Prop := Claim7.holds Tryf.pinned (.plain (OpenSpec.ofChange fnLexTokensTileTheSourceWrong)) fnLexTokensTileTheSourceCard

/-- THE TOLD AND TIED CARD OF 'n003_74.FnNewLexersAreIndependent'. -/
def fnNewLexersAreIndependentCard : Claim7 := { stood := { row := fnNewLexersAreIndependentRow, standIns := [], harness := (true, "28f852f68b6bf2d560c0785c1b6f75127ab94bcbe3d52e2db48e33c204b19086"), looks := true }, told := true, laidByText := true, laidKinds := [.data, .listed, .data, .pinned, .pinned, .pinned], laidTests := true, laidLooks := .later, goes := false }
def FnNewLexersAreIndependentToldSaid : Prop := Claim7.holds Tryf.pinned (.plain (OpenSpec.ofChange fnNewLexersAreIndependentSpec)) fnNewLexersAreIndependentCard
/-- ITS FALSE NEIGHBOUR. Refute it at one input. -/
def FnNewLexersAreIndependentToldWrongFalsely : Prop := Claim7.holds Tryf.pinned (.plain (OpenSpec.ofChange fnNewLexersAreIndependentWrong)) fnNewLexersAreIndependentCard
end Rows
end Go.Proofs.YtkplkccjeacniaaFmt
