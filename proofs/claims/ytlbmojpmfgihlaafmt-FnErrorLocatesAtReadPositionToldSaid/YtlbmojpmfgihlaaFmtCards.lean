/-
  DERIVED. GIVEN WITH THE SEED: THE CARDS: each row of YtlbmojpmfgihlaaFmtRows.lean that lists a variable, with what it lists TIED to the program's text (the seventh form; the later family's looks); each row that meets fmt, with fmt's text TOLD by the authors' own Lean function (tested against real Go, not proved from fmt's source: count such statements apart). THE CARD IS WHAT COUNTS. Prove the row's statement (the work); the ties are given (YtlbmojpmfgihlaaFmtTie.lean); close each card by the builder's one call (the guide's Derived/Test/ToyasCard.lean, 'card_holds'). Laid BY PROGRAM, IN A SANDBOX (cutbox-door.mjs). By AI agents, Wed Nov 11 2026. No macro, syntax, notation, axiom, sorry.
-/
import Derived.Test.YtlbmojpmfgihlaaFmtRows
import GoSem.ClaimSeven
namespace Go.Proofs.YtlbmojpmfgihlaaFmt
namespace Rows

/-- THE TOLD AND TIED CARD OF 'n003_49.FnScanDigitsHexCaseInsensitive'. -/
def fnScanDigitsHexCaseInsensitiveCard : Claim7 := { stood := { row := fnScanDigitsHexCaseInsensitiveRow, standIns := [], harness := (true, "f4334faa357f3647db49f4bb6081f5a1e9c5d58d63b8f393590222963df780b8"), looks := false }, told := true, laidByText := true, laidKinds := [.data, .listed, .data, .pinned, .pinned, .pinned], laidTests := true, laidLooks := .later, goes := false }
def FnScanDigitsHexCaseInsensitiveToldSaid : Prop := Claim7.holds Tryf.pinned (.plain (OpenSpec.ofChange fnScanDigitsHexCaseInsensitiveSpec)) fnScanDigitsHexCaseInsensitiveCard
/-- ITS FALSE NEIGHBOUR. Refute it at one input. -/
def FnScanDigitsHexCaseInsensitiveToldWrongFalsely : Prop := Claim7.holds Tryf.pinned (.plain (OpenSpec.ofChange fnScanDigitsHexCaseInsensitiveWrong)) fnScanDigitsHexCaseInsensitiveCard

/-- THE TOLD AND TIED CARD OF 'n003_49.FnScanEscapeLooksAtMostTenRunes'. -/
def fnScanEscapeLooksAtMostTenRunesCard : Claim7 := { stood := { row := fnScanEscapeLooksAtMostTenRunesRow, standIns := [], harness := (true, "f4334faa357f3647db49f4bb6081f5a1e9c5d58d63b8f393590222963df780b8"), looks := false }, told := true, laidByText := true, laidKinds := [.data, .listed, .data, .pinned, .pinned, .pinned], laidTests := true, laidLooks := .later, goes := false }
def FnScanEscapeLooksAtMostTenRunesToldSaid : Prop := Claim7.holds Tryf.pinned (.plain (OpenSpec.ofChange fnScanEscapeLooksAtMostTenRunesSpec)) fnScanEscapeLooksAtMostTenRunesCard
/-- ITS FALSE NEIGHBOUR. Refute it at one input. -/
def FnScanEscapeLooksAtMostTenRunesToldWrongFalsely : Prop := Claim7.holds Tryf.pinned (.plain (OpenSpec.ofChange fnScanEscapeLooksAtMostTenRunesWrong)) fnScanEscapeLooksAtMostTenRunesCard

/-- THE TOLD AND TIED CARD OF 'n003_49.FnErrorLocatesAtReadPosition'. -/
def fnErrorLocatesAtReadPositionCard : Claim7 := { stood := { row := fnErrorLocatesAtReadPositionRow, standIns := [], harness := (true, "f4334faa357f3647db49f4bb6081f5a1e9c5d58d63b8f393590222963df780b8"), looks := false }, told := true, laidByText := true, laidKinds := [.data, .listed, .data, .pinned, .pinned, .pinned], laidTests := true, laidLooks := .later, goes := false }
def FnErrorLocatesAtReadPositionToldSaid : Prop := Claim7.holds Tryf.pinned (.plain (OpenSpec.ofChange fnErrorLocatesAtReadPositionSpec)) fnErrorLocatesAtReadPositionCard
/-- ITS FALSE NEIGHBOUR. Refute it at one input. -/
def FnErrorLocatesAtReadPositionToldWrongFalsely : Prop := Claim7.holds Tryf.pinned (.plain (OpenSpec.ofChange fnErrorLocatesAtReadPositionWrong)) fnErrorLocatesAtReadPositionCard
end Rows
end Go.Proofs.YtlbmojpmfgihlaaFmt
