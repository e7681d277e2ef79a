/-
  DERIVED. GIVEN WITH THE SEED: THE CARDS: each row of YtlgcocapondcmaaFmtRows.lean that lists a variable, with what it lists TIED to the program's text (the seventh form; the later family's looks); each row that meets fmt, with fmt's text TOLD by the authors' own Lean function (tested against real Go, not proved from fmt's source: count such statements apart). THE CARD IS WHAT COUNTS. Prove the row's statement (the work); the ties are given (YtlgcocapondcmaaFmtTie.lean); close each card by the builder's one call (the guide's Derived/Test/ToyasCard.lean, 'card_holds'). Laid BY PROGRAM, IN A SANDBOX (cutbox-door.mjs). By AI agents, Wed Nov 11 2026. No macro, syntax, notation, axiom, sorry.
-/
import Derived.Test.YtlgcocapondcmaaFmtRows
import GoSem.ClaimSeven
namespace Go.Proofs.YtlgcocapondcmaaFmt
namespace Rows

/-- THE TOLD AND TIED CARD OF 'n003_106.FnPointerHashRunThenName'. -/
def fnPointerHashRunThenNameCard : Claim7 := { stood := { row := fnPointerHashRunThenNameRow, standIns := [], harness := (true, "924735e34d1ffd877920264bf58cc55daeb9afced7d89b0fc5fe7fea7684d1ba"), looks := true }, told := true, laidByText := true, laidKinds := [.data, .listed, .data, .pinned, .pinned, .pinned], laidTests := true, laidLooks := .later, goes := false }
def FnPointerHashRunThenNameToldSaid : Prop := Claim7.holds Tryf.pinned (.plain (OpenSpec.ofChange fnPointerHashRunThenNameSpec)) fnPointerHashRunThenNameCard
/-- ITS FALSE NEIGHBOUR. Refute it at one input. -/
def FnPointerHashRunThenNameToldWrongFalsely : Prop := Claim7.holds Tryf.pinned (.plain (OpenSpec.ofChange fnPointerHashRunThenNameWrong)) fnPointerHashRunThenNameCard

/-- THE TOLD AND TIED CARD OF 'n003_106.FnPointerPrefixStable'. -/
def fnPointerPrefixStableCard : Claim7 := { stood := { row := fnPointerPrefixStableRow, standIns := [], harness := (true, "924735e34d1ffd877920264bf58cc55daeb9afced7d89b0fc5fe7fea7684d1ba"), looks := true }, told := true, laidByText := true, laidKinds := [.data, .listed, .data, .pinned, .pinned, .pinned], laidTests := true, laidLooks := .later, goes := false }
def FnPointerPrefixStableToldSaid : Prop := Claim7.holds Tryf.pinned (.plain (OpenSpec.ofChange fnPointerPrefixStableSpec)) fnPointerPrefixStableCard
/-- ITS FALSE NEIGHBOUR. Refute it at one input. -/
def FnPointerPrefixStableToldWrongFalsely : Prop := Claim7.holds Tryf.pinned (.plain (OpenSpec.ofChange fnPointerPrefixStableWrong)) fnPointerPrefixStableCard
end Rows
end Go.Proofs.YtlgcocapondcmaaFmt
