/-
  NARROWER THAN 'FOR EVERY INPUT', by the rows' own cells (each row's printed sentence says how): FnEmitTwoSegmentsExact: laid · FnEmitEOFExact: laid · FnSkipDropsPendingText: laid · FnEmitOneRuneTokensRebuildSource: laid · FnEmitValueExact: laid · FnEmitValueBackToBack: laid · FnEmitEOFRepeatStable: laid · FnSkipOnlyLastCounts: laid.
  DERIVED. THE GIVEN ROWS OF THIS SEAT. 8 by the template 'for every input the law returns true; each argument reads behind the call as it read before'; 0 by the template 'total and deterministic' (their statements: YtoopnllpocioiaaGreatFmtTotals.lean).
  GIVEN WITH THE SEED: the statements are not yours to turn. If you find one false, say at which input.
  Laid BY PROGRAM, IN A SANDBOX (cutbox-rows.mjs): the forced cells as the released guide's own fill.sh prints them over the translation b9a6b790dee0c712… (all of the seat's roots in one cut). By AI agents, Wed Nov 11 2026. No macro, syntax, notation, axiom, sorry.
-/
import Derived.Test.YtoopnllpocioiaaGreatFmtChecked
import GoSem.PinnedTables
import GoSem.Claim
import GoSem.ClaimJoined
import GoSem.ClaimMapViews
import Derived.JoinedTies
import Derived.KernelRfl
namespace Go.Proofs.YtoopnllpocioiaaGreatFmt
/- THE CELL 'sum', in the pinned program and in every row, IS THE sha256 OF THE DUMP (.gsa) THAT YtoopnllpocioiaaGreatFmtProg.lean LOADS. Nothing in Lean hashes anything: it is a label: what it is worth is what the hold of that sum in a sandbox is worth. -/
noncomputable def Tryz.pinned : Pinned := { name := "ytoopnllpocioiaagreatfmt", sum := "b9a6b790dee0c7122503efa20d1e1abe239c67de2060101fecc0c6f539fb94be", checked := Tryz.checked }
namespace Rows
def none {H : Type} : Left H := { results := [], args := [] }

/- WHAT THE LISTED PACKAGE-LEVEL VARIABLES READ AS WHEN THE CALL BEGINS. Each datum BY PROGRAM (the guide's laid-datum.mjs) off the statement by which the dump's own 'gosem.cut.vars' lays the variable. In a bare row this is a premise. The card (YtoopnllpocioiaaGreatFmtCards.lean) ties it to the program's text. -/
def laid_unicode_utf8_acceptRanges {H : Type} : DataW H := .agg [.agg [.lit (.int .u8 128), .lit (.int .u8 191)], .agg [.lit (.int .u8 160), .lit (.int .u8 191)], .agg [.lit (.int .u8 128), .lit (.int .u8 159)], .agg [.lit (.int .u8 144), .lit (.int .u8 191)], .agg [.lit (.int .u8 128), .lit (.int .u8 143)], .agg [.lit (.int .u8 0), .lit (.int .u8 0)], .agg [.lit (.int .u8 0), .lit (.int .u8 0)], .agg [.lit (.int .u8 0), .lit (.int .u8 0)], .agg [.lit (.int .u8 0), .lit (.int .u8 0)], .agg [.lit (.int .u8 0), .lit (.int .u8 0)], .agg [.lit (.int .u8 0), .lit (.int .u8 0)], .agg [.lit (.int .u8 0), .lit (.int .u8 0)], .agg [.lit (.int .u8 0), .lit (.int .u8 0)], .agg [.lit (.int .u8 0), .lit (.int .u8 0)], .agg [.lit (.int .u8 0), .lit (.int .u8 0)], .agg [.lit (.int .u8 0), .lit (.int .u8 0)]]
def laid_unicode_White_Space {H : Type} : DataW H := .ptr (.agg [.slice [.agg [.lit (.int .u16 9), .lit (.int .u16 13), .lit (.int .u16 1)], .agg [.lit (.int .u16 32), .lit (.int .u16 133), .lit (.int .u16 101)], .agg [.lit (.int .u16 160), .lit (.int .u16 5760), .lit (.int .u16 5600)], .agg [.lit (.int .u16 8192), .lit (.int .u16 8202), .lit (.int .u16 1)], .agg [.lit (.int .u16 8232), .lit (.int .u16 8233), .lit (.int .u16 1)], .agg [.lit (.int .u16 8239), .lit (.int .u16 8287), .lit (.int .u16 48)], .agg [.lit (.int .u16 12288), .lit (.int .u16 12288), .lit (.int .u16 1)]] [], .nil, .lit (.int .i64 2)])
def laid_unicode_properties {H : Type} : DataW H := .agg [.lit (.int .u8 1), .lit (.int .u8 1), .lit (.int .u8 1), .lit (.int .u8 1), .lit (.int .u8 1), .lit (.int .u8 1), .lit (.int .u8 1), .lit (.int .u8 1), .lit (.int .u8 1), .lit (.int .u8 1), .lit (.int .u8 1), .lit (.int .u8 1), .lit (.int .u8 1), .lit (.int .u8 1), .lit (.int .u8 1), .lit (.int .u8 1), .lit (.int .u8 1), .lit (.int .u8 1), .lit (.int .u8 1), .lit (.int .u8 1), .lit (.int .u8 1), .lit (.int .u8 1), .lit (.int .u8 1), .lit (.int .u8 1), .lit (.int .u8 1), .lit (.int .u8 1), .lit (.int .u8 1), .lit (.int .u8 1), .lit (.int .u8 1), .lit (.int .u8 1), .lit (.int .u8 1), .lit (.int .u8 1), .lit (.int .u8 144), .lit (.int .u8 130), .lit (.int .u8 130), .lit (.int .u8 130), .lit (.int .u8 136), .lit (.int .u8 130), .lit (.int .u8 130), .lit (.int .u8 130), .lit (.int .u8 130), .lit (.int .u8 130), .lit (.int .u8 130), .lit (.int .u8 136), .lit (.int .u8 130), .lit (.int .u8 130), .lit (.int .u8 130), .lit (.int .u8 130), .lit (.int .u8 132), .lit (.int .u8 132), .lit (.int .u8 132), .lit (.int .u8 132), .lit (.int .u8 132), .lit (.int .u8 132), .lit (.int .u8 132), .lit (.int .u8 132), .lit (.int .u8 132), .lit (.int .u8 132), .lit (.int .u8 130), .lit (.int .u8 130), .lit (.int .u8 136), .lit (.int .u8 136), .lit (.int .u8 136), .lit (.int .u8 130), .lit (.int .u8 130), .lit (.int .u8 160), .lit (.int .u8 160), .lit (.int .u8 160), .lit (.int .u8 160), .lit (.int .u8 160), .lit (.int .u8 160), .lit (.int .u8 160), .lit (.int .u8 160), .lit (.int .u8 160), .lit (.int .u8 160), .lit (.int .u8 160), .lit (.int .u8 160), .lit (.int .u8 160), .lit (.int .u8 160), .lit (.int .u8 160), .lit (.int .u8 160), .lit (.int .u8 160), .lit (.int .u8 160), .lit (.int .u8 160), .lit (.int .u8 160), .lit (.int .u8 160), .lit (.int .u8 160), .lit (.int .u8 160), .lit (.int .u8 160), .lit (.int .u8 160), .lit (.int .u8 160), .lit (.int .u8 130), .lit (.int .u8 130), .lit (.int .u8 130), .lit (.int .u8 136), .lit (.int .u8 130), .lit (.int .u8 136), .lit (.int .u8 192), .lit (.int .u8 192), .lit (.int .u8 192), .lit (.int .u8 192), .lit (.int .u8 192), .lit (.int .u8 192), .lit (.int .u8 192), .lit (.int .u8 192), .lit (.int .u8 192), .lit (.int .u8 192), .lit (.int .u8 192), .lit (.int .u8 192), .lit (.int .u8 192), .lit (.int .u8 192), .lit (.int .u8 192), .lit (.int .u8 192), .lit (.int .u8 192), .lit (.int .u8 192), .lit (.int .u8 192), .lit (.int .u8 192), .lit (.int .u8 192), .lit (.int .u8 192), .lit (.int .u8 192), .lit (.int .u8 192), .lit (.int .u8 192), .lit (.int .u8 192), .lit (.int .u8 130), .lit (.int .u8 136), .lit (.int .u8 130), .lit (.int .u8 136), .lit (.int .u8 1), .lit (.int .u8 1), .lit (.int .u8 1), .lit (.int .u8 1), .lit (.int .u8 1), .lit (.int .u8 1), .lit (.int .u8 1), .lit (.int .u8 1), .lit (.int .u8 1), .lit (.int .u8 1), .lit (.int .u8 1), .lit (.int .u8 1), .lit (.int .u8 1), .lit (.int .u8 1), .lit (.int .u8 1), .lit (.int .u8 1), .lit (.int .u8 1), .lit (.int .u8 1), .lit (.int .u8 1), .lit (.int .u8 1), .lit (.int .u8 1), .lit (.int .u8 1), .lit (.int .u8 1), .lit (.int .u8 1), .lit (.int .u8 1), .lit (.int .u8 1), .lit (.int .u8 1), .lit (.int .u8 1), .lit (.int .u8 1), .lit (.int .u8 1), .lit (.int .u8 1), .lit (.int .u8 1), .lit (.int .u8 1), .lit (.int .u8 16), .lit (.int .u8 130), .lit (.int .u8 136), .lit (.int .u8 136), .lit (.int .u8 136), .lit (.int .u8 136), .lit (.int .u8 136), .lit (.int .u8 130), .lit (.int .u8 136), .lit (.int .u8 136), .lit (.int .u8 224), .lit (.int .u8 130), .lit (.int .u8 136), .lit (.int .u8 0), .lit (.int .u8 136), .lit (.int .u8 136), .lit (.int .u8 136), .lit (.int .u8 136), .lit (.int .u8 132), .lit (.int .u8 132), .lit (.int .u8 136), .lit (.int .u8 192), .lit (.int .u8 130), .lit (.int .u8 130), .lit (.int .u8 136), .lit (.int .u8 132), .lit (.int .u8 224), .lit (.int .u8 130), .lit (.int .u8 132), .lit (.int .u8 132), .lit (.int .u8 132), .lit (.int .u8 130), .lit (.int .u8 160), .lit (.int .u8 160), .lit (.int .u8 160), .lit (.int .u8 160), .lit (.int .u8 160), .lit (.int .u8 160), .lit (.int .u8 160), .lit (.int .u8 160), .lit (.int .u8 160), .lit (.int .u8 160), .lit (.int .u8 160), .lit (.int .u8 160), .lit (.int .u8 160), .lit (.int .u8 160), .lit (.int .u8 160), .lit (.int .u8 160), .lit (.int .u8 160), .lit (.int .u8 160), .lit (.int .u8 160), .lit (.int .u8 160), .lit (.int .u8 160), .lit (.int .u8 160), .lit (.int .u8 160), .lit (.int .u8 136), .lit (.int .u8 160), .lit (.int .u8 160), .lit (.int .u8 160), .lit (.int .u8 160), .lit (.int .u8 160), .lit (.int .u8 160), .lit (.int .u8 160), .lit (.int .u8 192), .lit (.int .u8 192), .lit (.int .u8 192), .lit (.int .u8 192), .lit (.int .u8 192), .lit (.int .u8 192), .lit (.int .u8 192), .lit (.int .u8 192), .lit (.int .u8 192), .lit (.int .u8 192), .lit (.int .u8 192), .lit (.int .u8 192), .lit (.int .u8 192), .lit (.int .u8 192), .lit (.int .u8 192), .lit (.int .u8 192), .lit (.int .u8 192), .lit (.int .u8 192), .lit (.int .u8 192), .lit (.int .u8 192), .lit (.int .u8 192), .lit (.int .u8 192), .lit (.int .u8 192), .lit (.int .u8 192), .lit (.int .u8 136), .lit (.int .u8 192), .lit (.int .u8 192), .lit (.int .u8 192), .lit (.int .u8 192), .lit (.int .u8 192), .lit (.int .u8 192), .lit (.int .u8 192), .lit (.int .u8 192)]
/-- One of Go's own tables, pinned by name: the form's constant. -/
def laid_unicode_Digit : DataW Unit := Go.Pinned.digit
/-- One of Go's own tables, pinned by name: the form's constant. -/
def laid_unicode_Letter : DataW Unit := Go.Pinned.letter
/-- One of Go's own tables, pinned by name: the form's constant. -/
def laid_unicode_utf8_first : DataW Unit := Go.Pinned.utf8First

/-- 'n003_66.FnEmitTwoSegmentsExact': WHATEVER THE INPUT: true; the input reads as it did. -/
def fnEmitTwoSegmentsExactSpec : ChangeSpec := { name := "fnEmitTwoSegmentsExact", fn := fun _ => fun
  | [d1, d2, d3, d4] => { results := [.lit (.bool true)], args := [d1, d2, d3, d4] }
  | _ => none }
def fnEmitTwoSegmentsExactRow : OpenClaim := { program := "ytoopnllpocioiaagreatfmt", sum := "b9a6b790dee0c7122503efa20d1e1abe239c67de2060101fecc0c6f539fb94be", func := "github.com/expr-lang/expr/n003_66.FnEmitTwoSegmentsExact", spec := "fnEmitTwoSegmentsExact", stops := ["fmt.Sprintf, its operands' methods called", "fmt.errorf"], inPlace := ["fmt.Sprintf", "fmt.errorf", "internal/abi.NoEscape", "internal/bytealg.MakeNoZero", "internal/bytealg.IndexByteString"], unfollowed := true, recurses := true, named := ["unicode/utf8.first", "unicode/utf8.acceptRanges", "unicode.White_Space", "unicode.properties", "unicode.Letter", "unicode.Digit"], apart := false, laid := [("unicode/utf8.acceptRanges", laid_unicode_utf8_acceptRanges), ("unicode.White_Space", laid_unicode_White_Space), ("unicode.properties", laid_unicode_properties), ("unicode.Digit", laid_unicode_Digit), ("unicode.Letter", laid_unicode_Letter), ("unicode/utf8.first", laid_unicode_utf8_first)] }
/-- NO THEOREM (fmt's text is open here; it may be false): for the released tool's asking of the row's closed facts alone. THE STATEMENT IS 'FnEmitTwoSegmentsExactToldSaid' (YtoopnllpocioiaaGreatFmtCards.lean). -/
def FnEmitTwoSegmentsExactFormAsk : Prop := fnEmitTwoSegmentsExactRow.holds Tryz.pinned (OpenSpec.ofChange fnEmitTwoSegmentsExactSpec)

/-- ITS FALSE NEIGHBOUR: 'it returns false'. Refute it at one input. -/
def fnEmitTwoSegmentsExactWrong : ChangeSpec := { name := "fnEmitTwoSegmentsExact", fn := fun _ => fun
  | [d1, d2, d3, d4] => { results := [.lit (.bool false)], args := [d1, d2, d3, d4] }
  | _ => none }
def FnEmitTwoSegmentsExactWrongFormAsk : Prop := fnEmitTwoSegmentsExactRow.holds Tryz.pinned (OpenSpec.ofChange fnEmitTwoSegmentsExactWrong)

/-- 'n003_66.FnEmitEOFExact': WHATEVER THE INPUT: true; the input reads as it did. -/
def fnEmitEOFExactSpec : ChangeSpec := { name := "fnEmitEOFExact", fn := fun _ => fun
  | [d1, d2, d3] => { results := [.lit (.bool true)], args := [d1, d2, d3] }
  | _ => none }
def fnEmitEOFExactRow : OpenClaim := { program := "ytoopnllpocioiaagreatfmt", sum := "b9a6b790dee0c7122503efa20d1e1abe239c67de2060101fecc0c6f539fb94be", func := "github.com/expr-lang/expr/n003_66.FnEmitEOFExact", spec := "fnEmitEOFExact", stops := ["fmt.Sprintf, its operands' methods called", "fmt.errorf"], inPlace := ["fmt.Sprintf", "fmt.errorf", "internal/abi.NoEscape", "internal/bytealg.MakeNoZero", "internal/bytealg.IndexByteString"], unfollowed := true, recurses := true, named := ["unicode/utf8.first", "unicode/utf8.acceptRanges", "unicode.White_Space", "unicode.properties", "unicode.Letter", "unicode.Digit"], apart := false, laid := [("unicode/utf8.acceptRanges", laid_unicode_utf8_acceptRanges), ("unicode.White_Space", laid_unicode_White_Space), ("unicode.properties", laid_unicode_properties), ("unicode.Digit", laid_unicode_Digit), ("unicode.Letter", laid_unicode_Letter), ("unicode/utf8.first", laid_unicode_utf8_first)] }
/-- NO THEOREM (fmt's text is open here; it may be false): for the released tool's asking of the row's closed facts alone. THE STATEMENT IS 'FnEmitEOFExactToldSaid' (YtoopnllpocioiaaGreatFmtCards.lean). -/
def FnEmitEOFExactFormAsk : Prop := fnEmitEOFExactRow.holds Tryz.pinned (OpenSpec.ofChange fnEmitEOFExactSpec)

/-- ITS FALSE NEIGHBOUR: 'it returns false'. Refute it at one input. -/
def fnEmitEOFExactWrong : ChangeSpec := { name := "fnEmitEOFExact", fn := fun _ => fun
  | [d1, d2, d3] => { results := [.lit (.bool false)], args := [d1, d2, d3] }
  | _ => none }
def FnEmitEOFExactWrongFormAsk : Prop := fnEmitEOFExactRow.holds Tryz.pinned (OpenSpec.ofChange fnEmitEOFExactWrong)

/-- 'n003_66.FnSkipDropsPendingText': WHATEVER THE INPUT: true; the input reads as it did. -/
def fnSkipDropsPendingTextSpec : ChangeSpec := { name := "fnSkipDropsPendingText", fn := fun _ => fun
  | [d1, d2, d3, d4] => { results := [.lit (.bool true)], args := [d1, d2, d3, d4] }
  | _ => none }
def fnSkipDropsPendingTextRow : OpenClaim := { program := "ytoopnllpocioiaagreatfmt", sum := "b9a6b790dee0c7122503efa20d1e1abe239c67de2060101fecc0c6f539fb94be", func := "github.com/expr-lang/expr/n003_66.FnSkipDropsPendingText", spec := "fnSkipDropsPendingText", stops := ["fmt.Sprintf, its operands' methods called", "fmt.errorf"], inPlace := ["fmt.Sprintf", "fmt.errorf", "internal/abi.NoEscape", "internal/bytealg.MakeNoZero", "internal/bytealg.IndexByteString"], unfollowed := true, recurses := true, named := ["unicode/utf8.first", "unicode/utf8.acceptRanges", "unicode.White_Space", "unicode.properties", "unicode.Letter", "unicode.Digit"], apart := false, laid := [("unicode/utf8.acceptRanges", laid_unicode_utf8_acceptRanges), ("unicode.White_Space", laid_unicode_White_Space), ("unicode.properties", laid_unicode_properties), ("unicode.Digit", laid_unicode_Digit), ("unicode.Letter", laid_unicode_Letter), ("unicode/utf8.first", laid_unicode_utf8_first)] }
/-- NO THEOREM (fmt's text is open here; it may be false): for the released tool's asking of the row's closed facts alone. THE STATEMENT IS 'FnSkipDropsPendingTextToldSaid' (YtoopnllpocioiaaGreatFmtCards.lean). -/
def FnSkipDropsPendingTextFormAsk : Prop := fnSkipDropsPendingTextRow.holds Tryz.pinned (OpenSpec.ofChange fnSkipDropsPendingTextSpec)

/-- ITS FALSE NEIGHBOUR: 'it returns false'. Refute it at one input. -/
def fnSkipDropsPendingTextWrong : ChangeSpec := { name := "fnSkipDropsPendingText", fn := fun _ => fun
  | [d1, d2, d3, d4] => { results := [.lit (.bool false)], args := [d1, d2, d3, d4] }
  | _ => none }
def FnSkipDropsPendingTextWrongFormAsk : Prop := fnSkipDropsPendingTextRow.holds Tryz.pinned (OpenSpec.ofChange fnSkipDropsPendingTextWrong)

/-- 'n003_66.FnEmitOneRuneTokensRebuildSource': WHATEVER THE INPUT: true; the input reads as it did. -/
def fnEmitOneRuneTokensRebuildSourceSpec : ChangeSpec := { name := "fnEmitOneRuneTokensRebuildSource", fn := fun _ => fun
  | [d1, d2] => { results := [.lit (.bool true)], args := [d1, d2] }
  | _ => none }
def fnEmitOneRuneTokensRebuildSourceRow : OpenClaim := { program := "ytoopnllpocioiaagreatfmt", sum := "b9a6b790dee0c7122503efa20d1e1abe239c67de2060101fecc0c6f539fb94be", func := "github.com/expr-lang/expr/n003_66.FnEmitOneRuneTokensRebuildSource", spec := "fnEmitOneRuneTokensRebuildSource", stops := ["fmt.Sprintf, its operands' methods called", "fmt.errorf"], inPlace := ["fmt.Sprintf", "fmt.errorf", "internal/abi.NoEscape", "internal/bytealg.MakeNoZero", "internal/bytealg.IndexByteString"], unfollowed := true, recurses := true, named := ["unicode/utf8.first", "unicode/utf8.acceptRanges", "unicode.White_Space", "unicode.properties", "unicode.Letter", "unicode.Digit"], apart := false, laid := [("unicode/utf8.acceptRanges", laid_unicode_utf8_acceptRanges), ("unicode.White_Space", laid_unicode_White_Space), ("unicode.properties", laid_unicode_properties), ("unicode.Digit", laid_unicode_Digit), ("unicode.Letter", laid_unicode_Letter), ("unicode/utf8.first", laid_unicode_utf8_first)] }
/-- NO THEOREM (fmt's text is open here; it may be false): for the released tool's asking of the row's closed facts alone. THE STATEMENT IS 'FnEmitOneRuneTokensRebuildSourceToldSaid' (YtoopnllpocioiaaGreatFmtCards.lean). -/
def FnEmitOneRuneTokensRebuildSourceFormAsk : Prop := fnEmitOneRuneTokensRebuildSourceRow.holds Tryz.pinned (OpenSpec.ofChange fnEmitOneRuneTokensRebuildSourceSpec)

/-- ITS FALSE NEIGHBOUR: 'it returns false'. Refute it at one input. -/
def fnEmitOneRuneTokensRebuildSourceWrong : ChangeSpec := { name := "fnEmitOneRuneTokensRebuildSource", fn := fun _ => fun
  | [d1, d2] => { results := [.lit (.bool false)], args := [d1, d2] }
  | _ => none }
def FnEmitOneRuneTokensRebuildSourceWrongFormAsk : Prop := fnEmitOneRuneTokensRebuildSourceRow.holds Tryz.pinned (OpenSpec.ofChange fnEmitOneRuneTokensRebuildSourceWrong)

/-- 'n003_66.FnEmitValueExact': WHATEVER THE INPUT: true; the input reads as it did. -/
def fnEmitValueExactSpec : ChangeSpec := { name := "fnEmitValueExact", fn := fun _ => fun
  | [d1, d2, d3, d4, d5] => { results := [.lit (.bool true)], args := [d1, d2, d3, d4, d5] }
  | _ => none }
def fnEmitValueExactRow : OpenClaim := { program := "ytoopnllpocioiaagreatfmt", sum := "b9a6b790dee0c7122503efa20d1e1abe239c67de2060101fecc0c6f539fb94be", func := "github.com/expr-lang/expr/n003_66.FnEmitValueExact", spec := "fnEmitValueExact", stops := ["fmt.Sprintf, its operands' methods called", "fmt.errorf"], inPlace := ["fmt.Sprintf", "fmt.errorf", "internal/abi.NoEscape", "internal/bytealg.MakeNoZero", "internal/bytealg.IndexByteString"], unfollowed := true, recurses := true, named := ["unicode/utf8.first", "unicode/utf8.acceptRanges", "unicode.White_Space", "unicode.properties", "unicode.Letter", "unicode.Digit"], apart := false, laid := [("unicode/utf8.acceptRanges", laid_unicode_utf8_acceptRanges), ("unicode.White_Space", laid_unicode_White_Space), ("unicode.properties", laid_unicode_properties), ("unicode.Digit", laid_unicode_Digit), ("unicode.Letter", laid_unicode_Letter), ("unicode/utf8.first", laid_unicode_utf8_first)] }
/-- NO THEOREM (fmt's text is open here; it may be false): for the released tool's asking of the row's closed facts alone. THE STATEMENT IS 'FnEmitValueExactToldSaid' (YtoopnllpocioiaaGreatFmtCards.lean). -/
def FnEmitValueExactFormAsk : Prop := fnEmitValueExactRow.holds Tryz.pinned (OpenSpec.ofChange fnEmitValueExactSpec)

/-- ITS FALSE NEIGHBOUR: 'it returns false'. Refute it at one input. -/
def fnEmitValueExactWrong : ChangeSpec := { name := "fnEmitValueExact", fn := fun _ => fun
  | [d1, d2, d3, d4, d5] => { results := [.lit (.bool false)], args := [d1, d2, d3, d4, d5] }
  | _ => none }
def FnEmitValueExactWrongFormAsk : Prop := fnEmitValueExactRow.holds Tryz.pinned (OpenSpec.ofChange fnEmitValueExactWrong)

/-- 'n003_66.FnEmitValueBackToBack': WHATEVER THE INPUT: true; the input reads as it did. -/
def fnEmitValueBackToBackSpec : ChangeSpec := { name := "fnEmitValueBackToBack", fn := fun _ => fun
  | [d1, d2, d3, d4, d5] => { results := [.lit (.bool true)], args := [d1, d2, d3, d4, d5] }
  | _ => none }
def fnEmitValueBackToBackRow : OpenClaim := { program := "ytoopnllpocioiaagreatfmt", sum := "b9a6b790dee0c7122503efa20d1e1abe239c67de2060101fecc0c6f539fb94be", func := "github.com/expr-lang/expr/n003_66.FnEmitValueBackToBack", spec := "fnEmitValueBackToBack", stops := ["fmt.Sprintf, its operands' methods called", "fmt.errorf"], inPlace := ["fmt.Sprintf", "fmt.errorf", "internal/abi.NoEscape", "internal/bytealg.MakeNoZero", "internal/bytealg.IndexByteString"], unfollowed := true, recurses := true, named := ["unicode/utf8.first", "unicode/utf8.acceptRanges", "unicode.White_Space", "unicode.properties", "unicode.Letter", "unicode.Digit"], apart := false, laid := [("unicode/utf8.acceptRanges", laid_unicode_utf8_acceptRanges), ("unicode.White_Space", laid_unicode_White_Space), ("unicode.properties", laid_unicode_properties), ("unicode.Digit", laid_unicode_Digit), ("unicode.Letter", laid_unicode_Letter), ("unicode/utf8.first", laid_unicode_utf8_first)] }
/-- NO THEOREM (fmt's text is open here; it may be false): for the released tool's asking of the row's closed facts alone. THE STATEMENT IS 'FnEmitValueBackToBackToldSaid' (YtoopnllpocioiaaGreatFmtCards.lean). -/
def FnEmitValueBackToBackFormAsk : Prop := fnEmitValueBackToBackRow.holds Tryz.pinned (OpenSpec.ofChange fnEmitValueBackToBackSpec)

/-- ITS FALSE NEIGHBOUR: 'it returns false'. Refute it at one input. -/
def fnEmitValueBackToBackWrong : ChangeSpec := { name := "fnEmitValueBackToBack", fn := fun _ => fun
  | [d1, d2, d3, d4, d5] => { results := [.lit (.bool false)], args := [d1, d2, d3, d4, d5] }
  | _ => none }
def FnEmitValueBackToBackWrongFormAsk : Prop := fnEmitValueBackToBackRow.holds Tryz.pinned (OpenSpec.ofChange fnEmitValueBackToBackWrong)

/-- 'n003_66.FnEmitEOFRepeatStable': WHATEVER THE INPUT: true; the input reads as it did. -/
def fnEmitEOFRepeatStableSpec : ChangeSpec := { name := "fnEmitEOFRepeatStable", fn := fun _ => fun
  | [d1, d2, d3] => { results := [.lit (.bool true)], args := [d1, d2, d3] }
  | _ => none }
def fnEmitEOFRepeatStableRow : OpenClaim := { program := "ytoopnllpocioiaagreatfmt", sum := "b9a6b790dee0c7122503efa20d1e1abe239c67de2060101fecc0c6f539fb94be", func := "github.com/expr-lang/expr/n003_66.FnEmitEOFRepeatStable", spec := "fnEmitEOFRepeatStable", stops := ["fmt.Sprintf, its operands' methods called", "fmt.errorf"], inPlace := ["fmt.Sprintf", "fmt.errorf", "internal/abi.NoEscape", "internal/bytealg.MakeNoZero", "internal/bytealg.IndexByteString"], unfollowed := true, recurses := true, named := ["unicode/utf8.first", "unicode/utf8.acceptRanges", "unicode.White_Space", "unicode.properties", "unicode.Letter", "unicode.Digit"], apart := false, laid := [("unicode/utf8.acceptRanges", laid_unicode_utf8_acceptRanges), ("unicode.White_Space", laid_unicode_White_Space), ("unicode.properties", laid_unicode_properties), ("unicode.Digit", laid_unicode_Digit), ("unicode.Letter", laid_unicode_Letter), ("unicode/utf8.first", laid_unicode_utf8_first)] }
/-- NO THEOREM (fmt's text is open here; it may be false): for the released tool's asking of the row's closed facts alone. THE STATEMENT IS 'FnEmitEOFRepeatStableToldSaid' (YtoopnllpocioiaaGreatFmtCards.lean). -/
def FnEmitEOFRepeatStableFormAsk : Prop := fnEmitEOFRepeatStableRow.holds Tryz.pinned (OpenSpec.ofChange fnEmitEOFRepeatStableSpec)

/-- ITS FALSE NEIGHBOUR: 'it returns false'. Refute it at one input. -/
def fnEmitEOFRepeatStableWrong : ChangeSpec := { name := "fnEmitEOFRepeatStable", fn := fun _ => fun
  | [d1, d2, d3] => { results := [.lit (.bool false)], args := [d1, d2, d3] }
  | _ => none }
def FnEmitEOFRepeatStableWrongFormAsk : Prop := fnEmitEOFRepeatStableRow.holds Tryz.pinned (OpenSpec.ofChange fnEmitEOFRepeatStableWrong)

/-- 'n003_66.FnSkipOnlyLastCounts': WHATEVER THE INPUT: true; the input reads as it did. -/
def fnSkipOnlyLastCountsSpec : ChangeSpec := { name := "fnSkipOnlyLastCounts", fn := fun _ => fun
  | [d1, d2, d3, d4, d5] => { results := [.lit (.bool true)], args := [d1, d2, d3, d4, d5] }
  | _ => none }
def fnSkipOnlyLastCountsRow : OpenClaim := { program := "ytoopnllpocioiaagreatfmt", sum := "b9a6b790dee0c7122503efa20d1e1abe239c67de2060101fecc0c6f539fb94be", func := "github.com/expr-lang/expr/n003_66.FnSkipOnlyLastCounts", spec := "fnSkipOnlyLastCounts", stops := ["fmt.Sprintf, its operands' methods called", "fmt.errorf"], inPlace := ["fmt.Sprintf", "fmt.errorf", "internal/abi.NoEscape", "internal/bytealg.MakeNoZero", "internal/bytealg.IndexByteString"], unfollowed := true, recurses := true, named := ["unicode/utf8.first", "unicode/utf8.acceptRanges", "unicode.White_Space", "unicode.properties", "unicode.Letter", "unicode.Digit"], apart := false, laid := [("unicode/utf8.acceptRanges", laid_unicode_utf8_acceptRanges), ("unicode.White_Space", laid_unicode_White_Space), ("unicode.properties", laid_unicode_properties), ("unicode.Digit", laid_unicode_Digit), ("unicode.Letter", laid_unicode_Letter), ("unicode/utf8.first", laid_unicode_utf8_first)] }
/-- NO THEOREM (fmt's text is open here; it may be false): for the released tool's asking of the row's closed facts alone. THE STATEMENT IS 'FnSkipOnlyLastCountsToldSaid' (YtoopnllpocioiaaGreatFmtCards.lean). -/
def FnSkipOnlyLastCountsFormAsk : Prop := fnSkipOnlyLastCountsRow.holds Tryz.pinned (OpenSpec.ofChange fnSkipOnlyLastCountsSpec)

/-- ITS FALSE NEIGHBOUR: 'it returns false'. Refute it at one input. -/
def fnSkipOnlyLastCountsWrong : ChangeSpec := { name := "fnSkipOnlyLastCounts", fn := fun _ => fun
  | [d1, d2, d3, d4, d5] => { results := [.lit (.bool false)], args := [d1, d2, d3, d4, d5] }
  | _ => none }
def FnSkipOnlyLastCountsWrongFormAsk : Prop := fnSkipOnlyLastCountsRow.holds Tryz.pinned (OpenSpec.ofChange fnSkipOnlyLastCountsWrong)

end Rows
end Go.Proofs.YtoopnllpocioiaaGreatFmt
