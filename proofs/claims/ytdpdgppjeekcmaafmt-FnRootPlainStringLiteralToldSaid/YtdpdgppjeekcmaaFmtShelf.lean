/-
  DERIVED: THE SHELF's CONTRACTS AT THIS DUMP, IN PLAIN WORDS (tools/lay-plain.mjs out of 'TryfShelf.lean', which tools/lay-shelf.mjs wrote): THE SAME DECLARATIONS UNDER THE SAME NAMES: 'import', 'namespace', 'open', 'def', 'theorem' AND NOTHING ELSE: no command of the shelf's: FOR A HAND-IN. Each laying: the table of numbers ('.._ren') and one theorem, a field a fact of the dump's own or the kernel's comparison; each contract: ONE APPLICATION.
-/
import Derived.Shelf.Strings.Builder1
import Derived.Shelf.Strings.Builder2
import Derived.Shelf.Small.Utf8
import Derived.Shelf.Strings.BuilderF
import Derived.Shelf.Strings.BuilderK
import Derived.Shelf.Strings.BuilderRune
import Derived.Shelf.Utf8.AppendRune
import Derived.Shelf.Unicode.Latin
import Derived.Shelf.Unicode.Props
import Derived.Shelf.Unicode.Decode
import Derived.Shelf.Unicode.DecodeSlow
import Derived.Shelf.Unicode.DecodeAny
import Derived.Shelf.Unicode.Is16White
import Derived.Shelf.Unicode.IsSpaceAny
import Derived.Shelf.Unicode.DecodeLast
import Derived.Shelf.Unicode.Is16Any
import Derived.Shelf.Unicode.Is32Any
import Derived.Shelf.Unicode.ExclAny
import Derived.Shelf.Unicode.PredsAny
import Derived.Shelf.Unicode.PredsPay
import Derived.Test.YtdpdgppjeekcmaaFmtProg
namespace Go.Proofs
open Go.Shelf
def Tryf.lays169_ren : Go.Shelf.Ren := ⟨fun | 169 => 68 | n => n, fun | 70 => 88 | 9 => 9 | 0 => 0 | 72 => 90 | 37 => 46 | 127 => 116 | 3 => 3 | 5 => 5 | n => n, fun | n => n⟩
theorem Tryf.lays169 : Go.Proofs.Lays.n169 Tryf.prog Tryf.lays169_ren := {
  mixed := by kernel_rfl
  f169 := Tryf.func68.trans (congrArg some (by kernel_rfl))
  t0 := Tryf.underlying0
  a0 := Tryf.isAgg0
  z0 := Tryf.sizeOf0
  v0 := Tryf.zeroValue0
  t3 := Tryf.underlying3
  a3 := Tryf.isAgg3
  z3 := Tryf.sizeOf3
  v3 := Tryf.zeroValue3
  t9 := Tryf.underlying9
  a9 := Tryf.isAgg9
  z9 := Tryf.sizeOf9
  v9 := Tryf.zeroValue9
  t37 := Tryf.underlying46
  a37 := Tryf.isAgg46
  z37 := Tryf.sizeOf46
  v37 := Tryf.zeroValue46
  t70 := Tryf.underlying88
  a70 := Tryf.isAgg88
  z70 := Tryf.sizeOf88
  v70 := Tryf.zeroValue88
  t72 := Tryf.underlying90
  a72 := Tryf.isAgg90
  z72 := Tryf.sizeOf90
  v72 := Tryf.zeroValue90
  t127 := Tryf.underlying116
  a127 := Tryf.isAgg116
  z127 := Tryf.sizeOf116
  v127 := Tryf.zeroValue116 }
theorem Tryf.Builder_Extra_169 : Builder.Extra Tryf.prog Tryf.lays169_ren := {
  sizeBuilder := by kernel_rfl
  liesBuilder := by kernel_rfl
  t5 := Tryf.underlying5
  a5 := Tryf.isAgg5
  z5 := Tryf.sizeOf5
  v5 := Tryf.zeroValue5
  infoByte := by kernel_rfl
  cellsByte := by kernel_rfl
  sizeByte := by kernel_rfl
  neB5 := by decide }
open Go.RowKit in
/-- (*strings.Builder).String: "String returns the accumulated string.": OF A BUILDER THAT HOLDS AT LEAST ONE BYTE. ✋ THE MODEL FREEZES THOSE BYTES IN THE BUFFER (unsafe.String): a later write INTO them ends the model's run without an answer; a later append BEHIND them goes on. The statement's order of evaluation is drawn: one draw. (LAID: no walk: one application.) -/
theorem Tryf.Builder_String (B b : Nat) (l : List UInt8) (w : World) (h : Lib.IsBuilder 90 5 B b (Lib.byteCells l) w) (h0 : l ≠ []) :
    Calls Tryf.prog 68 #[.pointer (some ⟨b, 0, none⟩)] w fun e w' => e = .returned (.string ⟨l.toArray⟩) ∧ Below B w w' := Any.Builder_String Tryf.lays169 Tryf.Builder_Extra_169 B b l w h h0
open Go.RowKit in
/-- (*strings.Builder).String OF A BUILDER THAT HOLDS NO BYTE: the empty string. (Its buffer is nil, or a row of which it has taken nothing yet; where that row has NO capacity the model lays one new block for unsafe.SliceData's 'some address'.) One draw. (LAID: no walk: one application.) -/
theorem Tryf.Builder_String_empty (B b : Nat) (w : World) (h : Lib.IsBuilder 90 5 B b [] w) (hBw : B ≤ w.heap.size) :
    Calls Tryf.prog 68 #[.pointer (some ⟨b, 0, none⟩)] w fun e w' => e = .returned (.string ⟨#[]⟩) ∧ Below B w w' := Any.Builder_String_empty Tryf.lays169 Tryf.Builder_Extra_169 B b w h hBw
open Go.RowKit in
/-- (*strings.Builder).String: "String returns the accumulated string.": WHATEVER THE BUILDER HOLDS. (LAID: no walk: one application.) -/
theorem Tryf.Builder_String_any (B b : Nat) (l : List UInt8) (w : World) (h : Lib.IsBuilder 90 5 B b (Lib.byteCells l) w) (hBw : B ≤ w.heap.size) :
    Calls Tryf.prog 68 #[.pointer (some ⟨b, 0, none⟩)] w fun e w' => e = .returned (.string ⟨l.toArray⟩) ∧ Below B w w' := Any.Builder_String_any Tryf.lays169 Tryf.Builder_Extra_169 B b l w h hBw
def Tryf.lays241_ren : Go.Shelf.Ren := ⟨fun | 241 => 97 | 277 => 111 | n => n, fun | 70 => 88 | 3 => 3 | 0 => 0 | 72 => 90 | 37 => 46 | 5 => 5 | n => n, fun | n => n⟩
theorem Tryf.lays241 : Go.Proofs.Lays.n241 Tryf.prog Tryf.lays241_ren := {
  mixed := by kernel_rfl
  f241 := Tryf.func97.trans (congrArg some (by kernel_rfl))
  f277 := Tryf.func111.trans (congrArg some (by kernel_rfl))
  t0 := Tryf.underlying0
  a0 := Tryf.isAgg0
  z0 := Tryf.sizeOf0
  v0 := Tryf.zeroValue0
  t3 := Tryf.underlying3
  a3 := Tryf.isAgg3
  z3 := Tryf.sizeOf3
  v3 := Tryf.zeroValue3
  t37 := Tryf.underlying46
  a37 := Tryf.isAgg46
  z37 := Tryf.sizeOf46
  v37 := Tryf.zeroValue46
  t70 := Tryf.underlying88
  a70 := Tryf.isAgg88
  z70 := Tryf.sizeOf88
  v70 := Tryf.zeroValue88
  t72 := Tryf.underlying90
  a72 := Tryf.isAgg90
  z72 := Tryf.sizeOf90
  v72 := Tryf.zeroValue90 }
theorem Tryf.Builder_Extra_241 : Builder.Extra Tryf.prog Tryf.lays241_ren := {
  sizeBuilder := by kernel_rfl
  liesBuilder := by kernel_rfl
  t5 := Tryf.underlying5
  a5 := Tryf.isAgg5
  z5 := Tryf.sizeOf5
  v5 := Tryf.zeroValue5
  infoByte := by kernel_rfl
  cellsByte := by kernel_rfl
  sizeByte := by kernel_rfl
  neB5 := by decide }
open Go.RowKit in
/-- (*strings.Builder).grow (no doc but "grow copies the buffer to a new, larger buffer so that there are at least n bytes of capacity beyond len(b.buf)."): AT A BUILDER WITHOUT A BUFFER: a new row of whatever bytes for its buffer, none of them its own yet. Three draws. (LAID: no walk: one application.) -/
theorem Tryf.Builder_grow_fresh (B b n : Nat) (w : World) (hB : B ≤ b) (hbk : w.heap[b]? = some (.cells #[.pointer (some ⟨b, 0, none⟩), .slice none 0 0] 90 (0, 0))) (hBw : B ≤ w.heap.size) (hn : n ≤ 281474976710656) :
    Calls Tryf.prog 97 #[.pointer (some ⟨b, 0, none⟩), .int .i64 n] w fun e w' => e = .returned (.tuple #[]) ∧ (Lib.BuilderAt 90 5 B b (.pointer (some ⟨b, 0, none⟩)) [] w' ∧ Below B w w') := Any.Builder_grow_fresh Tryf.lays241 Tryf.Builder_Extra_241 B b n w hB hbk hBw hn
def Tryf.lays165_ren : Go.Shelf.Ren := ⟨fun | 165 => 66 | 240 => 96 | 241 => 97 | 276 => 110 | 277 => 111 | n => n, fun | 70 => 88 | 3 => 3 | 0 => 0 | 4 => 4 | 9 => 9 | 20 => 20 | 72 => 90 | 37 => 46 | 164 => 130 | 5 => 5 | n => n, fun | n => n⟩
theorem Tryf.lays165 : Go.Proofs.Lays.n165 Tryf.prog Tryf.lays165_ren := {
  mixed := by kernel_rfl
  f165 := Tryf.func66.trans (congrArg some (by kernel_rfl))
  f240 := Tryf.func96.trans (congrArg some (by kernel_rfl))
  f241 := Tryf.func97.trans (congrArg some (by kernel_rfl))
  f276 := Tryf.func110.trans (congrArg some (by kernel_rfl))
  f277 := Tryf.func111.trans (congrArg some (by kernel_rfl))
  t0 := Tryf.underlying0
  a0 := Tryf.isAgg0
  z0 := Tryf.sizeOf0
  v0 := Tryf.zeroValue0
  t3 := Tryf.underlying3
  a3 := Tryf.isAgg3
  z3 := Tryf.sizeOf3
  v3 := Tryf.zeroValue3
  t4 := Tryf.underlying4
  a4 := Tryf.isAgg4
  z4 := Tryf.sizeOf4
  v4 := Tryf.zeroValue4
  t9 := Tryf.underlying9
  a9 := Tryf.isAgg9
  z9 := Tryf.sizeOf9
  v9 := Tryf.zeroValue9
  t20 := Tryf.underlying20
  a20 := Tryf.isAgg20
  z20 := Tryf.sizeOf20
  v20 := Tryf.zeroValue20
  t37 := Tryf.underlying46
  a37 := Tryf.isAgg46
  z37 := Tryf.sizeOf46
  v37 := Tryf.zeroValue46
  t70 := Tryf.underlying88
  a70 := Tryf.isAgg88
  z70 := Tryf.sizeOf88
  v70 := Tryf.zeroValue88
  t72 := Tryf.underlying90
  a72 := Tryf.isAgg90
  z72 := Tryf.sizeOf90
  v72 := Tryf.zeroValue90
  t164 := Tryf.underlying130
  a164 := Tryf.isAgg130
  z164 := Tryf.sizeOf130
  v164 := Tryf.zeroValue130 }
theorem Tryf.Builder_Extra_165 : Builder.Extra Tryf.prog Tryf.lays165_ren := {
  sizeBuilder := by kernel_rfl
  liesBuilder := by kernel_rfl
  t5 := Tryf.underlying5
  a5 := Tryf.isAgg5
  z5 := Tryf.sizeOf5
  v5 := Tryf.zeroValue5
  infoByte := by kernel_rfl
  cellsByte := by kernel_rfl
  sizeByte := by kernel_rfl
  neB5 := by decide }
open Go.RowKit in
/-- (*strings.Builder).Grow AT A BUILDER THAT HAS NOT BEEN WRITTEN ('var b strings.Builder; b.Grow(n)'): "Grow grows b's capacity, if necessary, to guarantee space for another n bytes.": it holds no byte behind it as before it. (LAID: no walk: one application.) -/
theorem Tryf.Builder_Grow_fresh (B b n : Nat) (w : World) (hB : B ≤ b) (hbk : w.heap[b]? = some (.cells #[.pointer none, .slice none 0 0] 90 (0, 0))) (hBw : B ≤ w.heap.size) (hn : n ≤ 281474976710656) :
    Calls Tryf.prog 66 #[.pointer (some ⟨b, 0, none⟩), .int .i64 n] w fun e w' => e = .returned (.tuple #[]) ∧ (Lib.BuilderAt 90 5 B b (.pointer (some ⟨b, 0, none⟩)) [] w' ∧ Below B w w') := Any.Builder_Grow_fresh Tryf.lays165 Tryf.Builder_Extra_165 B b n w hB hbk hBw hn
def Tryf.lays120_ren : Go.Shelf.Ren := ⟨fun | 120 => 107 | n => n, fun | 5 => 5 | 4 => 4 | n => n, fun | n => n⟩
theorem Tryf.lays120 : Go.Proofs.Lays.n120 Tryf.prog Tryf.lays120_ren := {
  mixed := by kernel_rfl
  f120 := Tryf.func107.trans (congrArg some (by kernel_rfl))
  t4 := Tryf.underlying4
  a4 := Tryf.isAgg4
  z4 := Tryf.sizeOf4
  v4 := Tryf.zeroValue4
  t5 := Tryf.underlying5
  a5 := Tryf.isAgg5
  z5 := Tryf.sizeOf5
  v5 := Tryf.zeroValue5 }
/-- utf8.RuneStart: "RuneStart reports whether the byte could be the first byte of an encoded, possibly invalid rune. Second and subsequent bytes always have the top two bits set to 10.": IT RETURNS 'Lib.runeStart b'; the world is as it was. ('h0', 'h1': b is a byte: a caller has it of every byte that it was handed.) (LAID: no walk: one application.) -/
theorem Tryf.utf8_RuneStart (b : Int) (w : World) (h0 : 0 ≤ b) (h1 : b < 256) :
    Calls Tryf.prog 107 #[.int .u8 b] w fun e w' => e = .returned (.bool (Lib.runeStart b)) ∧ w' = w := Any.utf8_RuneStart Tryf.lays120 b w h0 h1
open Go.RowKit in
/-- (*strings.Builder).String: "String returns the accumulated string.": OF A BUILDER THAT HOLDS AT LEAST ONE BYTE. ✋ THE MODEL FREEZES THOSE BYTES IN THE BUFFER (unsafe.String): a later write INTO them ends the model's run without an answer; a later append BEHIND them goes on. The statement's order of evaluation is drawn: one draw. THE FORM '_f': IT SAYS BESIDES THAT THE BUILDER IS A BUILDER STILL ('Lib.IsBuilderF', the same bytes): SO IT CAN BE WRITTEN ON: 'b.WriteString(b.String()[:k])'. (LAID: no walk: one application.) -/
theorem Tryf.Builder_String_f (B b : Nat) (l : List UInt8) (w : World) (h : Lib.IsBuilderF 90 5 B b (Lib.byteCells l) w) (h0 : l ≠ []) :
    Calls Tryf.prog 68 #[.pointer (some ⟨b, 0, none⟩)] w fun e w' => e = .returned (.string ⟨l.toArray⟩) ∧ (Lib.IsBuilderF 90 5 B b (Lib.byteCells l) w' ∧ Below B w w') := Any.Builder_String_f Tryf.lays169 Tryf.Builder_Extra_169 B b l w h h0
open Go.RowKit in
/-- (*strings.Builder).String OF A BUILDER THAT HOLDS NO BYTE: the empty string; THE FORM '_f': a builder still. (LAID: no walk: one application.) -/
theorem Tryf.Builder_String_empty_f (B b : Nat) (w : World) (h : Lib.IsBuilderF 90 5 B b [] w) (hBw : B ≤ w.heap.size) :
    Calls Tryf.prog 68 #[.pointer (some ⟨b, 0, none⟩)] w fun e w' => e = .returned (.string ⟨#[]⟩) ∧ (Lib.IsBuilderF 90 5 B b [] w' ∧ Below B w w') := Any.Builder_String_empty_f Tryf.lays169 Tryf.Builder_Extra_169 B b w h hBw
open Go.RowKit in
/-- (*strings.Builder).String: "String returns the accumulated string.": WHATEVER THE BUILDER HOLDS; THE FORM '_f': OF A BUILDER THAT MAY HAVE BEEN READ BEFORE; AND IT IS A BUILDER STILL, holding the same bytes: it can be written on. (LAID: no walk: one application.) -/
theorem Tryf.Builder_String_any_f (B b : Nat) (l : List UInt8) (w : World) (h : Lib.IsBuilderF 90 5 B b (Lib.byteCells l) w) (hBw : B ≤ w.heap.size) :
    Calls Tryf.prog 68 #[.pointer (some ⟨b, 0, none⟩)] w fun e w' => e = .returned (.string ⟨l.toArray⟩) ∧ (Lib.IsBuilderF 90 5 B b (Lib.byteCells l) w' ∧ Below B w w') := Any.Builder_String_any_f Tryf.lays169 Tryf.Builder_Extra_169 B b l w h hBw
open Go.RowKit in
/-- (*strings.Builder).String: "String returns the accumulated string.": OF A BUILDER THAT HOLDS AT LEAST ONE BYTE. ✋ THE MODEL FREEZES THOSE BYTES IN THE BUFFER (unsafe.String): a later write INTO them ends the model's run without an answer; a later append BEHIND them goes on. The statement's order of evaluation is drawn: one draw. THE FORM '_k': OVER 'Lib.IsBuilderF' (a builder that 'String()' may have read), AND WITH THE FRAME THAT REACHES ABOVE THE BUILDER: 'Lib.OthersKept': every block that is not b and is no row of uint8's stands as it stood: the iterator of a range among them. (LAID: no walk: one application.) -/
theorem Tryf.Builder_String_k (B b : Nat) (l : List UInt8) (w : World) (h : Lib.IsBuilderF 90 5 B b (Lib.byteCells l) w) (h0 : l ≠ []) :
    Calls Tryf.prog 68 #[.pointer (some ⟨b, 0, none⟩)] w fun e w' => e = .returned (.string ⟨l.toArray⟩) ∧ (Lib.IsBuilderF 90 5 B b (Lib.byteCells l) w' ∧ Below B w w' ∧ Lib.OthersKept 5 (some b) w w') := Any.Builder_String_k Tryf.lays169 Tryf.Builder_Extra_169 B b l w h h0
open Go.RowKit in
/-- (*strings.Builder).String OF A BUILDER THAT HOLDS NO BYTE: the empty string; THE FORM '_k': OVER 'Lib.IsBuilderF' (a builder that 'String()' may have read), AND WITH THE FRAME THAT REACHES ABOVE THE BUILDER: 'Lib.OthersKept': every block that is not b and is no row of uint8's stands as it stood: the iterator of a range among them. (LAID: no walk: one application.) -/
theorem Tryf.Builder_String_empty_k (B b : Nat) (w : World) (h : Lib.IsBuilderF 90 5 B b [] w) (hBw : B ≤ w.heap.size) :
    Calls Tryf.prog 68 #[.pointer (some ⟨b, 0, none⟩)] w fun e w' => e = .returned (.string ⟨#[]⟩) ∧ (Lib.IsBuilderF 90 5 B b [] w' ∧ Below B w w' ∧ Lib.OthersKept 5 (some b) w w') := Any.Builder_String_empty_k Tryf.lays169 Tryf.Builder_Extra_169 B b w h hBw
open Go.RowKit in
/-- (*strings.Builder).String: "String returns the accumulated string.": WHATEVER THE BUILDER HOLDS; THE FORM '_k': OVER 'Lib.IsBuilderF' (a builder that 'String()' may have read), AND WITH THE FRAME THAT REACHES ABOVE THE BUILDER: 'Lib.OthersKept': every block that is not b and is no row of uint8's stands as it stood: the iterator of a range among them. (LAID: no walk: one application.) -/
theorem Tryf.Builder_String_any_k (B b : Nat) (l : List UInt8) (w : World) (h : Lib.IsBuilderF 90 5 B b (Lib.byteCells l) w) (hBw : B ≤ w.heap.size) :
    Calls Tryf.prog 68 #[.pointer (some ⟨b, 0, none⟩)] w fun e w' => e = .returned (.string ⟨l.toArray⟩) ∧ (Lib.IsBuilderF 90 5 B b (Lib.byteCells l) w' ∧ Below B w w' ∧ Lib.OthersKept 5 (some b) w w') := Any.Builder_String_any_k Tryf.lays169 Tryf.Builder_Extra_169 B b l w h hBw
def Tryf.lays278_ren : Go.Shelf.Ren := ⟨fun | 278 => 112 | n => n, fun | 37 => 46 | 21 => 21 | 51 => 118 | 4 => 4 | 46 => 125 | 5 => 5 | n => n, fun | n => n⟩
theorem Tryf.lays278 : Go.Proofs.Lays.n278 Tryf.prog Tryf.lays278_ren := {
  mixed := by kernel_rfl
  f278 := Tryf.func112.trans (congrArg some (by kernel_rfl))
  t4 := Tryf.underlying4
  a4 := Tryf.isAgg4
  z4 := Tryf.sizeOf4
  v4 := Tryf.zeroValue4
  t5 := Tryf.underlying5
  a5 := Tryf.isAgg5
  z5 := Tryf.sizeOf5
  v5 := Tryf.zeroValue5
  t21 := Tryf.underlying21
  a21 := Tryf.isAgg21
  z21 := Tryf.sizeOf21
  v21 := Tryf.zeroValue21
  t37 := Tryf.underlying46
  a37 := Tryf.isAgg46
  z37 := Tryf.sizeOf46
  v37 := Tryf.zeroValue46
  t46 := Tryf.underlying125
  a46 := Tryf.isAgg125
  z46 := Tryf.sizeOf125
  v46 := Tryf.zeroValue125
  t51 := Tryf.underlying118
  a51 := Tryf.isAgg118
  z51 := Tryf.sizeOf118
  v51 := Tryf.zeroValue118 }
open Go.RowKit in
/-- unicode/utf8.appendRuneNonASCII (what AppendRune calls for all but ASCII), ONTO A ROW OF BYTES THAT THE CALL OWNS: every int32 that is no ASCII rune: 'Lib.runeCells r' goes in behind what the row holds. (LAID: no walk: one application.) -/
theorem Tryf.utf8_appendRuneNonASCII_row (B : Nat) (v : Value) (n : Nat) (xs : List Value) (r : Int) (hr0 : -2147483648 ≤ r) (hr1 : r ≤ 2147483647) (hna : r < 0 ∨ 128 ≤ r) (w : World) (hown : w.ownsRowF B 5 1 v n xs) (hlen : n + 4 ≤ 140737488355328) (hBw : B ≤ w.heap.size) :
    Calls Tryf.prog 112 #[v, .int .i32 r] w fun e w' => ∃ v', e = .returned v' ∧ w'.ownsRowF B 5 1 v' (n + (Lib.runeCells r).length) (xs ++ Lib.runeCells r) ∧ ∃ o, (w.alloc o).grownBy w' v.ownBlock := Any.utf8_appendRuneNonASCII_row Tryf.lays278 (by kernel_rfl) B v n xs r hr0 hr1 hna w hown hlen hBw
def Tryf.lays242_ren : Go.Shelf.Ren := ⟨fun | 242 => 98 | 278 => 112 | n => n, fun | 37 => 46 | 21 => 21 | 51 => 118 | 4 => 4 | 5 => 5 | 46 => 125 | n => n, fun | n => n⟩
theorem Tryf.lays242 : Go.Proofs.Lays.n242 Tryf.prog Tryf.lays242_ren := {
  mixed := by kernel_rfl
  f242 := Tryf.func98.trans (congrArg some (by kernel_rfl))
  f278 := Tryf.func112.trans (congrArg some (by kernel_rfl))
  t4 := Tryf.underlying4
  a4 := Tryf.isAgg4
  z4 := Tryf.sizeOf4
  v4 := Tryf.zeroValue4
  t5 := Tryf.underlying5
  a5 := Tryf.isAgg5
  z5 := Tryf.sizeOf5
  v5 := Tryf.zeroValue5
  t21 := Tryf.underlying21
  a21 := Tryf.isAgg21
  z21 := Tryf.sizeOf21
  v21 := Tryf.zeroValue21
  t37 := Tryf.underlying46
  a37 := Tryf.isAgg46
  z37 := Tryf.sizeOf46
  v37 := Tryf.zeroValue46
  t46 := Tryf.underlying125
  a46 := Tryf.isAgg125
  z46 := Tryf.sizeOf125
  v46 := Tryf.zeroValue125
  t51 := Tryf.underlying118
  a51 := Tryf.isAgg118
  z51 := Tryf.sizeOf118
  v51 := Tryf.zeroValue118 }
open Go.RowKit in
/-- unicode/utf8.AppendRune: "AppendRune appends the UTF-8 encoding of r to the end of p and returns the extended buffer. If the rune is out of range, it appends the encoding of RuneError.": ONTO A ROW OF BYTES THAT THE CALL OWNS (its head frozen or not): EVERY int32: 'Lib.runeCells r' goes in behind what the row holds; the world: one new block (the bytes as the call's variadic argument), then what 'append' does to the row. (LAID: no walk: one application.) -/
theorem Tryf.utf8_AppendRune_row (B : Nat) (v : Value) (n : Nat) (xs : List Value) (r : Int) (hr0 : -2147483648 ≤ r) (hr1 : r ≤ 2147483647) (w : World) (hown : w.ownsRowF B 5 1 v n xs) (hlen : n + 4 ≤ 140737488355328) (hBw : B ≤ w.heap.size) :
    Calls Tryf.prog 98 #[v, .int .i32 r] w fun e w' => ∃ v', e = .returned v' ∧ w'.ownsRowF B 5 1 v' (n + (Lib.runeCells r).length) (xs ++ Lib.runeCells r) ∧ ∃ o, (w.alloc o).grownBy w' v.ownBlock := Any.utf8_AppendRune_row Tryf.lays242 (by kernel_rfl) B v n xs r hr0 hr1 w hown hlen hBw
def Tryf.lays198_ren : Go.Shelf.Ren := ⟨fun | 198 => 93 | 261 => 102 | 311 => 114 | 312 => 115 | n => n, fun | 21 => 21 | 4 => 4 | 141 => 120 | 0 => 0 | 196 => 136 | 193 => 133 | 3 => 3 | 51 => 118 | 198 => 139 | 49 => 137 | 194 => 134 | 201 => 142 | 226 => 147 | 46 => 125 | 227 => 148 | n => n, fun | 5 => 1 | n => n⟩
theorem Tryf.lays198 : Go.Proofs.Lays.n198 Tryf.prog Tryf.lays198_ren := {
  mixed := by kernel_rfl
  f198 := Tryf.func93.trans (congrArg some (by kernel_rfl))
  f261 := Tryf.func102.trans (congrArg some (by kernel_rfl))
  f311 := Tryf.func114.trans (congrArg some (by kernel_rfl))
  f312 := Tryf.func115.trans (congrArg some (by kernel_rfl))
  t0 := Tryf.underlying0
  a0 := Tryf.isAgg0
  z0 := Tryf.sizeOf0
  v0 := Tryf.zeroValue0
  t3 := Tryf.underlying3
  a3 := Tryf.isAgg3
  z3 := Tryf.sizeOf3
  v3 := Tryf.zeroValue3
  t4 := Tryf.underlying4
  a4 := Tryf.isAgg4
  z4 := Tryf.sizeOf4
  v4 := Tryf.zeroValue4
  t21 := Tryf.underlying21
  a21 := Tryf.isAgg21
  z21 := Tryf.sizeOf21
  v21 := Tryf.zeroValue21
  t46 := Tryf.underlying125
  a46 := Tryf.isAgg125
  z46 := Tryf.sizeOf125
  v46 := Tryf.zeroValue125
  t49 := Tryf.underlying137
  a49 := Tryf.isAgg137
  z49 := Tryf.sizeOf137
  v49 := Tryf.zeroValue137
  t51 := Tryf.underlying118
  a51 := Tryf.isAgg118
  z51 := Tryf.sizeOf118
  v51 := Tryf.zeroValue118
  t141 := Tryf.underlying120
  a141 := Tryf.isAgg120
  z141 := Tryf.sizeOf120
  v141 := Tryf.zeroValue120
  t193 := Tryf.underlying133
  a193 := Tryf.isAgg133
  z193 := Tryf.sizeOf133
  v193 := Tryf.zeroValue133
  t194 := Tryf.underlying134
  a194 := Tryf.isAgg134
  z194 := Tryf.sizeOf134
  v194 := Tryf.zeroValue134
  t196 := Tryf.underlying136
  a196 := Tryf.isAgg136
  z196 := Tryf.sizeOf136
  v196 := Tryf.zeroValue136
  t198 := Tryf.underlying139
  a198 := Tryf.isAgg139
  z198 := Tryf.sizeOf139
  v198 := Tryf.zeroValue139
  t201 := Tryf.underlying142
  a201 := Tryf.isAgg142
  z201 := Tryf.sizeOf142
  v201 := Tryf.zeroValue142
  t226 := Tryf.underlying147
  a226 := Tryf.isAgg147
  z226 := Tryf.sizeOf147
  v226 := Tryf.zeroValue147
  t227 := Tryf.underlying148
  a227 := Tryf.isAgg148
  z227 := Tryf.sizeOf148
  v227 := Tryf.zeroValue148
  g5 := by kernel_rfl }
open Go.RowKit Go.Lib in
theorem Tryf.unicode_IsDigit (r : Int) (w : World) (h : r ≤ 255) :
    Calls Tryf.prog 93 #[.int .i32 r] w fun e w' => e = .returned (.bool (Lib.isDigitL r)) ∧ w' = w := Any.unicode_IsDigit Tryf.lays198 r w h
def Tryf.lays199_ren : Go.Shelf.Ren := ⟨fun | 199 => 80 | 261 => 102 | 311 => 114 | 312 => 115 | n => n, fun | 21 => 21 | 4 => 4 | 51 => 118 | 141 => 120 | 0 => 0 | 196 => 136 | 193 => 133 | 3 => 3 | 198 => 139 | 49 => 137 | 194 => 134 | 201 => 142 | 226 => 147 | 46 => 125 | 227 => 148 | n => n, fun | 6 => 0 | n => n⟩
theorem Tryf.lays199 : Go.Proofs.Lays.n199 Tryf.prog Tryf.lays199_ren := {
  mixed := by kernel_rfl
  f199 := Tryf.func80.trans (congrArg some (by kernel_rfl))
  f261 := Tryf.func102.trans (congrArg some (by kernel_rfl))
  f311 := Tryf.func114.trans (congrArg some (by kernel_rfl))
  f312 := Tryf.func115.trans (congrArg some (by kernel_rfl))
  t0 := Tryf.underlying0
  a0 := Tryf.isAgg0
  z0 := Tryf.sizeOf0
  v0 := Tryf.zeroValue0
  t3 := Tryf.underlying3
  a3 := Tryf.isAgg3
  z3 := Tryf.sizeOf3
  v3 := Tryf.zeroValue3
  t4 := Tryf.underlying4
  a4 := Tryf.isAgg4
  z4 := Tryf.sizeOf4
  v4 := Tryf.zeroValue4
  t21 := Tryf.underlying21
  a21 := Tryf.isAgg21
  z21 := Tryf.sizeOf21
  v21 := Tryf.zeroValue21
  t46 := Tryf.underlying125
  a46 := Tryf.isAgg125
  z46 := Tryf.sizeOf125
  v46 := Tryf.zeroValue125
  t49 := Tryf.underlying137
  a49 := Tryf.isAgg137
  z49 := Tryf.sizeOf137
  v49 := Tryf.zeroValue137
  t51 := Tryf.underlying118
  a51 := Tryf.isAgg118
  z51 := Tryf.sizeOf118
  v51 := Tryf.zeroValue118
  t141 := Tryf.underlying120
  a141 := Tryf.isAgg120
  z141 := Tryf.sizeOf120
  v141 := Tryf.zeroValue120
  t193 := Tryf.underlying133
  a193 := Tryf.isAgg133
  z193 := Tryf.sizeOf133
  v193 := Tryf.zeroValue133
  t194 := Tryf.underlying134
  a194 := Tryf.isAgg134
  z194 := Tryf.sizeOf134
  v194 := Tryf.zeroValue134
  t196 := Tryf.underlying136
  a196 := Tryf.isAgg136
  z196 := Tryf.sizeOf136
  v196 := Tryf.zeroValue136
  t198 := Tryf.underlying139
  a198 := Tryf.isAgg139
  z198 := Tryf.sizeOf139
  v198 := Tryf.zeroValue139
  t201 := Tryf.underlying142
  a201 := Tryf.isAgg142
  z201 := Tryf.sizeOf142
  v201 := Tryf.zeroValue142
  t226 := Tryf.underlying147
  a226 := Tryf.isAgg147
  z226 := Tryf.sizeOf147
  v226 := Tryf.zeroValue147
  t227 := Tryf.underlying148
  a227 := Tryf.isAgg148
  z227 := Tryf.sizeOf148
  v227 := Tryf.zeroValue148
  g6 := by kernel_rfl }
open Go.RowKit Go.Lib in
theorem Tryf.unicode_IsSpace (r : Int) (w : World) (h0 : 0 ≤ r) (h : r ≤ 255) :
    Calls Tryf.prog 80 #[.int .i32 r] w fun e w' => e = .returned (.bool (Lib.isSpaceL r)) ∧ w' = w := Any.unicode_IsSpace Tryf.lays199 r w h0 h
def Tryf.lays200_ren : Go.Shelf.Ren := ⟨fun | 200 => 108 | 261 => 102 | 311 => 114 | 312 => 115 | n => n, fun | 21 => 21 | 4 => 4 | 51 => 118 | 5 => 5 | 119 => 126 | 0 => 0 | 141 => 120 | 196 => 136 | 193 => 133 | 3 => 3 | 198 => 139 | 49 => 137 | 194 => 134 | 201 => 142 | 226 => 147 | 46 => 125 | 227 => 148 | n => n, fun | 7 => 4 | 8 => 5 | n => n⟩
theorem Tryf.lays200 : Go.Proofs.Lays.n200 Tryf.prog Tryf.lays200_ren := {
  mixed := by kernel_rfl
  f200 := Tryf.func108.trans (congrArg some (by kernel_rfl))
  f261 := Tryf.func102.trans (congrArg some (by kernel_rfl))
  f311 := Tryf.func114.trans (congrArg some (by kernel_rfl))
  f312 := Tryf.func115.trans (congrArg some (by kernel_rfl))
  t0 := Tryf.underlying0
  a0 := Tryf.isAgg0
  z0 := Tryf.sizeOf0
  v0 := Tryf.zeroValue0
  t3 := Tryf.underlying3
  a3 := Tryf.isAgg3
  z3 := Tryf.sizeOf3
  v3 := Tryf.zeroValue3
  t4 := Tryf.underlying4
  a4 := Tryf.isAgg4
  z4 := Tryf.sizeOf4
  v4 := Tryf.zeroValue4
  t5 := Tryf.underlying5
  a5 := Tryf.isAgg5
  z5 := Tryf.sizeOf5
  v5 := Tryf.zeroValue5
  t21 := Tryf.underlying21
  a21 := Tryf.isAgg21
  z21 := Tryf.sizeOf21
  v21 := Tryf.zeroValue21
  t46 := Tryf.underlying125
  a46 := Tryf.isAgg125
  z46 := Tryf.sizeOf125
  v46 := Tryf.zeroValue125
  t49 := Tryf.underlying137
  a49 := Tryf.isAgg137
  z49 := Tryf.sizeOf137
  v49 := Tryf.zeroValue137
  t51 := Tryf.underlying118
  a51 := Tryf.isAgg118
  z51 := Tryf.sizeOf118
  v51 := Tryf.zeroValue118
  t119 := Tryf.underlying126
  a119 := Tryf.isAgg126
  z119 := Tryf.sizeOf126
  t141 := Tryf.underlying120
  a141 := Tryf.isAgg120
  z141 := Tryf.sizeOf120
  v141 := Tryf.zeroValue120
  t193 := Tryf.underlying133
  a193 := Tryf.isAgg133
  z193 := Tryf.sizeOf133
  v193 := Tryf.zeroValue133
  t194 := Tryf.underlying134
  a194 := Tryf.isAgg134
  z194 := Tryf.sizeOf134
  v194 := Tryf.zeroValue134
  t196 := Tryf.underlying136
  a196 := Tryf.isAgg136
  z196 := Tryf.sizeOf136
  v196 := Tryf.zeroValue136
  t198 := Tryf.underlying139
  a198 := Tryf.isAgg139
  z198 := Tryf.sizeOf139
  v198 := Tryf.zeroValue139
  t201 := Tryf.underlying142
  a201 := Tryf.isAgg142
  z201 := Tryf.sizeOf142
  v201 := Tryf.zeroValue142
  t226 := Tryf.underlying147
  a226 := Tryf.isAgg147
  z226 := Tryf.sizeOf147
  v226 := Tryf.zeroValue147
  t227 := Tryf.underlying148
  a227 := Tryf.isAgg148
  z227 := Tryf.sizeOf148
  v227 := Tryf.zeroValue148
  g7 := by kernel_rfl
  g8 := by kernel_rfl }
open Go.RowKit Go.Lib in
theorem Tryf.unicode_IsLetter (c : Nat) (w : World) (hc : c < 256) (htab : Lib.TabIs Tryf.prog w "unicode.properties" .u8 Lib.propertiesTab) :
    Calls Tryf.prog 108 #[.int .i32 c] w fun e w' => e = .returned (.bool (Lib.isLetterL c)) ∧ w' = w := Any.unicode_IsLetter Tryf.lays200 (by kernel_rfl) c w hc htab
def Tryf.lays197_ren : Go.Shelf.Ren := ⟨fun | 197 => 65 | 260 => 95 | n => n, fun | 9 => 9 | 21 => 21 | 3 => 3 | 4 => 4 | 5 => 5 | 105 => 86 | 119 => 126 | 0 => 0 | 46 => 125 | 139 => 129 | 138 => 128 | n => n, fun | 3 => 2 | 4 => 3 | n => n⟩
theorem Tryf.lays197 : Go.Proofs.Lays.n197 Tryf.prog Tryf.lays197_ren := {
  mixed := by kernel_rfl
  f197 := Tryf.func65.trans (congrArg some (by kernel_rfl))
  f260 := Tryf.func95.trans (congrArg some (by kernel_rfl))
  t0 := Tryf.underlying0
  a0 := Tryf.isAgg0
  z0 := Tryf.sizeOf0
  v0 := Tryf.zeroValue0
  t3 := Tryf.underlying3
  a3 := Tryf.isAgg3
  z3 := Tryf.sizeOf3
  v3 := Tryf.zeroValue3
  t4 := Tryf.underlying4
  a4 := Tryf.isAgg4
  z4 := Tryf.sizeOf4
  v4 := Tryf.zeroValue4
  t5 := Tryf.underlying5
  a5 := Tryf.isAgg5
  z5 := Tryf.sizeOf5
  v5 := Tryf.zeroValue5
  t9 := Tryf.underlying9
  a9 := Tryf.isAgg9
  z9 := Tryf.sizeOf9
  v9 := Tryf.zeroValue9
  t21 := Tryf.underlying21
  a21 := Tryf.isAgg21
  z21 := Tryf.sizeOf21
  v21 := Tryf.zeroValue21
  t46 := Tryf.underlying125
  a46 := Tryf.isAgg125
  z46 := Tryf.sizeOf125
  v46 := Tryf.zeroValue125
  t105 := Tryf.underlying86
  a105 := Tryf.isAgg86
  z105 := Tryf.sizeOf86
  v105 := Tryf.zeroValue86
  t119 := Tryf.underlying126
  a119 := Tryf.isAgg126
  z119 := Tryf.sizeOf126
  t138 := Tryf.underlying128
  a138 := Tryf.isAgg128
  z138 := Tryf.sizeOf128
  v138 := Tryf.zeroValue128
  t139 := Tryf.underlying129
  a139 := Tryf.isAgg129
  z139 := Tryf.sizeOf129
  v139 := Tryf.zeroValue129
  g3 := by kernel_rfl
  g4 := by kernel_rfl }
open Go.RowKit Go.Lib in
/-- unicode/utf8.DecodeRuneInString: "DecodeRuneInString is like DecodeRune but its input is a string.": ("DecodeRune unpacks the first UTF-8 encoding in p and returns the rune and its width in bytes."): WHERE s BEGINS WITH AN ASCII BYTE x: (x, 1). (LAID: no walk: one application.) -/
theorem Tryf.utf8_DecodeRuneInString_ascii (s : ByteArray) (x : UInt8) (w : World) (h0 : s.data.toList[0]? = some x) (hx : x.toNat < 128) :
    Calls Tryf.prog 65 #[.string s] w fun e w' => e = .returned (.tuple #[.int .i32 x.toNat, .int .i64 1]) ∧ w' = w := Any.utf8_DecodeRuneInString_ascii Tryf.lays197 s x w h0 hx
def Tryf.lays260_ren : Go.Shelf.Ren := ⟨fun | 260 => 95 | n => n, fun | 9 => 9 | 21 => 21 | 3 => 3 | 4 => 4 | 5 => 5 | 119 => 126 | 0 => 0 | 46 => 125 | 139 => 129 | 138 => 128 | n => n, fun | 3 => 2 | 4 => 3 | n => n⟩
theorem Tryf.lays260 : Go.Proofs.Lays.n260 Tryf.prog Tryf.lays260_ren := {
  mixed := by kernel_rfl
  f260 := Tryf.func95.trans (congrArg some (by kernel_rfl))
  t0 := Tryf.underlying0
  a0 := Tryf.isAgg0
  z0 := Tryf.sizeOf0
  v0 := Tryf.zeroValue0
  t3 := Tryf.underlying3
  a3 := Tryf.isAgg3
  z3 := Tryf.sizeOf3
  v3 := Tryf.zeroValue3
  t4 := Tryf.underlying4
  a4 := Tryf.isAgg4
  z4 := Tryf.sizeOf4
  v4 := Tryf.zeroValue4
  t5 := Tryf.underlying5
  a5 := Tryf.isAgg5
  z5 := Tryf.sizeOf5
  v5 := Tryf.zeroValue5
  t9 := Tryf.underlying9
  a9 := Tryf.isAgg9
  z9 := Tryf.sizeOf9
  v9 := Tryf.zeroValue9
  t21 := Tryf.underlying21
  a21 := Tryf.isAgg21
  z21 := Tryf.sizeOf21
  v21 := Tryf.zeroValue21
  t46 := Tryf.underlying125
  a46 := Tryf.isAgg125
  z46 := Tryf.sizeOf125
  v46 := Tryf.zeroValue125
  t119 := Tryf.underlying126
  a119 := Tryf.isAgg126
  z119 := Tryf.sizeOf126
  t138 := Tryf.underlying128
  a138 := Tryf.isAgg128
  z138 := Tryf.sizeOf128
  v138 := Tryf.zeroValue128
  t139 := Tryf.underlying129
  a139 := Tryf.isAgg129
  z139 := Tryf.sizeOf129
  v139 := Tryf.zeroValue129
  g3 := by kernel_rfl
  g4 := by kernel_rfl }
open Go.RowKit Go.Lib in
theorem Tryf.utf8_decodeRuneInStringSlow (s : ByteArray) (w : World) (hT : Lib.Utf8Tabs 2 3 w) :
    Calls Tryf.prog 95 #[.string s] w fun e w' => e = .returned (.tuple #[.int .i32 (Lib.decodeGo s).1, .int .i64 (Lib.decodeGo s).2]) ∧ Below w.heap.size w w' := Any.utf8_decodeRuneInStringSlow Tryf.lays260 s w hT
open Go.RowKit Go.Lib in
/-- **unicode/utf8.DecodeRuneInString AT EVERY STRING.** (LAID: no walk: one application.) -/
theorem Tryf.utf8_DecodeRuneInString (s : ByteArray) (w : World) (hT : Lib.Utf8Tabs 2 3 w) :
    Calls Tryf.prog 65 #[.string s] w fun e w' => e = .returned (.tuple #[.int .i32 (Lib.decodeGo s).1, .int .i64 (Lib.decodeGo s).2]) ∧ Below w.heap.size w w' := Any.utf8_DecodeRuneInString Tryf.lays197 s w hT
def Tryf.lays311_ren : Go.Shelf.Ren := ⟨fun | 311 => 114 | n => n, fun | 193 => 133 | 49 => 137 | 4 => 4 | 3 => 3 | 0 => 0 | 226 => 147 | 198 => 139 | 46 => 125 | n => n, fun | n => n⟩
theorem Tryf.lays311 : Go.Proofs.Lays.n311 Tryf.prog Tryf.lays311_ren := {
  mixed := by kernel_rfl
  f311 := Tryf.func114.trans (congrArg some (by kernel_rfl))
  t0 := Tryf.underlying0
  a0 := Tryf.isAgg0
  z0 := Tryf.sizeOf0
  v0 := Tryf.zeroValue0
  t3 := Tryf.underlying3
  a3 := Tryf.isAgg3
  z3 := Tryf.sizeOf3
  v3 := Tryf.zeroValue3
  t4 := Tryf.underlying4
  a4 := Tryf.isAgg4
  z4 := Tryf.sizeOf4
  v4 := Tryf.zeroValue4
  t46 := Tryf.underlying125
  a46 := Tryf.isAgg125
  z46 := Tryf.sizeOf125
  v46 := Tryf.zeroValue125
  t49 := Tryf.underlying137
  a49 := Tryf.isAgg137
  z49 := Tryf.sizeOf137
  v49 := Tryf.zeroValue137
  t193 := Tryf.underlying133
  a193 := Tryf.isAgg133
  z193 := Tryf.sizeOf133
  v193 := Tryf.zeroValue133
  t198 := Tryf.underlying139
  a198 := Tryf.isAgg139
  z198 := Tryf.sizeOf139
  v198 := Tryf.zeroValue139
  t226 := Tryf.underlying147
  a226 := Tryf.isAgg147
  z226 := Tryf.sizeOf147
  v226 := Tryf.zeroValue147 }
open Go.RowKit Go.Lib in
theorem Tryf.unicode_is16_white (R oR : Nat) (z : Nat) (w : World) (hz : z < 65536) (hz0 : 255 < z) (c6 : w.cell? ⟨R, oR + 6, none⟩ = some (.int .u16 160)) (c7 : w.cell? ⟨R, oR + 7, none⟩ = some (.int .u16 5760)) (c8 : w.cell? ⟨R, oR + 8, none⟩ = some (.int .u16 5600)) (c9 : w.cell? ⟨R, oR + 9, none⟩ = some (.int .u16 8192)) (c10 : w.cell? ⟨R, oR + 10, none⟩ = some (.int .u16 8202)) (c11 : w.cell? ⟨R, oR + 11, none⟩ = some (.int .u16 1)) (c12 : w.cell? ⟨R, oR + 12, none⟩ = some (.int .u16 8232)) (c13 : w.cell? ⟨R, oR + 13, none⟩ = some (.int .u16 8233)) (c14 : w.cell? ⟨R, oR + 14, none⟩ = some (.int .u16 1)) (c15 : w.cell? ⟨R, oR + 15, none⟩ = some (.int .u16 8239)) (c16 : w.cell? ⟨R, oR + 16, none⟩ = some (.int .u16 8287)) (c17 : w.cell? ⟨R, oR + 17, none⟩ = some (.int .u16 48)) (c18 : w.cell? ⟨R, oR + 18, none⟩ = some (.int .u16 12288)) (c19 : w.cell? ⟨R, oR + 19, none⟩ = some (.int .u16 12288)) (c20 : w.cell? ⟨R, oR + 20, none⟩ = some (.int .u16 1)) :
    Calls Tryf.prog 114 #[.slice (some ⟨R, oR + 6, none⟩) 5 5, .int .u16 z] w fun e w' => e = .returned (.bool (Lib.isSpaceR z)) ∧ Below w.heap.size w w' := Any.unicode_is16_white Tryf.lays311 R oR z w hz hz0 c6 c7 c8 c9 c10 c11 c12 c13 c14 c15 c16 c17 c18 c19 c20
def Tryf.lays261_ren : Go.Shelf.Ren := ⟨fun | 261 => 102 | 311 => 114 | 312 => 115 | n => n, fun | 141 => 120 | 21 => 21 | 4 => 4 | 0 => 0 | 196 => 136 | 193 => 133 | 3 => 3 | 51 => 118 | 198 => 139 | 49 => 137 | 194 => 134 | 201 => 142 | 226 => 147 | 46 => 125 | 227 => 148 | n => n, fun | n => n⟩
theorem Tryf.lays261 : Go.Proofs.Lays.n261 Tryf.prog Tryf.lays261_ren := {
  mixed := by kernel_rfl
  f261 := Tryf.func102.trans (congrArg some (by kernel_rfl))
  f311 := Tryf.func114.trans (congrArg some (by kernel_rfl))
  f312 := Tryf.func115.trans (congrArg some (by kernel_rfl))
  t0 := Tryf.underlying0
  a0 := Tryf.isAgg0
  z0 := Tryf.sizeOf0
  v0 := Tryf.zeroValue0
  t3 := Tryf.underlying3
  a3 := Tryf.isAgg3
  z3 := Tryf.sizeOf3
  v3 := Tryf.zeroValue3
  t4 := Tryf.underlying4
  a4 := Tryf.isAgg4
  z4 := Tryf.sizeOf4
  v4 := Tryf.zeroValue4
  t21 := Tryf.underlying21
  a21 := Tryf.isAgg21
  z21 := Tryf.sizeOf21
  v21 := Tryf.zeroValue21
  t46 := Tryf.underlying125
  a46 := Tryf.isAgg125
  z46 := Tryf.sizeOf125
  v46 := Tryf.zeroValue125
  t49 := Tryf.underlying137
  a49 := Tryf.isAgg137
  z49 := Tryf.sizeOf137
  v49 := Tryf.zeroValue137
  t51 := Tryf.underlying118
  a51 := Tryf.isAgg118
  z51 := Tryf.sizeOf118
  v51 := Tryf.zeroValue118
  t141 := Tryf.underlying120
  a141 := Tryf.isAgg120
  z141 := Tryf.sizeOf120
  v141 := Tryf.zeroValue120
  t193 := Tryf.underlying133
  a193 := Tryf.isAgg133
  z193 := Tryf.sizeOf133
  v193 := Tryf.zeroValue133
  t194 := Tryf.underlying134
  a194 := Tryf.isAgg134
  z194 := Tryf.sizeOf134
  v194 := Tryf.zeroValue134
  t196 := Tryf.underlying136
  a196 := Tryf.isAgg136
  z196 := Tryf.sizeOf136
  v196 := Tryf.zeroValue136
  t198 := Tryf.underlying139
  a198 := Tryf.isAgg139
  z198 := Tryf.sizeOf139
  v198 := Tryf.zeroValue139
  t201 := Tryf.underlying142
  a201 := Tryf.isAgg142
  z201 := Tryf.sizeOf142
  v201 := Tryf.zeroValue142
  t226 := Tryf.underlying147
  a226 := Tryf.isAgg147
  z226 := Tryf.sizeOf147
  v226 := Tryf.zeroValue147
  t227 := Tryf.underlying148
  a227 := Tryf.isAgg148
  z227 := Tryf.sizeOf148
  v227 := Tryf.zeroValue148 }
open Go.RowKit Go.Lib in
/-- unicode.isExcludingLatin(White_Space, r), r beyond U+00FF or negative. (LAID: no walk: one application.) -/
theorem Tryf.unicode_isExcludingLatin_white (T oT R oR : Nat) (r : Int) (w : World) (hlo : -2147483648 ≤ r) (hhi : r ≤ 2147483647) (hr : r < 0 ∨ 255 < r) (h2 : w.cell? ⟨T, oT, none⟩ = some (.slice (some ⟨R, oR, none⟩) 7 7)) (h3 : w.cell? ⟨T, oT + 1, none⟩ = some (.slice none 0 0)) (h4 : w.cell? ⟨T, oT + 2, none⟩ = some (.int .i64 2)) (h5 : ∀ i, i < 21 → w.cell? ⟨R, oR + i, none⟩ = some (.int .u16 (whiteT.getD i 0))) :
    Calls Tryf.prog 102 #[.pointer (some ⟨T, oT, none⟩), .int .i32 r] w fun e w' => e = .returned (.bool (Lib.isSpaceZ r)) ∧ Below w.heap.size w w' := Any.unicode_isExcludingLatin_white Tryf.lays261 T oT R oR r w hlo hhi hr h2 h3 h4 h5
open Go.RowKit Go.Lib in
/-- **unicode.IsSpace AT EVERY int32.** (LAID: no walk: one application.) -/
theorem Tryf.unicode_IsSpace_any (r : Int) (w : World) (hlo : -2147483648 ≤ r) (hhi : r ≤ 2147483647) (hW : Lib.WhiteTab 0 w) :
    Calls Tryf.prog 80 #[.int .i32 r] w fun e w' => e = .returned (.bool (Lib.isSpaceZ r)) ∧ Below w.heap.size w w' := Any.unicode_IsSpace_any Tryf.lays199 r w hlo hhi hW
def Tryf.lays271_ren : Go.Shelf.Ren := ⟨fun | 271 => 88 | 120 => 107 | 197 => 65 | 260 => 95 | n => n, fun | 9 => 9 | 21 => 21 | 3 => 3 | 4 => 4 | 5 => 5 | 105 => 86 | 119 => 126 | 0 => 0 | 46 => 125 | 139 => 129 | 138 => 128 | n => n, fun | 3 => 2 | 4 => 3 | n => n⟩
theorem Tryf.lays271 : Go.Proofs.Lays.n271 Tryf.prog Tryf.lays271_ren := {
  mixed := by kernel_rfl
  f120 := Tryf.func107.trans (congrArg some (by kernel_rfl))
  f197 := Tryf.func65.trans (congrArg some (by kernel_rfl))
  f260 := Tryf.func95.trans (congrArg some (by kernel_rfl))
  f271 := Tryf.func88.trans (congrArg some (by kernel_rfl))
  t0 := Tryf.underlying0
  a0 := Tryf.isAgg0
  z0 := Tryf.sizeOf0
  v0 := Tryf.zeroValue0
  t3 := Tryf.underlying3
  a3 := Tryf.isAgg3
  z3 := Tryf.sizeOf3
  v3 := Tryf.zeroValue3
  t4 := Tryf.underlying4
  a4 := Tryf.isAgg4
  z4 := Tryf.sizeOf4
  v4 := Tryf.zeroValue4
  t5 := Tryf.underlying5
  a5 := Tryf.isAgg5
  z5 := Tryf.sizeOf5
  v5 := Tryf.zeroValue5
  t9 := Tryf.underlying9
  a9 := Tryf.isAgg9
  z9 := Tryf.sizeOf9
  v9 := Tryf.zeroValue9
  t21 := Tryf.underlying21
  a21 := Tryf.isAgg21
  z21 := Tryf.sizeOf21
  v21 := Tryf.zeroValue21
  t46 := Tryf.underlying125
  a46 := Tryf.isAgg125
  z46 := Tryf.sizeOf125
  v46 := Tryf.zeroValue125
  t105 := Tryf.underlying86
  a105 := Tryf.isAgg86
  z105 := Tryf.sizeOf86
  v105 := Tryf.zeroValue86
  t119 := Tryf.underlying126
  a119 := Tryf.isAgg126
  z119 := Tryf.sizeOf126
  t138 := Tryf.underlying128
  a138 := Tryf.isAgg128
  z138 := Tryf.sizeOf128
  v138 := Tryf.zeroValue128
  t139 := Tryf.underlying129
  a139 := Tryf.isAgg129
  z139 := Tryf.sizeOf129
  v139 := Tryf.zeroValue129
  g3 := by kernel_rfl
  g4 := by kernel_rfl }
open Go.RowKit Go.Lib in
/-- **unicode/utf8.DecodeLastRuneInString AT EVERY STRING.** (LAID: no walk: one application.) -/
theorem Tryf.utf8_DecodeLastRuneInString (s : ByteArray) (w : World) (hs : s.size ≤ 9223372036854775807) (hT : Lib.Utf8Tabs 2 3 w) :
    Calls Tryf.prog 88 #[.string s] w fun e w' => e = .returned (.tuple #[.int .i32 (Lib.decodeLastL s.data.toList).1, .int .i64 (Lib.decodeLastL s.data.toList).2]) ∧ Below w.heap.size w w' := Any.utf8_DecodeLastRuneInString Tryf.lays271 s w hs hT
open Go.RowKit Go.Lib in
theorem Tryf.unicode_is16_any (T : Array Rg) (R oR cap : Nat) (z : Nat) (w : World) (hz : z < 65536) (hT : RgTab .u16 R oR T w) (hok : RgOk 65536 T) (hn : T.size ≤ 1000000000) :
    Calls Tryf.prog 114 #[.slice (some ⟨R, oR, none⟩) T.size cap, .int .u16 z] w fun e w' => e = .returned (.bool (is16Go T z)) ∧ ∃ q, w' = w.drewN q := Any.unicode_is16_any Tryf.lays311 T R oR cap z w hz hT hok hn
def Tryf.lays312_ren : Go.Shelf.Ren := ⟨fun | 312 => 115 | n => n, fun | 194 => 134 | 51 => 118 | 4 => 4 | 3 => 3 | 0 => 0 | 227 => 148 | 201 => 142 | 46 => 125 | n => n, fun | n => n⟩
theorem Tryf.lays312 : Go.Proofs.Lays.n312 Tryf.prog Tryf.lays312_ren := {
  mixed := by kernel_rfl
  f312 := Tryf.func115.trans (congrArg some (by kernel_rfl))
  t0 := Tryf.underlying0
  a0 := Tryf.isAgg0
  z0 := Tryf.sizeOf0
  v0 := Tryf.zeroValue0
  t3 := Tryf.underlying3
  a3 := Tryf.isAgg3
  z3 := Tryf.sizeOf3
  v3 := Tryf.zeroValue3
  t4 := Tryf.underlying4
  a4 := Tryf.isAgg4
  z4 := Tryf.sizeOf4
  v4 := Tryf.zeroValue4
  t46 := Tryf.underlying125
  a46 := Tryf.isAgg125
  z46 := Tryf.sizeOf125
  v46 := Tryf.zeroValue125
  t51 := Tryf.underlying118
  a51 := Tryf.isAgg118
  z51 := Tryf.sizeOf118
  v51 := Tryf.zeroValue118
  t194 := Tryf.underlying134
  a194 := Tryf.isAgg134
  z194 := Tryf.sizeOf134
  v194 := Tryf.zeroValue134
  t201 := Tryf.underlying142
  a201 := Tryf.isAgg142
  z201 := Tryf.sizeOf142
  v201 := Tryf.zeroValue142
  t227 := Tryf.underlying148
  a227 := Tryf.isAgg148
  z227 := Tryf.sizeOf148
  v227 := Tryf.zeroValue148 }
open Go.RowKit Go.Lib in
theorem Tryf.unicode_is32_any (T : Array Rg) (R oR cap : Nat) (z : Nat) (w : World) (hz : z < 4294967296) (hT : RgTab .u32 R oR T w) (hok : RgOk 4294967296 T) (hn : T.size ≤ 1000000000) :
    Calls Tryf.prog 115 #[.slice (some ⟨R, oR, none⟩) T.size cap, .int .u32 z] w fun e w' => e = .returned (.bool (is32Go T z)) ∧ Below w.heap.size w w' := Any.unicode_is32_any Tryf.lays312 T R oR cap z w hz hT hok hn
open Go.RowKit Go.Lib in
theorem Tryf.unicode_isExcludingLatin_any (Tb oT : Nat) (T : RTab) (r : Int) (w : World) (hlo : -2147483648 ≤ r) (hhi : r ≤ 2147483647) (hA : RTabAt Tb oT T w) (hok : RTabOk T) :
    Calls Tryf.prog 102 #[.pointer (some ⟨Tb, oT, none⟩), .int .i32 r] w fun e w' => e = .returned (.bool (exclGo T r)) ∧ Below w.heap.size w w' := Any.unicode_isExcludingLatin_any Tryf.lays261 Tb oT T r w hlo hhi hA hok
open Go.RowKit Go.Lib in
/-- unicode.IsLetter(r) AT EVERY int32, over whatever table the variable unicode.Letter leads to. (LAID: no walk: one application.) -/
theorem Tryf.unicode_IsLetter_any (T : RTab) (r : Int) (w : World) (hlo : -2147483648 ≤ r) (hhi : r ≤ 2147483647) (htab : Lib.TabIs Tryf.prog w "unicode.properties" .u8 Lib.propertiesTab) (hV : RVar 5 T w) (hok : RTabOk T) :
    Calls Tryf.prog 108 #[.int .i32 r] w fun e w' => e = .returned (.bool (if latin1 r then isLetterL r else exclGo T r)) ∧ Below w.heap.size w w' := Any.unicode_IsLetter_any Tryf.lays200 (by kernel_rfl) T r w hlo hhi htab hV hok
open Go.RowKit Go.Lib in
/-- unicode.IsDigit(r) AT EVERY int32, over whatever table the variable unicode.Digit leads to. (LAID: no walk: one application.) -/
theorem Tryf.unicode_IsDigit_any (T : RTab) (r : Int) (w : World) (hlo : -2147483648 ≤ r) (hhi : r ≤ 2147483647) (hV : RVar 1 T w) (hok : RTabOk T) :
    Calls Tryf.prog 93 #[.int .i32 r] w fun e w' => e = .returned (.bool (if r ≤ 255 then isDigitL r else exclGo T r)) ∧ Below w.heap.size w w' := Any.unicode_IsDigit_any Tryf.lays198 T r w hlo hhi hV hok
open Go.RowKit Go.Lib in
/-- unicode.IsLetter(r) AT EVERY int32, the tables as their initialisers lay them: 'Lib.isLetterU r'. (LAID: no walk: one application.) -/
theorem Tryf.unicode_IsLetter_all (r : Int) (w : World) (hlo : -2147483648 ≤ r) (hhi : r ≤ 2147483647) (htab : Lib.TabIs Tryf.prog w "unicode.properties" .u8 Lib.propertiesTab) (hV : RVar 5 letterT w) :
    Calls Tryf.prog 108 #[.int .i32 r] w fun e w' => e = .returned (.bool (isLetterU r)) ∧ Below w.heap.size w w' := Any.unicode_IsLetter_all Tryf.lays200 (by kernel_rfl) r w hlo hhi htab hV
open Go.RowKit Go.Lib in
/-- unicode.IsDigit(r) AT EVERY int32: 'Lib.isDigitU r'. (LAID: no walk: one application.) -/
theorem Tryf.unicode_IsDigit_all (r : Int) (w : World) (hlo : -2147483648 ≤ r) (hhi : r ≤ 2147483647) (hV : RVar 1 digitT w) :
    Calls Tryf.prog 93 #[.int .i32 r] w fun e w' => e = .returned (.bool (isDigitU r)) ∧ Below w.heap.size w w' := Any.unicode_IsDigit_all Tryf.lays198 r w hlo hhi hV
end Go.Proofs
