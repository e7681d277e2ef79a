/-
  unescape and unescapeBytes, root, the lexer's step and Next's pull, said in plain Lean. No program stands in this text.
-/
import Derived.Test.YtlbmojpmfgihlaaFmtStates2
import Derived.Test.YtlbmojpmfgihlaaFmtDec
import Derived.Laws.Entries
namespace Go.Proofs.YtlbmojpmfgihlaaFmt
open Go Go.Lib

/-- unhex: the value, is it a digit? -/
def unhexV (b : Nat) : Int := if 48 ≤ b ∧ b ≤ 57 then (b : Int) - 48 else if 97 ≤ b ∧ b ≤ 102 then (b : Int) - 97 + 10 else if 65 ≤ b ∧ b ≤ 70 then (b : Int) - 65 + 10 else 0
def unhexB' (b : Nat) : Bool := (decide (48 ≤ b) && decide (b ≤ 57)) || (decide (97 ≤ b) && decide (b ≤ 102)) || (decide (65 ≤ b) && decide (b ≤ 70))
/-- v<<4 | x of an int32. -/
def shl4 (v x : Int) : Int := bits BinOp.or .i32 (IntKind.i32.wrap (v * 16)) x
/-- n hex digits from byte i on, v read ahead of them. -/
def hexN (s : ByteArray) : Nat → Nat → Int → Option Int
  | 0, _, v => some v
  | n + 1, i, v => if unhexB' (byt s i) then hexN s n (i + 1) (shl4 v (unhexV (byt s i))) else none
/-- The digits in braces from byte i on: d read, v their value: the value, the byte of '}'. -/
def hexBr (s : ByteArray) : Nat → Nat → Nat → Int → Option (Int × Nat)
  | 0, _, _, _ => none
  | f + 1, i, d, v =>
    if i < s.size ∧ byt s i ≠ 125 then (if unhexB' (byt s i) then (if 6 ≤ d then none else hexBr s f (i + 1) (d + 1) (shl4 v (unhexV (byt s i)))) else none)
    else if i < s.size ∧ d ≠ 0 then some (v, i)
    else none
def isOct (b : Nat) : Bool := decide (48 ≤ b) && decide (b ≤ 55)
/-- What a letter behind a backslash stands for (-1: nothing). -/
def simpleEsc (c : Nat) : Int :=
  if c = 97 then 7 else if c = 98 then 8 else if c = 102 then 12 else if c = 110 then 10 else if c = 114 then 13 else if c = 116 then 9 else if c = 118 then 11
  else if c = 92 then 92 else if c = 39 then 39 else if c = 34 then 34 else if c = 96 then 96 else if c = 63 then 63 else -1
def escW (c : Nat) : Nat := if c = 120 ∨ c = 88 then 2 else if c = 117 then 4 else 8
/-- A code's end: it may not lie beyond the runes. -/
def hexEnd (k : Nat) : Option Int → Option (Int × Bool × Nat)
  | none => none
  | some v => if 1114111 < v then none else some (v, true, k)
def brEnd : Option (Int × Nat) → Option (Int × Bool × Nat)
  | none => none
  | some (v, i) => if 1114111 < v then none else some (v, true, i + 1)
/-- unescapeChar: the rune, may it take many bytes, how many bytes it took. -/
def uChar (s : ByteArray) : Option (Int × Bool × Nat) :=
  if 128 ≤ byt s 0 then some (rAt s 0, true, wAt s 0)
  else if byt s 0 ≠ 92 then some (byt s 0, false, 1)
  else if s.size ≤ 1 then none
  else if 0 ≤ simpleEsc (byt s 1) then some (simpleEsc (byt s 1), false, 2)
  else if byt s 1 = 120 ∨ byt s 1 = 88 ∨ byt s 1 = 117 ∨ byt s 1 = 85 then
    (if byt s 1 = 117 ∧ 2 < s.size ∧ byt s 2 = 123 then
      brEnd (hexBr s 7 3 0 0)
    else if s.size - 2 < escW (byt s 1) then none
    else hexEnd (escW (byt s 1) + 2) (hexN s (escW (byt s 1)) 2 0))
  else if 48 ≤ byt s 1 ∧ byt s 1 ≤ 51 then
    (if s.size < 4 then none
    else if isOct (byt s 2) && isOct (byt s 3) then some (((byt s 1 : Int) - 48) * 64 + ((byt s 2 : Int) - 48) * 8 + ((byt s 3 : Int) - 48), true, 4)
    else none)
  else none
/-- unescapeByteChar. -/
def bChar (s : ByteArray) : Option (Int × Bool × Nat) :=
  if byt s 0 ≠ 92 then (if 128 ≤ byt s 0 then some (rAt s 0, true, wAt s 0) else some (byt s 0, false, 1))
  else if s.size ≤ 1 then none
  else if 0 ≤ simpleEsc (byt s 1) then some (simpleEsc (byt s 1), false, 2)
  else if byt s 1 = 120 ∨ byt s 1 = 88 then
    (if s.size < 4 then none
    else if unhexB' (byt s 2) && unhexB' (byt s 3) then some (shl4 (unhexV (byt s 2)) (unhexV (byt s 3)), false, 4)
    else none)
  else if 48 ≤ byt s 1 ∧ byt s 1 ≤ 51 then
    (if s.size < 4 then none
    else if isOct (byt s 2) && isOct (byt s 3) then some (((byt s 1 : Int) - 48) * 64 + ((byt s 2 : Int) - 48) * 8 + ((byt s 3 : Int) - 48), false, 4)
    else none)
  else none

/-- zzNewlines. -/
def newl (s : ByteArray) : Nat → Nat → List UInt8
  | 0, _ => []
  | f + 1, i => if i < s.size then (if byt s i = 13 then 10 :: newl s f (if i + 1 < s.size ∧ byt s (i + 1) = 10 then i + 2 else i + 1) else s.get! i :: newl s f (i + 1)) else []
def newlines (s : ByteArray) : ByteArray := bs (newl s s.size 0)
/-- What one rune is written as. -/
def outOf (c : Int) (mb : Bool) : List UInt8 := if c < 128 ∨ mb = false then [UInt8.ofNat (c % 256).toNat] else encodeRune c
/-- The loop of unescape: the text's rest, what is written: an error, or the text. -/
def uGo (one : ByteArray → Option (Int × Bool × Nat)) : Nat → ByteArray → List UInt8 → Option (List UInt8)
  | 0, _, acc => some acc
  | f + 1, v, acc => if v.size = 0 then some acc else match one v with
    | none => none
    | some (c, mb, k) => uGo one f (v.extract k v.size) (acc ++ outOf c mb)
/-- unescape: was there no error, and the text. -/
def unesc (one : ByteArray → Option (Int × Bool × Nat)) (value : ByteArray) : Bool × ByteArray :=
  let v := newlines value
  if v.size < 2 then (false, v)
  else if byt v 0 ≠ byt v (v.size - 1) ∨ (byt v 0 ≠ 34 ∧ byt v 0 ≠ 39) then (false, v)
  else match uGo one v.size (v.extract 1 (v.size - 1)) [] with
    | none => (false, ⟨#[]⟩)
    | some l => (true, bs l)

/-! ### root -/
/-- A quoted text behind its quote: kind k, its word from byte o of it on. -/
def rootStr (one : ByteArray → Option (Int × Bool × Nat)) (k : ByteArray) (o : Nat) (s : ByteArray) (quote : Int) (hq : quote ≠ -1) (t : St) : St :=
  let t1 := (scanString s quote hq t).2
  let u := unesc one ((word s t1).extract o (word s t1).size)
  emitV k u.2 (if u.1 then t1 else error t1)
/-- Is r one of the lexer's own signs, and what becomes of it? -/
def root (s : ByteArray) (t : St) : Option Q × St :=
  if peek s t = -1 then (none, emitEOF (next s t))
  else if isSpaceZ (peek s t) then (some .root, commit (next s t))
  else if peek s t = 39 then (some .root, rootStr uChar kString 0 s 39 (by decide) (next s t))
  else if peek s t = 34 then (some .root, rootStr uChar kString 0 s 34 (by decide) (next s t))
  else if peek s t = 96 then (some .root, (scanRaw s 96 (next s t)).2)
  else if (peek s t = 98 ∨ peek s t = 66) ∧ peek s (next s t) = 39 then (some .root, rootStr bChar kBytes 1 s 39 (by decide) (next s (next s t)))
  else if (peek s t = 98 ∨ peek s t = 66) ∧ peek s (next s t) = 34 then (some .root, rootStr bChar kBytes 1 s 34 (by decide) (next s (next s t)))
  else if 48 ≤ peek s t ∧ peek s t ≤ 57 then (some .number, t)
  else if peek s t = 63 then (some .questionMark, next s t)
  else if peek s t = 47 then (some .slash, next s t)
  else if peek s t = 35 then (some .pointer, next s t)
  else if peek s t = 124 then (some .root, emit kOperator s (accept cBar s (next s t)))
  else if peek s t = 58 then (some .root, emit kOperator s (accept cColon s (next s t)))
  else if has cOpen (peek s t) then (some .root, emit kBracket s (next s t))
  else if has cShut (peek s t) then (some .root, emit kBracket s (next s t))
  else if has cOne (peek s t) then (some .root, emit kOperator s (next s t))
  else if has cTwo (peek s t) then (some .root, emit kOperator s (accept cTail s (next s t)))
  else if peek s t = 46 then (some .dot, t)
  else if alnum (peek s t) then (some .identifier, t)
  else (none, error (next s t))

def state (q : Q) (s : ByteArray) (t : St) : Option Q × St :=
  match q with
  | .root => root s t
  | .number => number s t
  | .questionMark => questionMark s t
  | .slash => slash s t
  | .pointer => pointer s t
  | .dot => dot s t
  | .identifier => identifier s t
  | .not => not s t
  | .singleLine => singleLine s t
  | .multiLine => multiLine s t
def step (s : ByteArray) (t : St) : St :=
  match t.q with
  | none => t
  | some q => { (state q s t).2 with q := (state q s t).1 }
/-- Does Next's loop go on? -/
def going (t : St) : Bool := t.q.isSome && t.err.isNone && t.toks.isEmpty
def pull (s : ByteArray) : Nat → St → St
  | 0, t => t
  | n + 1, t => if going t then pull s n (step s t) else t

end Go.Proofs.YtlbmojpmfgihlaaFmt
