/-
  The lexer's other states, its step, Next's pull, said in plain Lean. No program stands in this text. (A backup is said by what it comes to: the place ahead of the last read.)
-/
import Derived.Test.YtlbmojpmfgihlaaFmtStates
import Derived.Shelf.Unicode.IsSpaceAny
namespace Go.Proofs.YtlbmojpmfgihlaaFmt
open Go Go.Lib

theorem alnum_end : alnum (-1) = false := by
  have h1 : isLetterU (-1) = false := by unfold isLetterU; rw [if_neg (by decide)]; decide +kernel
  have h2 : isDigitU (-1) = false := by unfold isDigitU; rw [if_pos (by decide)]; decide +kernel
  unfold alnum alpha
  rw [h1, h2]
  decide

/-- A run of letters and digits; the lexer stands ahead of what follows it. -/
def alnumSkip (s : ByteArray) (t : St) : St :=
  if h : alnum (peek s t) = true ∧ peek s t ≠ -1 then alnumSkip s (next s t) else t
termination_by s.size - t.eb
decreasing_by exact peek_sub h.2

def kwNot : ByteArray := ⟨#[110, 111, 116]⟩
def kwIn : ByteArray := ⟨#[105, 110]⟩
def kwOr : ByteArray := ⟨#[111, 114]⟩
def kwAnd : ByteArray := ⟨#[97, 110, 100]⟩
def kwMatches : ByteArray := ⟨#[109, 97, 116, 99, 104, 101, 115]⟩
def kwContains : ByteArray := ⟨#[99, 111, 110, 116, 97, 105, 110, 115]⟩
def kwStartsWith : ByteArray := ⟨#[115, 116, 97, 114, 116, 115, 87, 105, 116, 104]⟩
def kwEndsWith : ByteArray := ⟨#[101, 110, 100, 115, 87, 105, 116, 104]⟩
def kwLet : ByteArray := ⟨#[108, 101, 116]⟩
def kwIf : ByteArray := ⟨#[105, 102]⟩
def kwElse : ByteArray := ⟨#[101, 108, 115, 101]⟩

/-- What word makes of an identifier: 0 'not', 1 an operator, 2 'if', 'else', 3 another. -/
inductive Kw where
  | kNot | op | cond | other
  deriving DecidableEq
def kwOf (v : ByteArray) : Kw :=
  if v = kwNot then .kNot
  else if v = kwIn then .op
  else if v = kwOr then .op
  else if v = kwAnd then .op
  else if v = kwMatches then .op
  else if v = kwContains then .op
  else if v = kwStartsWith then .op
  else if v = kwEndsWith then .op
  else if v = kwLet then .op
  else if v = kwIf then .cond
  else if v = kwElse then .cond
  else .other
/-- The words that 'not' joins. -/
def notJoins (v : ByteArray) : Bool :=
  if v = kwIn then true
  else if v = kwMatches then true
  else if v = kwContains then true
  else if v = kwStartsWith then true
  else if v = kwEndsWith then true
  else false

def identEnd (s : ByteArray) (dis : Bool) (t1 : St) : Kw → Option Q × St
  | .kNot => (some .not, t1)
  | .op => (some .root, emit kOperator s t1)
  | .cond => (some .root, emit (if dis then kIdentifier else kOperator) s t1)
  | .other => (some .root, emit kIdentifier s t1)
def identifier (s : ByteArray) (t : St) : Option Q × St := identEnd s t.dis (alnumSkip s t) (kwOf (word s (alnumSkip s t)))

/-- Behind 'not': the place behind its spaces. -/
def notAt (s : ByteArray) (t : St) : St := skipSpaces s (emit kOperator s t)
def not (s : ByteArray) (t : St) : Option Q × St :=
  if notJoins (word s (alnumSkip s (notAt s t))) then (some .root, emit kOperator s (alnumSkip s (notAt s t))) else (some .root, notAt s t)

def cDig : ByteArray := ⟨#[48, 49, 50, 51, 52, 53, 54, 55, 56, 57]⟩
def cQd : ByteArray := ⟨#[46, 63]⟩
def cSlash : ByteArray := ⟨#[47]⟩
def cStar : ByteArray := ⟨#[42]⟩
def cHash : ByteArray := ⟨#[35]⟩
def cBar : ByteArray := ⟨#[124]⟩
def cColon : ByteArray := ⟨#[58]⟩
def cOpen : ByteArray := ⟨#[40, 91, 123]⟩
def cShut : ByteArray := ⟨#[41, 93, 125]⟩
def cOne : ByteArray := ⟨#[44, 59, 37, 43, 45, 94]⟩
def cTwo : ByteArray := ⟨#[38, 33, 61, 42, 60, 62]⟩
def cTail : ByteArray := ⟨#[38, 61, 42]⟩

def dot (s : ByteArray) (t : St) : Option Q × St :=
  if acceptB cDig s (next s t) then (some .number, next s t) else (some .root, emit kOperator s (accept cDot s (next s t)))
def questionMark (s : ByteArray) (t : St) : Option Q × St := (some .root, emit kOperator s (accept cQd s t))
def slash (s : ByteArray) (t : St) : Option Q × St :=
  if acceptB cSlash s t then (some .singleLine, next s t)
  else if acceptB cStar s t then (some .multiLine, next s t)
  else (some .root, emit kOperator s t)

/-- To the end of the line, and over it. -/
def lineRun (s : ByteArray) (t : St) : St :=
  if h : peek s t = -1 ∨ peek s t = 10 then next s t else lineRun s (next s t)
termination_by s.size - t.eb
decreasing_by exact peek_sub (fun e => h (Or.inl e))
def singleLine (s : ByteArray) (t : St) : Option Q × St := (some .root, commit (lineRun s t))

theorem accept_ge (v s : ByteArray) (t : St) : t.eb ≤ (accept v s t).eb := by
  unfold accept
  split
  · exact next_ge s t
  · exact Nat.le_refl _
/-- To the comment's end: was it there? -/
def multiRun (s : ByteArray) (t : St) : Bool × St :=
  if h : peek s t = -1 then (false, next s t)
  else if peek s t = 42 ∧ acceptB cSlash s (next s t) = true then (true, next s (next s t))
  else multiRun s (next s t)
termination_by s.size - t.eb
decreasing_by exact peek_sub h
def multiLine (s : ByteArray) (t : St) : Option Q × St :=
  if (multiRun s t).1 then (some .root, commit (multiRun s t).2) else (none, error (multiRun s t).2)

/-- The place behind a pointer's name. -/
def pointerAt (s : ByteArray) (t : St) : St := alnumSkip s (emit kOperator s (accept cHash s t))
def pointer (s : ByteArray) (t : St) : Option Q × St :=
  if word s (pointerAt s t) = ⟨#[]⟩ then (some .root, pointerAt s t) else (some .root, emit kIdentifier s (pointerAt s t))

end Go.Proofs.YtlbmojpmfgihlaaFmt
