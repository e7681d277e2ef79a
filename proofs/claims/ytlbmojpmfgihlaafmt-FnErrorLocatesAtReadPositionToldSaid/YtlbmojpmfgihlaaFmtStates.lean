/-
  The lexer's states, said in plain Lean over its source's bytes. No program stands in this text.
-/
import Derived.Test.YtlbmojpmfgihlaaFmtModel2
namespace Go.Proofs.YtlbmojpmfgihlaaFmt
open Go Go.Lib

def dDec : ByteArray := ⟨#[48, 49, 50, 51, 52, 53, 54, 55, 56, 57, 95]⟩
def dHex : ByteArray := ⟨#[48, 49, 50, 51, 52, 53, 54, 55, 56, 57, 97, 98, 99, 100, 101, 102, 65, 66, 67, 68, 69, 70, 95]⟩
def dOct : ByteArray := ⟨#[48, 49, 50, 51, 52, 53, 54, 55, 95]⟩
def dBin : ByteArray := ⟨#[48, 49, 95]⟩
def c0 : ByteArray := ⟨#[48]⟩
def cxX : ByteArray := ⟨#[120, 88]⟩
def coO : ByteArray := ⟨#[111, 79]⟩
def cbB : ByteArray := ⟨#[98, 66]⟩
def cDot : ByteArray := ⟨#[46]⟩
def ceE : ByteArray := ⟨#[101, 69]⟩
def cSign : ByteArray := ⟨#[43, 45]⟩

/-- Which digits a number takes, and the lexer behind its prefix. -/
def numPre (s : ByteArray) (t : St) : ByteArray × St :=
  if acceptB c0 s t then
    (if acceptB cxX s (next s t) then (dHex, next s (next s t))
     else if acceptB coO s (next s t) then (dOct, next s (next s t))
     else if acceptB cbB s (next s t) then (dBin, next s (next s t))
     else (dDec, next s t))
  else (dDec, t)
/-- The exponent, and what may not follow. -/
def numEnd (d s : ByteArray) (t : St) : Bool × St :=
  let t1 := if acceptB ceE s t then acceptRun d s (accept cSign s (next s t)) else t
  if alnum (peek s t1) then (false, next s t1) else (true, t1)
/-- Behind the whole digits. -/
def numFrac (d s : ByteArray) (t : St) : Bool × St :=
  if acceptB cDot s t then
    (if peek s (next s t) = 46 then (true, { next s t with eb := t.eb, er := t.er })
     else numEnd d s (acceptRun d s (next s t)))
  else numEnd d s t
def scanNumber (s : ByteArray) (t : St) : Bool × St := numFrac (numPre s t).1 s (acceptRun (numPre s t).1 s (numPre s t).2)

/-- The fields but the cursor and the end's flag stay; the cursor stays in the text and does not go back. -/
structure Reads (s : ByteArray) (t t' : St) : Prop where
  q : t'.q = t.q
  dis : t'.dis = t.dis
  err : t'.err = t.err
  toks : t'.toks = t.toks
  sb : t'.sb = t.sb
  sr : t'.sr = t.sr
  le : t.eb ≤ s.size → t'.eb ≤ s.size
  ge : t.eb ≤ t'.eb
theorem Reads.refl (s : ByteArray) (t : St) : Reads s t t := ⟨rfl, rfl, rfl, rfl, rfl, rfl, id, Nat.le_refl _⟩
theorem Reads.trans {s : ByteArray} {a b c : St} (h : Reads s a b) (k : Reads s b c) : Reads s a c :=
  ⟨k.q.trans h.q, k.dis.trans h.dis, k.err.trans h.err, k.toks.trans h.toks, k.sb.trans h.sb, k.sr.trans h.sr, fun x => k.le (h.le x), Nat.le_trans h.ge k.ge⟩
theorem reads_next (s : ByteArray) (t : St) : Reads s t (next s t) := by
  by_cases h : t.eb < s.size
  · rw [next_in h]
    have := wAt_le s t.eb h
    exact ⟨rfl, rfl, rfl, rfl, rfl, rfl, fun _ => this, Nat.le_add_right _ _⟩
  · rw [next_end h]
    exact ⟨rfl, rfl, rfl, rfl, rfl, rfl, id, Nat.le_refl _⟩
theorem reads_accept (v s : ByteArray) (t : St) : Reads s t (accept v s t) := by
  unfold accept
  split
  · exact reads_next s t
  · exact Reads.refl s t
theorem reads_acceptRun (v s : ByteArray) (t : St) : Reads s t (acceptRun v s t) := by
  rw [acceptRun]
  split
  · exact (reads_next s t).trans (reads_acceptRun v s (next s t))
  · exact Reads.refl s t
termination_by s.size - t.eb
decreasing_by exact peek_sub (has_ne (by assumption))
theorem reads_numPre (s : ByteArray) (t : St) : Reads s t (numPre s t).2 := by
  have h1 := reads_next s t
  have h2 := h1.trans (reads_next s (next s t))
  unfold numPre
  repeat' split
  all_goals first | exact h2 | exact h1 | exact Reads.refl s t
theorem reads_numEnd (d s : ByteArray) (t : St) : Reads s t (numEnd d s t).2 := by
  have h : Reads s t (if acceptB ceE s t then acceptRun d s (accept cSign s (next s t)) else t) := by
    split
    · exact ((reads_next s t).trans (reads_accept _ s _)).trans (reads_acceptRun _ s _)
    · exact Reads.refl s t
  have key : ∀ x, Reads s t x → Reads s t (if alnum (peek s x) = true then (false, next s x) else (true, x)).2 := by
    intro x hx
    split
    · exact hx.trans (reads_next s x)
    · exact hx
  exact key _ h
theorem reads_numFrac (d s : ByteArray) (t : St) : Reads s t (numFrac d s t).2 := by
  unfold numFrac
  split
  · split
    · have h := reads_next s t
      exact ⟨h.q, h.dis, h.err, h.toks, h.sb, h.sr, id, Nat.le_refl _⟩
    · exact ((reads_next s t).trans (reads_acceptRun d s _)).trans (reads_numEnd d s _)
  · exact reads_numEnd d s t
theorem reads_scanNumber (s : ByteArray) (t : St) : Reads s t (scanNumber s t).2 := ((reads_numPre s t).trans (reads_acceptRun _ s _)).trans (reads_numFrac _ s _)

/-- What a state answers: the next state, the lexer. -/
def number (s : ByteArray) (t : St) : Option Q × St := if (scanNumber s t).1 then (some .root, emit kNumber s (scanNumber s t).2) else (none, error (scanNumber s t).2)

end Go.Proofs.YtlbmojpmfgihlaaFmt
