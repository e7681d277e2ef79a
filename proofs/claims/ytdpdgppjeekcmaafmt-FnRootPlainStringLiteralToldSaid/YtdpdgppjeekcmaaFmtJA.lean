/-
  Plain texts, joined: Model Model2 States States2 Dec Dec3 Pure Back Unesc Way.
-/
import Derived.Lib.SpaceU
import Derived.Lib.IsU
import Derived.Lib.MapLaws
import Derived.Lib.TrimUEq
import Derived.Lib.RuneCount
import Derived.Lib.RuneBytes
import Derived.Lib.LazyBuf
import Derived.Shelf.Unicode.IsSpaceAny
import Derived.Lib.DecodeN
import Derived.Lib.TrimAscii
import Derived.Laws.Entries
/-
  The lexer, said in plain Lean over its source's bytes: each Go function of the lexer as a function of the lexer's fields. No program stands in this text.
-/
namespace Go.Proofs.YtdpdgppjeekcmaaFmt
open Go Go.Lib

/-- The rune that stands at byte i, and its width. -/
def rAt (s : ByteArray) (i : Nat) : Int := (Utf8.decode s i).1
def wAt (s : ByteArray) (i : Nat) : Nat := (Utf8.decode s i).2

theorem wAt_pos (s : ByteArray) (i : Nat) (h : i < s.size) : 1 ≤ wAt s i := decode_width_pos s i h
theorem wAt_le (s : ByteArray) (i : Nat) (h : i < s.size) : i + wAt s i ≤ s.size := by
  have h0 := decodeL_drop s i
  have hne : s.data.toList.drop i ≠ [] := by
    intro e
    have := congrArg List.length e
    rw [List.length_drop] at this
    have h1 := Lib.size_eq s
    simp only [List.length_nil] at this
    omega
  have := decodeL_le (s.data.toList.drop i) hne
  rw [h0, List.length_drop] at this
  have h1 := Lib.size_eq s
  unfold wAt
  omega
theorem rAt_nonneg (s : ByteArray) (i : Nat) : 0 ≤ rAt s i := by unfold rAt; omega
theorem rAt_le (s : ByteArray) (i : Nat) : rAt s i ≤ 1114111 := by
  have := decodeL_rune (s.data.toList.drop i)
  rw [decodeL_drop] at this
  unfold rAt; omega

/-- The lexer's states. -/
inductive Q where
  | root | number | questionMark | slash | pointer | dot | identifier | not | singleLine | multiLine
  deriving DecidableEq

structure Tok where
  frm : Int
  to : Int
  kind : ByteArray
  value : ByteArray

/-- The lexer's fields (but its source), its queue as a list, its error's place. -/
structure St where
  q : Option Q
  sb : Nat
  sr : Nat
  eb : Nat
  er : Nat
  eof : Bool
  dis : Bool
  err : Option (Int × Int)
  toks : List Tok

def next (s : ByteArray) (t : St) : St :=
  if t.eb < s.size then { t with er := t.er + 1, eb := t.eb + wAt s t.eb } else { t with eof := true }
/-- What next and peek answer. -/
def peek (s : ByteArray) (t : St) : Int := if t.eb < s.size then rAt s t.eb else -1
def backup (s : ByteArray) (t : St) : St :=
  if t.eof then { t with eof := false }
  else if 0 < t.er then { t with eb := t.eb - (decodeLastL (s.data.toList.take t.eb)).2, er := t.er - 1 } else t
def commit (t : St) : St := { t with sb := t.eb, sr := t.er }
def word (s : ByteArray) (t : St) : ByteArray := s.extract t.sb t.eb
def emitV (k v : ByteArray) (t : St) : St := commit { t with toks := t.toks ++ [⟨t.sr, t.er, k, v⟩] }
def emit (k : ByteArray) (s : ByteArray) (t : St) : St := emitV k (word s t) t

def kEOF : ByteArray := ⟨#[69, 79, 70]⟩
def kIdentifier : ByteArray := ⟨#[73, 100, 101, 110, 116, 105, 102, 105, 101, 114]⟩
def kNumber : ByteArray := ⟨#[78, 117, 109, 98, 101, 114]⟩
def kString : ByteArray := ⟨#[83, 116, 114, 105, 110, 103]⟩
def kBytes : ByteArray := ⟨#[66, 121, 116, 101, 115]⟩
def kOperator : ByteArray := ⟨#[79, 112, 101, 114, 97, 116, 111, 114]⟩
def kBracket : ByteArray := ⟨#[66, 114, 97, 99, 107, 101, 116]⟩

def emitEOF (t : St) : St := commit { t with toks := t.toks ++ [⟨((t.er - 1 : Nat) : Int), t.er, kEOF, ⟨#[]⟩⟩] }

theorem peek_lt {s : ByteArray} {t : St} (h : peek s t ≠ -1) : t.eb < s.size := by
  unfold peek at h
  by_cases hl : t.eb < s.size
  · exact hl
  · rw [if_neg hl] at h; exact absurd rfl h
theorem peek_nonneg {s : ByteArray} {t : St} (h : t.eb < s.size) : 0 ≤ peek s t := by
  unfold peek; rw [if_pos h]; exact rAt_nonneg _ _
theorem peek_lo (s : ByteArray) (t : St) : -1 ≤ peek s t := by
  unfold peek
  by_cases hl : t.eb < s.size
  · rw [if_pos hl]; have := rAt_nonneg s t.eb; omega
  · rw [if_neg hl]; omega
theorem peek_hi (s : ByteArray) (t : St) : peek s t ≤ 1114111 := by
  unfold peek
  by_cases hl : t.eb < s.size
  · rw [if_pos hl]; exact rAt_le _ _
  · rw [if_neg hl]; omega
theorem next_in {s : ByteArray} {t : St} (h : t.eb < s.size) : next s t = { t with er := t.er + 1, eb := t.eb + wAt s t.eb } := by unfold next; rw [if_pos h]
theorem next_end {s : ByteArray} {t : St} (h : ¬ t.eb < s.size) : next s t = { t with eof := true } := by unfold next; rw [if_neg h]
theorem next_gt {s : ByteArray} {t : St} (h : t.eb < s.size) : t.eb < (next s t).eb := by
  rw [next_in h]; have := wAt_pos s t.eb h; show t.eb < t.eb + _; omega
theorem next_ge (s : ByteArray) (t : St) : t.eb ≤ (next s t).eb := by
  by_cases h : t.eb < s.size
  · exact Nat.le_of_lt (next_gt h)
  · rw [next_end h]; exact Nat.le_refl _
theorem next_le {s : ByteArray} {t : St} (h : t.eb ≤ s.size) : (next s t).eb ≤ s.size := by
  by_cases hl : t.eb < s.size
  · rw [next_in hl]; exact wAt_le s t.eb hl
  · rw [next_end hl]; exact h

/-- The runes of a string from byte i on (what 'range' hands over). -/
def runesFrom (v : ByteArray) : Nat → Nat → List Int
  | 0, _ => []
  | f + 1, i => if i < v.size then rAt v i :: runesFrom v f (i + wAt v i) else []
def runesOf (v : ByteArray) : List Int := runesFrom v v.size 0

/-- zzContainsRune. -/
def okRune (r : Int) : Bool := decide (r = 65533) || (decide (0 ≤ r) && decide (r ≤ 1114111) && !(decide (55296 ≤ r) && decide (r ≤ 57343)))
def has (v : ByteArray) (r : Int) : Bool := okRune r && (runesOf v).contains r

theorem has_ne {v : ByteArray} {r : Int} (h : has v r = true) : r ≠ -1 := by
  intro e
  subst e
  simp [has, okRune] at h

def acceptB (v s : ByteArray) (t : St) : Bool := has v (peek s t)
def accept (v s : ByteArray) (t : St) : St := if acceptB v s t then next s t else t

theorem next_sub {s : ByteArray} {t : St} (h : t.eb < s.size) : s.size - (next s t).eb < s.size - t.eb := by
  have h1 := next_gt h
  omega
theorem peek_sub {s : ByteArray} {t : St} (h : peek s t ≠ -1) : s.size - (next s t).eb < s.size - t.eb := next_sub (peek_lt h)

def acceptRun (v s : ByteArray) (t : St) : St :=
  if _h : has v (peek s t) = true then acceptRun v s (next s t) else t
termination_by s.size - t.eb
decreasing_by exact peek_sub (has_ne _h)

def skipSpaces (s : ByteArray) (t : St) : St := commit (acceptRun ⟨#[32]⟩ s t)

/-- error: the first one stays. -/
def error (t : St) : St :=
  if t.err.isSome then t else { t with err := some ((t.er : Int) + (if t.eof then 1 else 0) - 1, (t.er : Int) + (if t.eof then 1 else 0)) }

def digitVal (r : Int) : Int :=
  if 48 ≤ r ∧ r ≤ 57 then r - 48 else if 97 ≤ r ∧ r ≤ 102 then r - 87 else if 65 ≤ r ∧ r ≤ 70 then r - 55 else 16

/-- scanDigits, n the digits still to come: the rune behind them, the lexer. -/
def scanDigits (s : ByteArray) (base : Int) : Nat → Int → St → Int × St
  | 0, ch, t => (ch, t)
  | n + 1, ch, t => if digitVal ch < base then scanDigits s base n (peek s t) (next s t) else (ch, error t)

/-- The braced escape, behind its '{', d digits read. -/
def braces (s : ByteArray) : Nat → Nat → St → Int × St
  | 0, _, t => (-1, t)
  | f + 1, d, t =>
    if peek s t = 125 then (if d = 0 then (-1, error t) else (peek s (next s t), next s (next s t)))
    else if 16 ≤ digitVal (peek s t) then (-1, error t)
    else if 6 ≤ d then (-1, error t)
    else braces s f (d + 1) (next s t)

def isSimple (ch : Int) : Bool := decide (ch = 97) || decide (ch = 98) || decide (ch = 102) || decide (ch = 110) || decide (ch = 114) || decide (ch = 116) || decide (ch = 118) || decide (ch = 92)

def scanEscape (s : ByteArray) (quote : Int) (t : St) : Int × St :=
  let ch := peek s t
  let t1 := next s t
  if isSimple ch || decide (ch = quote) then (peek s t1, next s t1)
  else if 48 ≤ ch ∧ ch ≤ 55 then scanDigits s 8 3 ch t1
  else if ch = 120 then scanDigits s 16 2 (peek s t1) (next s t1)
  else if ch = 117 then (if peek s t1 = 123 then braces s 7 0 (next s t1) else scanDigits s 16 4 (peek s t1) (next s t1))
  else if ch = 85 then scanDigits s 16 8 (peek s t1) (next s t1)
  else (ch, error t1)

theorem error_eb (t : St) : (error t).eb = t.eb := by unfold error; split <;> rfl

theorem scanDigits_ge (s : ByteArray) (base : Int) : ∀ (n : Nat) (ch : Int) (t : St), t.eb ≤ (scanDigits s base n ch t).2.eb
  | 0, _, _ => Nat.le_refl _
  | n + 1, ch, t => by
    unfold scanDigits
    split
    · exact Nat.le_trans (next_ge s t) (scanDigits_ge s base n _ _)
    · rw [error_eb]; exact Nat.le_refl _
theorem braces_ge (s : ByteArray) : ∀ (f d : Nat) (t : St), t.eb ≤ (braces s f d t).2.eb
  | 0, _, _ => Nat.le_refl _
  | f + 1, d, t => by
    unfold braces
    split
    · split
      · rw [error_eb]; exact Nat.le_refl _
      · exact Nat.le_trans (next_ge s t) (next_ge s _)
    · split
      · rw [error_eb]; exact Nat.le_refl _
      · split
        · rw [error_eb]; exact Nat.le_refl _
        · exact Nat.le_trans (next_ge s t) (braces_ge s f _ _)
theorem scanEscape_ge (s : ByteArray) (quote : Int) (t : St) : (next s t).eb ≤ (scanEscape s quote t).2.eb := by
  unfold scanEscape
  dsimp only
  split
  · exact next_ge s _
  · split
    · exact scanDigits_ge s _ _ _ _
    · split
      · exact Nat.le_trans (next_ge s _) (scanDigits_ge s _ _ _ _)
      · split
        · split
          · exact Nat.le_trans (next_ge s _) (braces_ge s _ _ _)
          · exact Nat.le_trans (next_ge s _) (scanDigits_ge s _ _ _ _)
        · split
          · exact Nat.le_trans (next_ge s _) (scanDigits_ge s _ _ _ _)
          · rw [error_eb]; exact Nat.le_refl _

/-- At the end of the text scanEscape answers -1 (no quote is -1). -/
theorem scanEscape_end (s : ByteArray) (quote : Int) (t : St) (hq : quote ≠ -1) (h : ¬ t.eb < s.size) : (scanEscape s quote t).1 = -1 := by
  have hp : peek s t = -1 := by unfold peek; rw [if_neg h]
  unfold scanEscape
  dsimp only
  rw [hp]
  have h1 : (isSimple (-1) || decide (-1 = quote)) = false := by
    have : ¬ (-1 = quote) := fun e => hq e.symm
    simp [isSimple, this]
  rw [h1]
  simp

/-- How far a scanning loop has still to go: a rune read that isn't the end counts one. -/
def togo (s : ByteArray) (ch : Int) (t : St) : Nat := 2 * (s.size - t.eb) + (if ch = -1 then 0 else 1)

theorem togo_next (s : ByteArray) (ch : Int) (t : St) (h : ch ≠ -1) : togo s (peek s t) (next s t) < togo s ch t := by
  unfold togo
  rw [if_neg h]
  by_cases hl : t.eb < s.size
  · have := next_sub hl
    split <;> omega
  · rw [next_end hl]
    have : peek s t = -1 := by unfold peek; rw [if_neg hl]
    rw [if_pos this]
    show 2 * (s.size - t.eb) + 0 < _
    omega
theorem togo_escape (s : ByteArray) (quote ch : Int) (t : St) (hq : quote ≠ -1) (h : ch ≠ -1) : togo s (scanEscape s quote t).1 (scanEscape s quote t).2 < togo s ch t := by
  unfold togo
  rw [if_neg h]
  have hge := scanEscape_ge s quote t
  by_cases hl : t.eb < s.size
  · have := next_gt hl
    split <;> omega
  · rw [if_pos (scanEscape_end s quote t hq hl)]
    have := next_ge s t
    omega

/-- scanString's loop: ch the rune in hand, n the units read: (n, the lexer). The quote is no -1. -/
def scanStr (s : ByteArray) (quote : Int) (hq : quote ≠ -1) (n : Nat) (ch : Int) (t : St) : Nat × St :=
  if ch = quote then (n, t)
  else if h : ch = 10 ∨ ch = -1 then (n, error t)
  else if ch = 92 then scanStr s quote hq (n + 1) (scanEscape s quote t).1 (scanEscape s quote t).2
  else scanStr s quote hq (n + 1) (peek s t) (next s t)
termination_by togo s ch t
decreasing_by
  · exact togo_escape s quote ch t hq (fun e => h (Or.inr e))
  · exact togo_next s ch t (fun e => h (Or.inr e))
def scanString (s : ByteArray) (quote : Int) (hq : quote ≠ -1) (t : St) : Nat × St := scanStr s quote hq 0 (peek s t) (next s t)

/-- scanRawString's loops: n the runes, e the pairs, ch the rune in hand: (n, e, ended at a quote, the lexer). -/
def rawGo (s : ByteArray) (quote : Int) (n e : Nat) (ch : Int) (t : St) : Nat × Nat × Bool × St :=
  if h : ch = quote ∧ peek s t = quote ∧ ch ≠ -1 then rawGo s quote n (e + 1) (peek s (next s t)) (next s (next s t))
  else if ch = quote then (n, e, true, t)
  else if h2 : ch = -1 then (n, e, false, error t)
  else rawGo s quote (n + 1) e (peek s t) (next s t)
termination_by togo s ch t
decreasing_by
  · exact Nat.lt_trans (togo_next s _ _ (by rw [h.2.1, ← h.1]; exact h.2.2)) (togo_next s ch t h.2.2)
  · exact togo_next s ch t h2

/-- What 'for _, r := range str' keeps of a raw string's content: of two quotes the second. -/
def unpair (quote : Int) : Bool → List Int → List Int
  | _, [] => []
  | sk, r :: rs => if r = quote then (if sk then r :: unpair quote false rs else unpair quote true rs) else r :: unpair quote sk rs
def encodeAll (rs : List Int) : List UInt8 := rs.flatMap encodeRune
def rawValue (quote : Int) (e : Nat) (str : ByteArray) : ByteArray := if e = 0 then str else ⟨(encodeAll (unpair quote false (runesOf str))).toArray⟩
def scanRaw (s : ByteArray) (quote : Int) (t : St) : Nat × St :=
  match rawGo s quote 0 0 (peek s t) (next s t) with
  | (n, e, true, t1) => (n, emitV kString (rawValue quote e (s.extract (t1.sb + 1) (t1.eb - 1))) t1)
  | (n, _, false, t1) => (n, t1)

def alpha (r : Int) : Bool := decide (r = 95) || decide (r = 36) || isLetterU r
def alnum (r : Int) : Bool := alpha r || isDigitU r

/-- A run of letters and digits, and the rune behind it read (or the end met). -/
def alnumRun (s : ByteArray) (t : St) : St :=
  if _h : alnum (peek s t) = true ∧ peek s t ≠ -1 then alnumRun s (next s t) else next s t
termination_by s.size - t.eb
decreasing_by exact peek_sub _h.2

end Go.Proofs.YtdpdgppjeekcmaaFmt

/-
  The lexer's states, Next and Lex, said in plain Lean (over XModel). No program stands in this text.
-/
namespace Go.Proofs.YtdpdgppjeekcmaaFmt
open Go Go.Lib

def bs (l : List UInt8) : ByteArray := ⟨l.toArray⟩

/-! ### unescape -/

/-- zzNewlines: CR LF and CR alone become LF. -/
def newlinesL : List UInt8 → List UInt8
  | [] => []
  | [c] => if c = 13 then [10] else [c]
  | c :: d :: r => if c = 13 then (if d = 10 then 10 :: newlinesL r else 10 :: newlinesL (d :: r)) else c :: newlinesL (d :: r)

def unhexB (b : UInt8) : Option Int :=
  if 48 ≤ b.toNat ∧ b.toNat ≤ 57 then some (b.toNat - 48) else if 97 ≤ b.toNat ∧ b.toNat ≤ 102 then some (b.toNat - 87) else if 65 ≤ b.toNat ∧ b.toNat ≤ 70 then some (b.toNat - 55) else none

end Go.Proofs.YtdpdgppjeekcmaaFmt

/-
  The lexer's states, said in plain Lean over its source's bytes. No program stands in this text.
-/
namespace Go.Proofs.YtdpdgppjeekcmaaFmt
open Go Go.Lib

def dDec : ByteArray := ⟨#[48, 49, 50, 51, 52, 53, 54, 55, 56, 57, 95]⟩
def dHex : ByteArray := ⟨#[48, 49, 50, 51, 52, 53, 54, 55, 56, 57, 97, 98, 99, 100, 101, 102, 65, 66, 67, 68, 69, 70, 95]⟩
def dOct : ByteArray := ⟨#[48, 49, 50, 51, 52, 53, 54, 55, 95]⟩
def dBin : ByteArray := ⟨#[48, 49, 95]⟩
def c0 : ByteArray := ⟨#[48]⟩
def cxX : ByteArray := ⟨#[120, 88]⟩
def coO : ByteArray := ⟨#[111, 79]⟩
def cbB : ByteArray := ⟨#[98, 66]⟩
def cDot : ByteArray := ⟨#[46]⟩
def ceE : ByteArray := ⟨#[101, 69]⟩
def cSign : ByteArray := ⟨#[43, 45]⟩

/-- Which digits a number takes, and the lexer behind its prefix. -/
def numPre (s : ByteArray) (t : St) : ByteArray × St :=
  if acceptB c0 s t then
    (if acceptB cxX s (next s t) then (dHex, next s (next s t))
     else if acceptB coO s (next s t) then (dOct, next s (next s t))
     else if acceptB cbB s (next s t) then (dBin, next s (next s t))
     else (dDec, next s t))
  else (dDec, t)
/-- The exponent, and what may not follow. -/
def numEnd (d s : ByteArray) (t : St) : Bool × St :=
  let t1 := if acceptB ceE s t then acceptRun d s (accept cSign s (next s t)) else t
  if alnum (peek s t1) then (false, next s t1) else (true, t1)
/-- Behind the whole digits. -/
def numFrac (d s : ByteArray) (t : St) : Bool × St :=
  if acceptB cDot s t then
    (if peek s (next s t) = 46 then (true, { next s t with eb := t.eb, er := t.er })
     else numEnd d s (acceptRun d s (next s t)))
  else numEnd d s t
def scanNumber (s : ByteArray) (t : St) : Bool × St := numFrac (numPre s t).1 s (acceptRun (numPre s t).1 s (numPre s t).2)

/-- The fields but the cursor and the end's flag stay; the cursor stays in the text and does not go back. -/
structure Reads (s : ByteArray) (t t' : St) : Prop where
  q : t'.q = t.q
  dis : t'.dis = t.dis
  err : t'.err = t.err
  toks : t'.toks = t.toks
  sb : t'.sb = t.sb
  sr : t'.sr = t.sr
  le : t.eb ≤ s.size → t'.eb ≤ s.size
  ge : t.eb ≤ t'.eb
theorem Reads.refl (s : ByteArray) (t : St) : Reads s t t := ⟨rfl, rfl, rfl, rfl, rfl, rfl, id, Nat.le_refl _⟩
theorem Reads.trans {s : ByteArray} {a b c : St} (h : Reads s a b) (k : Reads s b c) : Reads s a c :=
  ⟨k.q.trans h.q, k.dis.trans h.dis, k.err.trans h.err, k.toks.trans h.toks, k.sb.trans h.sb, k.sr.trans h.sr, fun x => k.le (h.le x), Nat.le_trans h.ge k.ge⟩
theorem reads_next (s : ByteArray) (t : St) : Reads s t (next s t) := by
  by_cases h : t.eb < s.size
  · rw [next_in h]
    have := wAt_le s t.eb h
    exact ⟨rfl, rfl, rfl, rfl, rfl, rfl, fun _ => this, Nat.le_add_right _ _⟩
  · rw [next_end h]
    exact ⟨rfl, rfl, rfl, rfl, rfl, rfl, id, Nat.le_refl _⟩
theorem reads_accept (v s : ByteArray) (t : St) : Reads s t (accept v s t) := by
  unfold accept
  split
  · exact reads_next s t
  · exact Reads.refl s t
theorem reads_acceptRun (v s : ByteArray) (t : St) : Reads s t (acceptRun v s t) := by
  rw [acceptRun]
  split
  · exact (reads_next s t).trans (reads_acceptRun v s (next s t))
  · exact Reads.refl s t
termination_by s.size - t.eb
decreasing_by exact peek_sub (has_ne (by assumption))
theorem reads_numPre (s : ByteArray) (t : St) : Reads s t (numPre s t).2 := by
  have h1 := reads_next s t
  have h2 := h1.trans (reads_next s (next s t))
  unfold numPre
  repeat' split
  all_goals first | exact h2 | exact h1 | exact Reads.refl s t
theorem reads_numEnd (d s : ByteArray) (t : St) : Reads s t (numEnd d s t).2 := by
  have h : Reads s t (if acceptB ceE s t then acceptRun d s (accept cSign s (next s t)) else t) := by
    split
    · exact ((reads_next s t).trans (reads_accept _ s _)).trans (reads_acceptRun _ s _)
    · exact Reads.refl s t
  have key : ∀ x, Reads s t x → Reads s t (if alnum (peek s x) = true then (false, next s x) else (true, x)).2 := by
    intro x hx
    split
    · exact hx.trans (reads_next s x)
    · exact hx
  exact key _ h
theorem reads_numFrac (d s : ByteArray) (t : St) : Reads s t (numFrac d s t).2 := by
  unfold numFrac
  split
  · split
    · have h := reads_next s t
      exact ⟨h.q, h.dis, h.err, h.toks, h.sb, h.sr, id, Nat.le_refl _⟩
    · exact ((reads_next s t).trans (reads_acceptRun d s _)).trans (reads_numEnd d s _)
  · exact reads_numEnd d s t
theorem reads_scanNumber (s : ByteArray) (t : St) : Reads s t (scanNumber s t).2 := ((reads_numPre s t).trans (reads_acceptRun _ s _)).trans (reads_numFrac _ s _)

/-- What a state answers: the next state, the lexer. -/
def number (s : ByteArray) (t : St) : Option Q × St := if (scanNumber s t).1 then (some .root, emit kNumber s (scanNumber s t).2) else (none, error (scanNumber s t).2)

end Go.Proofs.YtdpdgppjeekcmaaFmt

/-
  The lexer's other states, its step, Next's pull, said in plain Lean. No program stands in this text. (A backup is said by what it comes to: the place ahead of the last read.)
-/
namespace Go.Proofs.YtdpdgppjeekcmaaFmt
open Go Go.Lib

theorem alnum_end : alnum (-1) = false := by
  have h1 : isLetterU (-1) = false := by unfold isLetterU; rw [if_neg (by decide)]; decide +kernel
  have h2 : isDigitU (-1) = false := by unfold isDigitU; rw [if_pos (by decide)]; decide +kernel
  unfold alnum alpha
  rw [h1, h2]
  decide

/-- A run of letters and digits; the lexer stands ahead of what follows it. -/
def alnumSkip (s : ByteArray) (t : St) : St :=
  if _h : alnum (peek s t) = true ∧ peek s t ≠ -1 then alnumSkip s (next s t) else t
termination_by s.size - t.eb
decreasing_by exact peek_sub _h.2

def kwNot : ByteArray := ⟨#[110, 111, 116]⟩
def kwIn : ByteArray := ⟨#[105, 110]⟩
def kwOr : ByteArray := ⟨#[111, 114]⟩
def kwAnd : ByteArray := ⟨#[97, 110, 100]⟩
def kwMatches : ByteArray := ⟨#[109, 97, 116, 99, 104, 101, 115]⟩
def kwContains : ByteArray := ⟨#[99, 111, 110, 116, 97, 105, 110, 115]⟩
def kwStartsWith : ByteArray := ⟨#[115, 116, 97, 114, 116, 115, 87, 105, 116, 104]⟩
def kwEndsWith : ByteArray := ⟨#[101, 110, 100, 115, 87, 105, 116, 104]⟩
def kwLet : ByteArray := ⟨#[108, 101, 116]⟩
def kwIf : ByteArray := ⟨#[105, 102]⟩
def kwElse : ByteArray := ⟨#[101, 108, 115, 101]⟩

/-- What word makes of an identifier: 0 'not', 1 an operator, 2 'if', 'else', 3 another. -/
inductive Kw where
  | kNot | op | cond | other
  deriving DecidableEq
def kwOf (v : ByteArray) : Kw :=
  if v = kwNot then .kNot
  else if v = kwIn then .op
  else if v = kwOr then .op
  else if v = kwAnd then .op
  else if v = kwMatches then .op
  else if v = kwContains then .op
  else if v = kwStartsWith then .op
  else if v = kwEndsWith then .op
  else if v = kwLet then .op
  else if v = kwIf then .cond
  else if v = kwElse then .cond
  else .other
/-- The words that 'not' joins. -/
def notJoins (v : ByteArray) : Bool :=
  if v = kwIn then true
  else if v = kwMatches then true
  else if v = kwContains then true
  else if v = kwStartsWith then true
  else if v = kwEndsWith then true
  else false

def identEnd (s : ByteArray) (dis : Bool) (t1 : St) : Kw → Option Q × St
  | .kNot => (some .not, t1)
  | .op => (some .root, emit kOperator s t1)
  | .cond => (some .root, emit (if dis then kIdentifier else kOperator) s t1)
  | .other => (some .root, emit kIdentifier s t1)
def identifier (s : ByteArray) (t : St) : Option Q × St := identEnd s t.dis (alnumSkip s t) (kwOf (word s (alnumSkip s t)))

/-- Behind 'not': the place behind its spaces. -/
def notAt (s : ByteArray) (t : St) : St := skipSpaces s (emit kOperator s t)
def not (s : ByteArray) (t : St) : Option Q × St :=
  if notJoins (word s (alnumSkip s (notAt s t))) then (some .root, emit kOperator s (alnumSkip s (notAt s t))) else (some .root, notAt s t)

def cDig : ByteArray := ⟨#[48, 49, 50, 51, 52, 53, 54, 55, 56, 57]⟩
def cQd : ByteArray := ⟨#[46, 63]⟩
def cSlash : ByteArray := ⟨#[47]⟩
def cStar : ByteArray := ⟨#[42]⟩
def cHash : ByteArray := ⟨#[35]⟩
def cBar : ByteArray := ⟨#[124]⟩
def cColon : ByteArray := ⟨#[58]⟩
def cOpen : ByteArray := ⟨#[40, 91, 123]⟩
def cShut : ByteArray := ⟨#[41, 93, 125]⟩
def cOne : ByteArray := ⟨#[44, 59, 37, 43, 45, 94]⟩
def cTwo : ByteArray := ⟨#[38, 33, 61, 42, 60, 62]⟩
def cTail : ByteArray := ⟨#[38, 61, 42]⟩

def dot (s : ByteArray) (t : St) : Option Q × St :=
  if acceptB cDig s (next s t) then (some .number, next s t) else (some .root, emit kOperator s (accept cDot s (next s t)))
def questionMark (s : ByteArray) (t : St) : Option Q × St := (some .root, emit kOperator s (accept cQd s t))
def slash (s : ByteArray) (t : St) : Option Q × St :=
  if acceptB cSlash s t then (some .singleLine, next s t)
  else if acceptB cStar s t then (some .multiLine, next s t)
  else (some .root, emit kOperator s t)

/-- To the end of the line, and over it. -/
def lineRun (s : ByteArray) (t : St) : St :=
  if _h : peek s t = -1 ∨ peek s t = 10 then next s t else lineRun s (next s t)
termination_by s.size - t.eb
decreasing_by exact peek_sub (fun e => _h (Or.inl e))
def singleLine (s : ByteArray) (t : St) : Option Q × St := (some .root, commit (lineRun s t))

theorem accept_ge (v s : ByteArray) (t : St) : t.eb ≤ (accept v s t).eb := by
  unfold accept
  split
  · exact next_ge s t
  · exact Nat.le_refl _
/-- To the comment's end: was it there? -/
def multiRun (s : ByteArray) (t : St) : Bool × St :=
  if _h : peek s t = -1 then (false, next s t)
  else if peek s t = 42 ∧ acceptB cSlash s (next s t) = true then (true, next s (next s t))
  else multiRun s (next s t)
termination_by s.size - t.eb
decreasing_by exact peek_sub _h
def multiLine (s : ByteArray) (t : St) : Option Q × St :=
  if (multiRun s t).1 then (some .root, commit (multiRun s t).2) else (none, error (multiRun s t).2)

/-- The place behind a pointer's name. -/
def pointerAt (s : ByteArray) (t : St) : St := alnumSkip s (emit kOperator s (accept cHash s t))
def pointer (s : ByteArray) (t : St) : Option Q × St :=
  if word s (pointerAt s t) = ⟨#[]⟩ then (some .root, pointerAt s t) else (some .root, emit kIdentifier s (pointerAt s t))

end Go.Proofs.YtdpdgppjeekcmaaFmt

/-
  The model's decoder by the bounds of its bytes: what the laws' own decoders compare. No program stands in this text.
-/
namespace Go.Proofs.YtdpdgppjeekcmaaFmt
open Go Go.Lib

/-- The byte at place k (0 beyond the end). -/
def byt (s : ByteArray) (k : Nat) : Nat := (s.get! k).toNat
theorem byt_of {s : ByteArray} {k : Nat} (h : k < s.size) : byt s k = (s[k]'h).toNat := by
  unfold byt
  have : s.get! k = s[k]'h := by
    have h' : k < s.data.size := h
    simp only [ByteArray.get!, ByteArray.getElem_eq_getElem_data, Array.getElem!_eq_getD, Array.getD]
    rw [dif_pos h']
    rfl
  rw [this]
theorem byt_lt (s : ByteArray) (k : Nat) : byt s k < 256 := (s.get! k).toNat_lt

theorem dec_pair (s : ByteArray) (i : Nat) : Utf8.decode s i = decodeN (s.size - i) (byt s i) (byt s (i + 1)) (byt s (i + 2)) (byt s (i + 3)) := decode_at s i

theorem dec1 {s : ByteArray} {i : Nat} (h : byt s i < 128) : rAt s i = (byt s i : Int) ∧ wAt s i = 1 := by
  unfold rAt wAt
  rw [dec_pair, decodeN, if_pos h]
  exact ⟨rfl, rfl⟩
theorem dec_lo {s : ByteArray} {i : Nat} (h0 : 128 ≤ byt s i) (h : byt s i < 194) : rAt s i = 65533 ∧ wAt s i = 1 := by
  unfold rAt wAt
  rw [dec_pair, decodeN, if_neg (by omega)]
  have b1 := byt_lt s (i + 1)
  by_cases hc : byt s i / 32 = 6 ∧ (1 < s.size - i ∧ byt s (i + 1) / 64 = 2)
  · rw [if_pos hc, if_neg (by omega)]; exact ⟨rfl, rfl⟩
  · rw [if_neg hc, if_neg (by omega), if_neg (by omega)]; exact ⟨rfl, rfl⟩
theorem dec_hi {s : ByteArray} {i : Nat} (h0 : 245 ≤ byt s i) : rAt s i = 65533 ∧ wAt s i = 1 := by
  unfold rAt wAt
  rw [dec_pair, decodeN, if_neg (by omega)]
  have b1 := byt_lt s (i + 1)
  rw [if_neg (by have := byt_lt s i; omega), if_neg (by have := byt_lt s i; omega)]
  by_cases hc : byt s i / 8 = 30 ∧ (1 < s.size - i ∧ byt s (i + 1) / 64 = 2) ∧ (2 < s.size - i ∧ byt s (i + 2) / 64 = 2) ∧ (3 < s.size - i ∧ byt s (i + 3) / 64 = 2)
  · rw [if_pos hc, if_neg (by omega)]; exact ⟨rfl, rfl⟩
  · rw [if_neg hc]; exact ⟨rfl, rfl⟩
theorem dec2 {s : ByteArray} {i : Nat} (h0 : 194 ≤ byt s i) (h : byt s i < 224) :
    ((i + 1 < s.size ∧ 128 ≤ byt s (i + 1) ∧ byt s (i + 1) ≤ 191) ∧ rAt s i = (byt s i % 32 * 64 + byt s (i + 1) % 64 : Int) ∧ wAt s i = 2) ∨ (¬ (i + 1 < s.size ∧ 128 ≤ byt s (i + 1) ∧ byt s (i + 1) ≤ 191) ∧ rAt s i = 65533 ∧ wAt s i = 1) := by
  unfold rAt wAt
  rw [dec_pair, decodeN, if_neg (by omega)]
  by_cases hc : i + 1 < s.size ∧ 128 ≤ byt s (i + 1) ∧ byt s (i + 1) ≤ 191
  · left
    rw [if_pos (by omega), if_pos (by omega)]
    exact ⟨hc, by simp, rfl⟩
  · right
    rw [if_neg (by omega), if_neg (by omega), if_neg (by omega)]
    exact ⟨hc, rfl, rfl⟩
def lo3 (b : Nat) : Nat := if b = 224 then 160 else 128
def hi3 (b : Nat) : Nat := if b = 237 then 159 else 191
def lo4 (b : Nat) : Nat := if b = 240 then 144 else 128
def hi4 (b : Nat) : Nat := if b = 244 then 143 else 191
set_option maxHeartbeats 1000000 in
theorem dec3 {s : ByteArray} {i : Nat} (h0 : 224 ≤ byt s i) (h : byt s i < 240) :
    ((i + 2 < s.size ∧ lo3 (byt s i) ≤ byt s (i + 1) ∧ byt s (i + 1) ≤ hi3 (byt s i) ∧ 128 ≤ byt s (i + 2) ∧ byt s (i + 2) ≤ 191) ∧ rAt s i = (byt s i % 16 * 4096 + byt s (i + 1) % 64 * 64 + byt s (i + 2) % 64 : Int) ∧ wAt s i = 3) ∨
      (¬ (i + 2 < s.size ∧ lo3 (byt s i) ≤ byt s (i + 1) ∧ byt s (i + 1) ≤ hi3 (byt s i) ∧ 128 ≤ byt s (i + 2) ∧ byt s (i + 2) ≤ 191) ∧ rAt s i = 65533 ∧ wAt s i = 1) := by
  unfold rAt wAt
  rw [dec_pair, decodeN, if_neg (by omega), if_neg (by omega)]
  have b1 := byt_lt s (i + 1)
  have b2 := byt_lt s (i + 2)
  generalize byt s i = x0 at *
  generalize byt s (i + 1) = x1 at *
  generalize byt s (i + 2) = x2 at *
  generalize byt s (i + 3) = x3 at *
  by_cases hc : i + 2 < s.size ∧ lo3 x0 ≤ x1 ∧ x1 ≤ hi3 x0 ∧ 128 ≤ x2 ∧ x2 ≤ 191
  · left
    refine ⟨hc, ?_⟩
    unfold lo3 hi3 at hc
    rw [if_pos (by split at hc <;> split at hc <;> omega), if_pos (by split at hc <;> split at hc <;> omega)]
    exact ⟨by simp, rfl⟩
  · right
    refine ⟨hc, ?_⟩
    unfold lo3 hi3 at hc
    by_cases hd : x0 / 16 = 14 ∧ (1 < s.size - i ∧ x1 / 64 = 2) ∧ (2 < s.size - i ∧ x2 / 64 = 2)
    · rw [if_pos hd, if_neg (by split at hc <;> split at hc <;> omega)]
      exact ⟨rfl, rfl⟩
    · rw [if_neg hd, if_neg (by omega)]
      exact ⟨rfl, rfl⟩
set_option maxHeartbeats 1000000 in
theorem dec4 {s : ByteArray} {i : Nat} (h0 : 240 ≤ byt s i) (h : byt s i < 245) :
    ((i + 3 < s.size ∧ lo4 (byt s i) ≤ byt s (i + 1) ∧ byt s (i + 1) ≤ hi4 (byt s i) ∧ (128 ≤ byt s (i + 2) ∧ byt s (i + 2) ≤ 191) ∧ 128 ≤ byt s (i + 3) ∧ byt s (i + 3) ≤ 191) ∧ rAt s i = (byt s i % 8 * 262144 + byt s (i + 1) % 64 * 4096 + byt s (i + 2) % 64 * 64 + byt s (i + 3) % 64 : Int) ∧ wAt s i = 4) ∨
      (¬ (i + 3 < s.size ∧ lo4 (byt s i) ≤ byt s (i + 1) ∧ byt s (i + 1) ≤ hi4 (byt s i) ∧ (128 ≤ byt s (i + 2) ∧ byt s (i + 2) ≤ 191) ∧ 128 ≤ byt s (i + 3) ∧ byt s (i + 3) ≤ 191) ∧ rAt s i = 65533 ∧ wAt s i = 1) := by
  unfold rAt wAt
  rw [dec_pair, decodeN, if_neg (by omega), if_neg (by omega), if_neg (by omega)]
  have b1 := byt_lt s (i + 1)
  have b2 := byt_lt s (i + 2)
  have b3 := byt_lt s (i + 3)
  generalize byt s i = x0 at *
  generalize byt s (i + 1) = x1 at *
  generalize byt s (i + 2) = x2 at *
  generalize byt s (i + 3) = x3 at *
  by_cases hc : i + 3 < s.size ∧ lo4 x0 ≤ x1 ∧ x1 ≤ hi4 x0 ∧ (128 ≤ x2 ∧ x2 ≤ 191) ∧ 128 ≤ x3 ∧ x3 ≤ 191
  · left
    refine ⟨hc, ?_⟩
    unfold lo4 hi4 at hc
    rw [if_pos (by split at hc <;> split at hc <;> omega), if_pos (by split at hc <;> split at hc <;> omega)]
    exact ⟨by simp, rfl⟩
  · right
    refine ⟨hc, ?_⟩
    unfold lo4 hi4 at hc
    by_cases hd : x0 / 8 = 30 ∧ (1 < s.size - i ∧ x1 / 64 = 2) ∧ (2 < s.size - i ∧ x2 / 64 = 2) ∧ (3 < s.size - i ∧ x3 / 64 = 2)
    · rw [if_pos hd, if_neg (by split at hc <;> split at hc <;> omega)]
      exact ⟨rfl, rfl⟩
    · rw [if_neg hd]
      exact ⟨rfl, rfl⟩

end Go.Proofs.YtdpdgppjeekcmaaFmt

/-
  A read and a backup: the last rune ahead of a boundary is the one that was read. No program stands in this text.
-/
namespace Go.Proofs.YtdpdgppjeekcmaaFmt
open Go Go.Lib

theorem wAt_cases (A : ByteArray) (i : Nat) : wAt A i = 1 ∨
    (wAt A i = 2 ∧ 194 ≤ byt A i ∧ byt A i < 224 ∧ i + 1 < A.size ∧ 128 ≤ byt A (i + 1) ∧ byt A (i + 1) ≤ 191) ∨
    (wAt A i = 3 ∧ 224 ≤ byt A i ∧ byt A i < 240 ∧ i + 2 < A.size ∧ lo3 (byt A i) ≤ byt A (i + 1) ∧ byt A (i + 1) ≤ hi3 (byt A i) ∧ 128 ≤ byt A (i + 2) ∧ byt A (i + 2) ≤ 191) ∨
    (wAt A i = 4 ∧ 240 ≤ byt A i ∧ byt A i < 245 ∧ i + 3 < A.size ∧ lo4 (byt A i) ≤ byt A (i + 1) ∧ byt A (i + 1) ≤ hi4 (byt A i) ∧ (128 ≤ byt A (i + 2) ∧ byt A (i + 2) ≤ 191) ∧ 128 ≤ byt A (i + 3) ∧ byt A (i + 3) ≤ 191) := by
  by_cases h1 : byt A i < 128
  · exact .inl (dec1 h1).2
  by_cases h2 : byt A i < 194
  · exact .inl (dec_lo (by omega) h2).2
  by_cases h3 : byt A i < 224
  · rcases dec2 (s := A) (i := i) (by omega) h3 with ⟨⟨a, b, c⟩, _, e⟩ | ⟨_, _, e⟩
    · exact .inr (.inl ⟨e, by omega, h3, a, b, c⟩)
    · exact .inl e
  by_cases h4 : byt A i < 240
  · rcases dec3 (s := A) (i := i) (by omega) h4 with ⟨⟨a, b, c, d, f⟩, _, e⟩ | ⟨_, _, e⟩
    · exact .inr (.inr (.inl ⟨e, by omega, h4, a, b, c, d, f⟩))
    · exact .inl e
  by_cases h5 : byt A i < 245
  · rcases dec4 (s := A) (i := i) (by omega) h5 with ⟨⟨a, b, c, d, f⟩, _, e⟩ | ⟨_, _, e⟩
    · exact .inr (.inr (.inr ⟨e, by omega, h5, a, b, c, d, f⟩))
    · exact .inl e
  · exact .inl (dec_hi (s := A) (i := i) (by omega)).2

/-- A wide rune is as wide in another text that has its bytes. -/
theorem wide_same {A B : ByteArray} {i j : Nat} (hw : 2 ≤ wAt A i) (hb : ∀ k, k < wAt A i → byt B (j + k) = byt A (i + k)) (hj : j + wAt A i ≤ B.size) : wAt B j = wAt A i ∧ rAt B j = rAt A i := by
  have e0 : byt B j = byt A i := hb 0 (by omega)
  rcases wAt_cases A i with h | ⟨h, a, b, c, d, f⟩ | ⟨h, a, b, c, d, f, g, k⟩ | ⟨h, a, b, c, d, f, ⟨g, k⟩, l, m⟩
  · omega
  · have e1 := hb 1 (by omega)
    rcases dec2 (s := A) (i := i) a b with ⟨_, r1, w1⟩ | ⟨_, _, w1⟩
    · rcases dec2 (s := B) (i := j) (by omega) (by omega) with ⟨_, r2, w2⟩ | ⟨n, _, _⟩
      · exact ⟨by omega, by rw [r1, r2, e0, e1]⟩
      · exact absurd ⟨by omega, by omega, by omega⟩ n
    · omega
  · have e1 := hb 1 (by omega)
    have e2 := hb 2 (by omega)
    rcases dec3 (s := A) (i := i) a b with ⟨_, r1, w1⟩ | ⟨_, _, w1⟩
    · rcases dec3 (s := B) (i := j) (by omega) (by omega) with ⟨_, r2, w2⟩ | ⟨n, _, _⟩
      · exact ⟨by omega, by rw [r1, r2, e0, e1, e2]⟩
      · exact absurd ⟨by omega, by rw [e0, e1]; exact d, by rw [e0, e1]; exact f, by omega, by omega⟩ n
    · omega
  · have e1 := hb 1 (by omega)
    have e2 := hb 2 (by omega)
    have e3 := hb 3 (by omega)
    rcases dec4 (s := A) (i := i) a b with ⟨_, r1, w1⟩ | ⟨_, _, w1⟩
    · rcases dec4 (s := B) (i := j) (by omega) (by omega) with ⟨_, r2, w2⟩ | ⟨n, _, _⟩
      · exact ⟨by omega, by rw [r1, r2, e0, e1, e2, e3]⟩
      · exact absurd ⟨by omega, by rw [e0, e1]; exact d, by rw [e0, e1]; exact f, ⟨by omega, by omega⟩, by omega, by omega⟩ n
    · omega

/-- Inside a wide rune stand bytes that begin none. -/
theorem inside {A : ByteArray} {i k : Nat} (h0 : 0 < k) (hk : k < wAt A i) : 128 ≤ byt A (i + k) ∧ byt A (i + k) ≤ 191 := by
  rcases wAt_cases A i with h | ⟨h, a, b, c, d, f⟩ | ⟨h, a, b, c, d, f, g, m⟩ | ⟨h, a, b, c, d, f, ⟨g, m⟩, l, n⟩
  · omega
  · obtain rfl : k = 1 := by omega
    exact ⟨d, f⟩
  · have : k = 1 ∨ k = 2 := by omega
    rcases this with rfl | rfl
    · unfold lo3 at d; unfold hi3 at f; split at d <;> split at f <;> omega
    · exact ⟨g, m⟩
  · have : k = 1 ∨ k = 2 ∨ k = 3 := by omega
    rcases this with rfl | rfl | rfl
    · unfold lo4 at d; unfold hi4 at f; split at d <;> split at f <;> omega
    · exact ⟨g, m⟩
    · exact ⟨l, n⟩
theorem wide_head {A : ByteArray} {i : Nat} (h : 2 ≤ wAt A i) : 194 ≤ byt A i := by
  rcases wAt_cases A i with h | ⟨h, a, _⟩ | ⟨h, a, _⟩ | ⟨h, a, _⟩ <;> omega
theorem wide_in {A : ByteArray} {i : Nat} (h : 2 ≤ wAt A i) : i + wAt A i ≤ A.size := by
  rcases wAt_cases A i with h | ⟨h, _, _, a, _⟩ | ⟨h, _, _, a, _⟩ | ⟨h, _, _, a, _⟩ <;> omega
theorem wAt_le4 (A : ByteArray) (i : Nat) : wAt A i ≤ 4 := by
  rcases wAt_cases A i with h | ⟨h, _⟩ | ⟨h, _⟩ | ⟨h, _⟩ <;> omega

/-- The boundaries between the runes. -/
inductive Bd (s : ByteArray) : Nat → Nat → Prop where
  | zero : Bd s 0 0
  | step {i n : Nat} : Bd s i n → i < s.size → Bd s (i + wAt s i) (n + 1)

theorem Bd.le {s : ByteArray} {i n : Nat} (h : Bd s i n) : i ≤ s.size := by
  cases h with
  | zero => exact Nat.zero_le _
  | step _ hi => exact wAt_le s _ hi
theorem Bd.n_le {s : ByteArray} {i n : Nat} (h : Bd s i n) : n ≤ i := by
  induction h with
  | zero => exact Nat.le_refl _
  | step _ hi ih => have := wAt_pos s _ hi; omega
/-- A boundary does not lie inside a rune that begins at one. -/
theorem Bd.out {s : ByteArray} {i n : Nat} (h : Bd s i n) : ∀ {j m : Nat}, Bd s j m → i ≤ j ∨ j + wAt s j ≤ i ∨ s.size ≤ j := by
  induction h with
  | zero => intro j m _; left; omega
  | @step i n hi hlt ih =>
    intro j m hj
    rcases ih hj with h | h | h
    · -- i ≤ j: a chain from i
      by_cases hij : i = j
      · subst hij; right; left; exact Nat.le_refl _
      · left
        -- j is a boundary beyond i
        have key : ∀ {j m : Nat}, Bd s j m → i < j → i + wAt s i ≤ j := by
          intro j m hj
          induction hj with
          | zero => intro h; omega
          | @step j m hj hl ihj =>
            intro h
            by_cases h2 : i < j
            · have := ihj h2; omega
            · by_cases h3 : i = j
              · subst h3; exact Nat.le_refl _
              · rcases ih hj with h4 | h4 | h4 <;> omega
        exact key hj (by omega)
    · right; left
      have := wAt_pos s i hlt
      omega
    · right; right; exact h
/-- The last boundary up to a place. -/
theorem Bd.floor {s : ByteArray} (p : Nat) (hp : p < s.size) : ∃ j m, Bd s j m ∧ j ≤ p ∧ p < j + wAt s j := by
  have key : ∀ k, ∀ j m, Bd s j m → j ≤ p → p - j ≤ k → ∃ j m, Bd s j m ∧ j ≤ p ∧ p < j + wAt s j := by
    intro k
    induction k with
    | zero =>
      intro j m hj h1 h2
      have := wAt_pos s j (by omega)
      exact ⟨j, m, hj, h1, by omega⟩
    | succ k ih =>
      intro j m hj h1 h2
      have := wAt_pos s j (by omega)
      by_cases h3 : p < j + wAt s j
      · exact ⟨j, m, hj, h1, h3⟩
      · exact ih _ _ (hj.step (by omega)) (by omega) (by omega)
  exact key p 0 0 .zero (Nat.zero_le _) (by omega)

/-- The text up to e. -/
theorem byt_take {s : ByteArray} {e k : Nat} (h : k < e) (he : e ≤ s.size) : byt (s.extract 0 e) k = byt s k := by
  rw [byt_of (s := s.extract 0 e) (k := k) (by rw [ByteArray.size_extract]; omega), byt_of (s := s) (k := k) (by omega)]
  congr 1
  rw [ByteArray.getElem_extract]
  congr 1
  omega

/-- WHAT A BACKUP BEHIND A READ TAKES BACK: the width of the rune that was read. -/
theorem last_read {s : ByteArray} {i n : Nat} (hB : Bd s i n) (hi : i < s.size) : (decodeLastL (s.data.toList.take (i + wAt s i))).2 = wAt s i := by
  have hwp := wAt_pos s i hi
  have hwl := wAt_le s i hi
  obtain ⟨e, he⟩ : ∃ e, i + wAt s i = e := ⟨_, rfl⟩
  rw [he]
  have hs := Lib.size_eq s
  have hl : (s.data.toList.take e).length = e := by rw [List.length_take]; omega
  have hne : s.data.toList.take e ≠ [] := by intro h; rw [h] at hl; simp at hl; omega
  have hget : ∀ k, k < e → ((s.data.toList.take e).getD k 0).toNat = byt s k := by
    intro k hk
    rw [byt_of (by omega)]
    simp only [List.getD]
    rw [List.getElem?_take_of_lt hk, List.getElem?_eq_getElem (by omega)]
    rfl
  have hdec : ∀ p, decodeL ((s.data.toList.take e).drop p) = Utf8.decode (s.extract 0 e) p := by
    intro p
    have h := decodeL_drop (s.extract 0 e) p
    rw [← h, Lib.extract_data]
    simp
  unfold decodeLastL
  rw [if_neg hne, hl, hget (e - 1) (by omega)]
  by_cases hw : 2 ≤ wAt s i
  · -- a wide rune
    have hin := inside (A := s) (i := i) (k := wAt s i - 1) (by omega) (by omega)
    rw [show i + (wAt s i - 1) = e - 1 by omega] at hin
    rw [if_neg (by omega)]
    have hst : lastStart (s.data.toList.take e) = i := by
      have hh := wide_head hw
      have r0 : runeStartB ((s.data.toList.take e).getD i 0) = true := by
        unfold runeStartB
        rw [hget i (by omega)]
        simp
        have := byt_lt s i
        omega
      have rk : ∀ k, 0 < k → k < wAt s i → runeStartB ((s.data.toList.take e).getD (i + k) 0) = false := by
        intro k h1 h2
        have := inside (A := s) h1 h2
        unfold runeStartB
        rw [hget (i + k) (by omega)]
        simp
        omega
      unfold lastStart
      simp only [hl]
      have h4 := wAt_le4 s i
      have : wAt s i = 2 ∨ wAt s i = 3 ∨ wAt s i = 4 := by omega
      rcases this with h | h | h
      · rw [if_neg (by omega), show e - 2 = i by omega, if_pos r0]
      · rw [if_neg (by omega), show e - 2 = i + 1 by omega, rk 1 (by omega) (by omega), if_neg (by decide), if_neg (by omega), show e - 3 = i by omega, if_pos r0]
      · rw [if_neg (by omega), show e - 2 = i + 2 by omega, rk 2 (by omega) (by omega), if_neg (by decide), if_neg (by omega), show e - 3 = i + 1 by omega, rk 1 (by omega) (by omega), if_neg (by decide), if_neg (by omega), show e - 4 = i by omega, if_pos r0]
    rw [hst]
    have hA : wAt (s.extract 0 e) i = wAt s i := by
      have := wide_same (A := s) (B := s.extract 0 e) (i := i) (j := i) hw (fun k hk => byt_take (by omega) (by omega)) (by rw [ByteArray.size_extract]; omega)
      exact this.1
    have hd : (decodeL ((s.data.toList.take e).drop i)).2 = wAt s i := by rw [hdec]; exact hA
    simp only [hd]
    rw [if_pos he]
    exact hd
  · have hw1 : wAt s i = 1 := by omega
    rw [hw1]
    split
    · rfl
    · obtain ⟨p, hp⟩ : ∃ p, lastStart (s.data.toList.take e) = p := ⟨_, rfl⟩
      have hd : (decodeL ((s.data.toList.take e).drop p)).2 = wAt (s.extract 0 e) p := by rw [hdec]; rfl
      simp only [hp, hd]
      split
      · rename_i hpe
        -- a wide rune that would end where ours ends
        by_cases h2 : 2 ≤ wAt (s.extract 0 e) p
        · exfalso
          have hps : wAt s p = wAt (s.extract 0 e) p := (wide_same (A := s.extract 0 e) (B := s) h2 (fun k hk => (byt_take (by omega) (by omega)).symm) (by omega)).1
          have hh : 194 ≤ byt s p := wide_head (by omega)
          obtain ⟨j, m, hj, h3, h4⟩ := Bd.floor (s := s) p (by omega)
          by_cases hjp : j = p
          · subst hjp
            rcases hB.out hj with h5 | h5 | h5 <;> omega
          · have := inside (A := s) (i := j) (k := p - j) (by omega) (by omega)
            rw [show j + (p - j) = p by omega] at this
            omega
        · have h3 : wAt (s.extract 0 e) p = 1 := by
            rcases wAt_cases (s.extract 0 e) p with h | ⟨h, _⟩ | ⟨h, _⟩ | ⟨h, _⟩ <;> omega
          rw [hd, h3]
      · rfl

end Go.Proofs.YtdpdgppjeekcmaaFmt

/-
  Plain facts on the lexer's moves: where it can stand, what ASCII text reads as. No program stands in this text.
-/
namespace Go.Proofs.YtdpdgppjeekcmaaFmt
open Go Go.Lib

theorem rAt_ascii {s : ByteArray} {i : Nat} (h : i < s.size) (ha : (s[i]'h).toNat < 128) : rAt s i = (s[i]'h).toNat := by unfold rAt; rw [decode_ascii s i h ha]
theorem wAt_ascii {s : ByteArray} {i : Nat} (h : i < s.size) (ha : (s[i]'h).toNat < 128) : wAt s i = 1 := by unfold wAt; rw [decode_ascii s i h ha]
theorem rAt_high {s : ByteArray} {i : Nat} (h : i < s.size) (ha : 128 ≤ (s[i]'h).toNat) : 128 ≤ rAt s i := by
  have := (decode_high s i h ha).1
  unfold rAt; omega

/-- The runes of an ASCII text are its bytes. -/
theorem runesFrom_ascii (v : ByteArray) (ha : ∀ (i : Nat) (h : i < v.size), (v[i]'h).toNat < 128) : ∀ (f i : Nat), i + f = v.size → runesFrom v f i = (v.data.toList.drop i).map fun b => (b.toNat : Int)
  | 0, i, h => by
    have : v.data.toList.drop i = [] := List.drop_eq_nil_of_le (by have := Lib.size_eq v; omega)
    rw [this]; rfl
  | f + 1, i, h => by
    have hi : i < v.size := by omega
    have hl : i < v.data.toList.length := by have := Lib.size_eq v; omega
    rw [runesFrom, if_pos hi, rAt_ascii hi (ha i hi), wAt_ascii hi (ha i hi), runesFrom_ascii v ha f (i + 1) (by omega), List.drop_eq_getElem_cons hl, List.map_cons]
    rfl
theorem runesOf_ascii (v : ByteArray) (ha : ∀ (i : Nat) (h : i < v.size), (v[i]'h).toNat < 128) : runesOf v = v.data.toList.map fun b => (b.toNat : Int) := by
  have := runesFrom_ascii v ha v.size 0 (by omega)
  rw [List.drop_zero] at this
  exact this
theorem runesOf_bs (l : List UInt8) (ha : ∀ b ∈ l, b.toNat < 128) : runesOf (bs l) = l.map fun b => (b.toNat : Int) := by
  have : ∀ (i : Nat) (h : i < (bs l).size), ((bs l)[i]'h).toNat < 128 := fun i h => ha _ (by
    have h' : i < l.length := by simpa [bs, ByteArray.size] using h
    have e : (bs l)[i]'h = l[i]'h' := by simp [bs, ByteArray.getElem_eq_getElem_data]
    rw [e]
    exact List.getElem_mem h')
  have h := runesOf_ascii (bs l) this
  rw [h]
  simp [bs]
theorem has_bs (l : List UInt8) (ha : ∀ b ∈ l, b.toNat < 128) (r : Int) : has (bs l) r = (l.map fun b => (b.toNat : Int)).contains r := by
  unfold has
  rw [runesOf_bs l ha]
  cases hc : (l.map fun b => (b.toNat : Int)).contains r with
  | false => simp
  | true =>
    have : okRune r = true := by
      have hm : r ∈ l.map fun b => (b.toNat : Int) := by simpa using hc
      obtain ⟨b, hb, e⟩ := List.mem_map.1 hm
      have := ha b hb
      unfold okRune
      simp
      omega
    rw [this]; rfl

/-! ### where the lexer stands -/
theorem acceptRun_stop (v s : ByteArray) (t : St) : acceptB v s (acceptRun v s t) = false := by
  fun_induction acceptRun v s t with
  | case1 t h ih => exact ih
  | case2 t h => unfold acceptB; simpa using h
theorem acceptRun_of (v s : ByteArray) (t : St) (h : acceptB v s t = false) : acceptRun v s t = t := by
  rw [acceptRun]
  have : ¬ has v (peek s t) = true := by unfold acceptB at h; rw [h]; decide
  rw [dif_neg this]
theorem acceptRun_le (v s : ByteArray) (t : St) (h : t.eb ≤ s.size) : (acceptRun v s t).eb ≤ s.size := by
  fun_induction acceptRun v s t with
  | case1 t h ih => exact ih (next_le (by assumption))
  | case2 t h => assumption
theorem acceptRun_rest (v s : ByteArray) (t : St) : (acceptRun v s t).sb = t.sb ∧ (acceptRun v s t).sr = t.sr ∧ (acceptRun v s t).toks = t.toks ∧ (acceptRun v s t).err = t.err ∧ (acceptRun v s t).q = t.q ∧ (acceptRun v s t).dis = t.dis ∧ (acceptRun v s t).eof = t.eof := by
  fun_induction acceptRun v s t with
  | case1 t h ih =>
    have e := next_in (peek_lt (has_ne h))
    refine ⟨ih.1.trans ?_, ih.2.1.trans ?_, ih.2.2.1.trans ?_, ih.2.2.2.1.trans ?_, ih.2.2.2.2.1.trans ?_, ih.2.2.2.2.2.1.trans ?_, ih.2.2.2.2.2.2.trans ?_⟩ <;> rw [e]
  | case2 t h => exact ⟨rfl, rfl, rfl, rfl, rfl, rfl, rfl⟩
theorem skipSpaces_le (s : ByteArray) (t : St) (h : t.eb ≤ s.size) : (skipSpaces s t).eb ≤ s.size := acceptRun_le _ s t h
theorem skipSpaces_twice (s : ByteArray) (t : St) : skipSpaces s (skipSpaces s t) = skipSpaces s t := by
  unfold skipSpaces
  have h := acceptRun_stop ⟨#[32]⟩ s t
  have h2 : acceptB ⟨#[32]⟩ s (commit (acceptRun ⟨#[32]⟩ s t)) = false := h
  rw [acceptRun_of _ _ _ h2]
  rfl

theorem has_space (r : Int) : has ⟨#[32]⟩ r = decide (r = 32) := by
  have := has_bs [32] (by decide) r
  have e : bs [32] = ⟨#[32]⟩ := rfl
  rw [e] at this
  rw [this]
  by_cases h : r = 32
  · subst h; decide
  · simp [h]

/-- Behind skipSpaces no space follows. -/
theorem skipSpaces_next (s : ByteArray) (t : St) (h : (skipSpaces s t).eb < s.size) : s[(skipSpaces s t).eb]'h ≠ 32 := by
  intro e
  have h1 := acceptRun_stop ⟨#[32]⟩ s t
  have h2 : (acceptRun ⟨#[32]⟩ s t).eb < s.size := h
  have e2 : s[(acceptRun ⟨#[32]⟩ s t).eb]'h2 = 32 := e
  unfold acceptB peek at h1
  rw [if_pos h2, has_space, rAt_ascii h2 (by rw [e2]; decide), e2] at h1
  exact absurd h1 (by decide)

end Go.Proofs.YtdpdgppjeekcmaaFmt

/-
  Where a read can be taken back; what the plain moves keep. No program stands in this text.
-/
namespace Go.Proofs.YtdpdgppjeekcmaaFmt
open Go Go.Lib

/-- The lexer stands at a boundary, the end not met. -/
structure Back (s : ByteArray) (t : St) : Prop where
  bd : Bd s t.eb t.er
  eof : t.eof = false
theorem Back.le {s : ByteArray} {t : St} (h : Back s t) : t.eb ≤ s.size := h.bd.le
theorem Back.er_le {s : ByteArray} {t : St} (h : Back s t) : t.er ≤ t.eb := h.bd.n_le
theorem Back.next {s : ByteArray} {t : St} (h : Back s t) (hl : t.eb < s.size) : Back s (Go.Proofs.YtdpdgppjeekcmaaFmt.next s t) := by
  rw [next_in hl]
  exact ⟨h.bd.step hl, h.eof⟩
theorem St.ext' {a b : St} (h1 : a.q = b.q) (h2 : a.sb = b.sb) (h3 : a.sr = b.sr) (h4 : a.eb = b.eb) (h5 : a.er = b.er) (h6 : a.eof = b.eof) (h7 : a.dis = b.dis) (h8 : a.err = b.err) (h9 : a.toks = b.toks) : a = b := by
  cases a; cases b
  simp only at h1 h2 h3 h4 h5 h6 h7 h8 h9
  subst h1; subst h2; subst h3; subst h4; subst h5; subst h6; subst h7; subst h8; subst h9
  rfl
theorem backup_next {s : ByteArray} {t : St} (h : Back s t) : backup s (next s t) = t := by
  by_cases hl : t.eb < s.size
  · have hr := last_read h.bd hl
    rw [next_in hl]
    unfold backup
    dsimp only
    rw [if_neg (by rw [h.eof]; decide), if_pos (by omega), hr]
    exact St.ext' rfl rfl rfl (by dsimp only; omega) (by dsimp only; omega) rfl rfl rfl rfl
  · rw [next_end hl]
    unfold backup
    dsimp only
    rw [if_pos rfl]
    exact St.ext' rfl rfl rfl rfl rfl h.eof.symm rfl rfl rfl

theorem alnumSkip_eq (s : ByteArray) (t : St) : alnumSkip s t = if alnum (peek s t) = true then alnumSkip s (next s t) else t := by
  rw [alnumSkip]
  by_cases h : alnum (peek s t) = true
  · have h2 : peek s t ≠ -1 := by intro e; rw [e, alnum_end] at h; exact absurd h (by decide)
    rw [dif_pos ⟨h, h2⟩, if_pos h]
  · rw [dif_neg (fun e => h e.1), if_neg h]
theorem alnum_in {s : ByteArray} {t : St} (h : alnum (peek s t) = true) : t.eb < s.size := peek_lt (by intro e; rw [e, alnum_end] at h; exact absurd h (by decide))
theorem alnumSkip_stop (s : ByteArray) (t : St) : alnum (peek s (alnumSkip s t)) = false := by
  fun_induction alnumSkip s t with
  | case1 t h ih => exact ih
  | case2 t h =>
    cases hh : alnum (peek s t) with
    | false => rfl
    | true =>
      exfalso
      exact h ⟨hh, fun e => by rw [e, alnum_end] at hh; exact absurd hh (by decide)⟩
theorem reads_alnumSkip (s : ByteArray) (t : St) : Reads s t (alnumSkip s t) := by
  fun_induction alnumSkip s t with
  | case1 t h ih => exact (reads_next s t).trans ih
  | case2 t h => exact Reads.refl s t
theorem back_alnumSkip {s : ByteArray} {t : St} (h : Back s t) : Back s (alnumSkip s t) := by
  fun_induction alnumSkip s t with
  | case1 t hh ih => exact ih (h.next (alnum_in hh.1))
  | case2 t hh => exact h
theorem back_accept {v s : ByteArray} {t : St} (h : Back s t) : Back s (accept v s t) := by
  unfold accept
  split
  · rename_i hh
    exact h.next (peek_lt (has_ne hh))
  · exact h
theorem back_acceptRun {v s : ByteArray} {t : St} (h : Back s t) : Back s (acceptRun v s t) := by
  fun_induction acceptRun v s t with
  | case1 t hh ih => exact ih (h.next (peek_lt (has_ne hh)))
  | case2 t hh => exact h
theorem back_commit {s : ByteArray} {t : St} (h : Back s t) : Back s (commit t) := ⟨h.bd, h.eof⟩
theorem back_emitV {s k v : ByteArray} {t : St} (h : Back s t) : Back s (emitV k v t) := ⟨h.bd, h.eof⟩
theorem back_emit {s k : ByteArray} {t : St} (h : Back s t) : Back s (emit k s t) := ⟨h.bd, h.eof⟩

theorem lineRun_eq (s : ByteArray) (t : St) : lineRun s t = if peek s t = -1 ∨ peek s t = 10 then next s t else lineRun s (next s t) := by
  rw [lineRun]
  split <;> rfl
theorem multiRun_eq (s : ByteArray) (t : St) : multiRun s t = if peek s t = -1 then (false, next s t) else if peek s t = 42 ∧ acceptB cSlash s (next s t) = true then (true, next s (next s t)) else multiRun s (next s t) := by
  rw [multiRun]
  split <;> rfl
theorem reads_lineRun (s : ByteArray) (t : St) : Reads s t (lineRun s t) := by
  fun_induction lineRun s t with
  | case1 t h => exact reads_next s t
  | case2 t h ih => exact (reads_next s t).trans ih
theorem reads_multiRun (s : ByteArray) (t : St) : Reads s t (multiRun s t).2 := by
  fun_induction multiRun s t with
  | case1 t h => exact reads_next s t
  | case2 t h h2 => exact (reads_next s t).trans (reads_next s _)
  | case3 t h h2 ih => exact (reads_next s t).trans ih

end Go.Proofs.YtdpdgppjeekcmaaFmt

/-
  unescape and unescapeBytes, root, the lexer's step and Next's pull, said in plain Lean. No program stands in this text.
-/
namespace Go.Proofs.YtdpdgppjeekcmaaFmt
open Go Go.Lib

/-- unhex: the value, is it a digit? -/
def unhexV (b : Nat) : Int := if 48 ≤ b ∧ b ≤ 57 then (b : Int) - 48 else if 97 ≤ b ∧ b ≤ 102 then (b : Int) - 97 + 10 else if 65 ≤ b ∧ b ≤ 70 then (b : Int) - 65 + 10 else 0
def unhexB' (b : Nat) : Bool := (decide (48 ≤ b) && decide (b ≤ 57)) || (decide (97 ≤ b) && decide (b ≤ 102)) || (decide (65 ≤ b) && decide (b ≤ 70))
/-- v<<4 | x of an int32. -/
def shl4 (v x : Int) : Int := bits BinOp.or .i32 (IntKind.i32.wrap (v * 16)) x
/-- n hex digits from byte i on, v read ahead of them. -/
def hexN (s : ByteArray) : Nat → Nat → Int → Option Int
  | 0, _, v => some v
  | n + 1, i, v => if unhexB' (byt s i) then hexN s n (i + 1) (shl4 v (unhexV (byt s i))) else none
/-- The digits in braces from byte i on: d read, v their value: the value, the byte of '}'. -/
def hexBr (s : ByteArray) : Nat → Nat → Nat → Int → Option (Int × Nat)
  | 0, _, _, _ => none
  | f + 1, i, d, v =>
    if i < s.size ∧ byt s i ≠ 125 then (if unhexB' (byt s i) then (if 6 ≤ d then none else hexBr s f (i + 1) (d + 1) (shl4 v (unhexV (byt s i)))) else none)
    else if i < s.size ∧ d ≠ 0 then some (v, i)
    else none
def isOct (b : Nat) : Bool := decide (48 ≤ b) && decide (b ≤ 55)
/-- What a letter behind a backslash stands for (-1: nothing). -/
def simpleEsc (c : Nat) : Int :=
  if c = 97 then 7 else if c = 98 then 8 else if c = 102 then 12 else if c = 110 then 10 else if c = 114 then 13 else if c = 116 then 9 else if c = 118 then 11
  else if c = 92 then 92 else if c = 39 then 39 else if c = 34 then 34 else if c = 96 then 96 else if c = 63 then 63 else -1
def escW (c : Nat) : Nat := if c = 120 ∨ c = 88 then 2 else if c = 117 then 4 else 8
/-- A code's end: it may not lie beyond the runes. -/
def hexEnd (k : Nat) : Option Int → Option (Int × Bool × Nat)
  | none => none
  | some v => if 1114111 < v then none else some (v, true, k)
def brEnd : Option (Int × Nat) → Option (Int × Bool × Nat)
  | none => none
  | some (v, i) => if 1114111 < v then none else some (v, true, i + 1)
/-- unescapeChar: the rune, may it take many bytes, how many bytes it took. -/
def uChar (s : ByteArray) : Option (Int × Bool × Nat) :=
  if 128 ≤ byt s 0 then some (rAt s 0, true, wAt s 0)
  else if byt s 0 ≠ 92 then some (byt s 0, false, 1)
  else if s.size ≤ 1 then none
  else if 0 ≤ simpleEsc (byt s 1) then some (simpleEsc (byt s 1), false, 2)
  else if byt s 1 = 120 ∨ byt s 1 = 88 ∨ byt s 1 = 117 ∨ byt s 1 = 85 then
    (if byt s 1 = 117 ∧ 2 < s.size ∧ byt s 2 = 123 then
      brEnd (hexBr s 7 3 0 0)
    else if s.size - 2 < escW (byt s 1) then none
    else hexEnd (escW (byt s 1) + 2) (hexN s (escW (byt s 1)) 2 0))
  else if 48 ≤ byt s 1 ∧ byt s 1 ≤ 51 then
    (if s.size < 4 then none
    else if isOct (byt s 2) && isOct (byt s 3) then some (((byt s 1 : Int) - 48) * 64 + ((byt s 2 : Int) - 48) * 8 + ((byt s 3 : Int) - 48), true, 4)
    else none)
  else none
/-- unescapeByteChar. -/
def bChar (s : ByteArray) : Option (Int × Bool × Nat) :=
  if byt s 0 ≠ 92 then (if 128 ≤ byt s 0 then some (rAt s 0, true, wAt s 0) else some (byt s 0, false, 1))
  else if s.size ≤ 1 then none
  else if 0 ≤ simpleEsc (byt s 1) then some (simpleEsc (byt s 1), false, 2)
  else if byt s 1 = 120 ∨ byt s 1 = 88 then
    (if s.size < 4 then none
    else if unhexB' (byt s 2) && unhexB' (byt s 3) then some (shl4 (unhexV (byt s 2)) (unhexV (byt s 3)), false, 4)
    else none)
  else if 48 ≤ byt s 1 ∧ byt s 1 ≤ 51 then
    (if s.size < 4 then none
    else if isOct (byt s 2) && isOct (byt s 3) then some (((byt s 1 : Int) - 48) * 64 + ((byt s 2 : Int) - 48) * 8 + ((byt s 3 : Int) - 48), false, 4)
    else none)
  else none

/-- zzNewlines. -/
def newl (s : ByteArray) : Nat → Nat → List UInt8
  | 0, _ => []
  | f + 1, i => if i < s.size then (if byt s i = 13 then 10 :: newl s f (if i + 1 < s.size ∧ byt s (i + 1) = 10 then i + 2 else i + 1) else s.get! i :: newl s f (i + 1)) else []
def newlines (s : ByteArray) : ByteArray := bs (newl s s.size 0)
/-- What one rune is written as. -/
def outOf (c : Int) (mb : Bool) : List UInt8 := if c < 128 ∨ mb = false then [UInt8.ofNat (c % 256).toNat] else encodeRune c
/-- The loop of unescape: the text's rest, what is written: an error, or the text. -/
def uGo (one : ByteArray → Option (Int × Bool × Nat)) : Nat → ByteArray → List UInt8 → Option (List UInt8)
  | 0, _, acc => some acc
  | f + 1, v, acc => if v.size = 0 then some acc else match one v with
    | none => none
    | some (c, mb, k) => uGo one f (v.extract k v.size) (acc ++ outOf c mb)
/-- unescape: was there no error, and the text. -/
def unesc (one : ByteArray → Option (Int × Bool × Nat)) (value : ByteArray) : Bool × ByteArray :=
  let v := newlines value
  if v.size < 2 then (false, v)
  else if byt v 0 ≠ byt v (v.size - 1) ∨ (byt v 0 ≠ 34 ∧ byt v 0 ≠ 39) then (false, v)
  else match uGo one v.size (v.extract 1 (v.size - 1)) [] with
    | none => (false, ⟨#[]⟩)
    | some l => (true, bs l)

/-! ### root -/
/-- A quoted text behind its quote: kind k, its word from byte o of it on. -/
def rootStr (one : ByteArray → Option (Int × Bool × Nat)) (k : ByteArray) (o : Nat) (s : ByteArray) (quote : Int) (hq : quote ≠ -1) (t : St) : St :=
  let t1 := (scanString s quote hq t).2
  let u := unesc one ((word s t1).extract o (word s t1).size)
  emitV k u.2 (if u.1 then t1 else error t1)
/-- Is r one of the lexer's own signs, and what becomes of it? -/
def root (s : ByteArray) (t : St) : Option Q × St :=
  if peek s t = -1 then (none, emitEOF (next s t))
  else if isSpaceZ (peek s t) then (some .root, commit (next s t))
  else if peek s t = 39 then (some .root, rootStr uChar kString 0 s 39 (by decide) (next s t))
  else if peek s t = 34 then (some .root, rootStr uChar kString 0 s 34 (by decide) (next s t))
  else if peek s t = 96 then (some .root, (scanRaw s 96 (next s t)).2)
  else if (peek s t = 98 ∨ peek s t = 66) ∧ peek s (next s t) = 39 then (some .root, rootStr bChar kBytes 1 s 39 (by decide) (next s (next s t)))
  else if (peek s t = 98 ∨ peek s t = 66) ∧ peek s (next s t) = 34 then (some .root, rootStr bChar kBytes 1 s 34 (by decide) (next s (next s t)))
  else if 48 ≤ peek s t ∧ peek s t ≤ 57 then (some .number, t)
  else if peek s t = 63 then (some .questionMark, next s t)
  else if peek s t = 47 then (some .slash, next s t)
  else if peek s t = 35 then (some .pointer, next s t)
  else if peek s t = 124 then (some .root, emit kOperator s (accept cBar s (next s t)))
  else if peek s t = 58 then (some .root, emit kOperator s (accept cColon s (next s t)))
  else if has cOpen (peek s t) then (some .root, emit kBracket s (next s t))
  else if has cShut (peek s t) then (some .root, emit kBracket s (next s t))
  else if has cOne (peek s t) then (some .root, emit kOperator s (next s t))
  else if has cTwo (peek s t) then (some .root, emit kOperator s (accept cTail s (next s t)))
  else if peek s t = 46 then (some .dot, t)
  else if alnum (peek s t) then (some .identifier, t)
  else (none, error (next s t))

def state (q : Q) (s : ByteArray) (t : St) : Option Q × St :=
  match q with
  | .root => root s t
  | .number => number s t
  | .questionMark => questionMark s t
  | .slash => slash s t
  | .pointer => pointer s t
  | .dot => dot s t
  | .identifier => identifier s t
  | .not => not s t
  | .singleLine => singleLine s t
  | .multiLine => multiLine s t
def step (s : ByteArray) (t : St) : St :=
  match t.q with
  | none => t
  | some q => { (state q s t).2 with q := (state q s t).1 }
/-- Does Next's loop go on? -/
def going (t : St) : Bool := t.q.isSome && t.err.isNone && t.toks.isEmpty
def pull (s : ByteArray) : Nat → St → St
  | 0, t => t
  | n + 1, t => if going t then pull s n (step s t) else t

end Go.Proofs.YtdpdgppjeekcmaaFmt

/-
  Root's ways, one by one. No program stands in this text. (Printed by genway.py.)
-/
namespace Go.Proofs.YtdpdgppjeekcmaaFmt
open Go Go.Lib

inductive RootWay (s : ByteArray) (t : St) : Option Q × St → Prop where
  | eof : peek s t = -1 → RootWay s t (none, emitEOF (next s t))
  | space : peek s t ≠ -1 → isSpaceZ (peek s t) = true → RootWay s t (some .root, commit (next s t))
  | str1 : peek s t ≠ -1 → peek s t = 39 → RootWay s t (some .root, rootStr uChar kString 0 s 39 (by decide) (next s t))
  | str2 : peek s t ≠ -1 → peek s t = 34 → RootWay s t (some .root, rootStr uChar kString 0 s 34 (by decide) (next s t))
  | raw : peek s t ≠ -1 → peek s t = 96 → RootWay s t (some .root, (scanRaw s 96 (next s t)).2)
  | byt1 : peek s t ≠ -1 → (peek s t = 98 ∨ peek s t = 66) ∧ peek s (next s t) = 39 → RootWay s t (some .root, rootStr bChar kBytes 1 s 39 (by decide) (next s (next s t)))
  | byt2 : peek s t ≠ -1 → (peek s t = 98 ∨ peek s t = 66) ∧ peek s (next s t) = 34 → RootWay s t (some .root, rootStr bChar kBytes 1 s 34 (by decide) (next s (next s t)))
  | digit : peek s t ≠ -1 → 48 ≤ peek s t ∧ peek s t ≤ 57 → RootWay s t (some .number, t)
  | quest : peek s t ≠ -1 → peek s t = 63 → RootWay s t (some .questionMark, next s t)
  | slash : peek s t ≠ -1 → peek s t = 47 → RootWay s t (some .slash, next s t)
  | hash : peek s t ≠ -1 → peek s t = 35 → RootWay s t (some .pointer, next s t)
  | bar : peek s t ≠ -1 → peek s t = 124 → RootWay s t (some .root, emit kOperator s (accept cBar s (next s t)))
  | colon : peek s t ≠ -1 → peek s t = 58 → RootWay s t (some .root, emit kOperator s (accept cColon s (next s t)))
  | open_ : peek s t ≠ -1 → has cOpen (peek s t) = true → RootWay s t (some .root, emit kBracket s (next s t))
  | shut : peek s t ≠ -1 → has cShut (peek s t) = true → RootWay s t (some .root, emit kBracket s (next s t))
  | one : peek s t ≠ -1 → has cOne (peek s t) = true → RootWay s t (some .root, emit kOperator s (next s t))
  | two : peek s t ≠ -1 → has cTwo (peek s t) = true → RootWay s t (some .root, emit kOperator s (accept cTail s (next s t)))
  | dot : peek s t ≠ -1 → peek s t = 46 → RootWay s t (some .dot, t)
  | ident : peek s t ≠ -1 → alnum (peek s t) = true → RootWay s t (some .identifier, t)
  | bad : peek s t ≠ -1 → RootWay s t (none, error (next s t))
theorem root_way (s : ByteArray) (t : St) : RootWay s t (root s t) := by
  unfold root
  by_cases c0 : peek s t = -1
  · rw [if_pos c0]; exact .eof c0
  rw [if_neg c0]
  by_cases c1 : isSpaceZ (peek s t) = true
  · rw [if_pos c1]; exact .space c0 c1
  rw [if_neg c1]
  by_cases c2 : peek s t = 39
  · rw [if_pos c2]; exact .str1 c0 c2
  rw [if_neg c2]
  by_cases c3 : peek s t = 34
  · rw [if_pos c3]; exact .str2 c0 c3
  rw [if_neg c3]
  by_cases c4 : peek s t = 96
  · rw [if_pos c4]; exact .raw c0 c4
  rw [if_neg c4]
  by_cases c5 : (peek s t = 98 ∨ peek s t = 66) ∧ peek s (next s t) = 39
  · rw [if_pos c5]; exact .byt1 c0 c5
  rw [if_neg c5]
  by_cases c6 : (peek s t = 98 ∨ peek s t = 66) ∧ peek s (next s t) = 34
  · rw [if_pos c6]; exact .byt2 c0 c6
  rw [if_neg c6]
  by_cases c7 : 48 ≤ peek s t ∧ peek s t ≤ 57
  · rw [if_pos c7]; exact .digit c0 c7
  rw [if_neg c7]
  by_cases c8 : peek s t = 63
  · rw [if_pos c8]; exact .quest c0 c8
  rw [if_neg c8]
  by_cases c9 : peek s t = 47
  · rw [if_pos c9]; exact .slash c0 c9
  rw [if_neg c9]
  by_cases c10 : peek s t = 35
  · rw [if_pos c10]; exact .hash c0 c10
  rw [if_neg c10]
  by_cases c11 : peek s t = 124
  · rw [if_pos c11]; exact .bar c0 c11
  rw [if_neg c11]
  by_cases c12 : peek s t = 58
  · rw [if_pos c12]; exact .colon c0 c12
  rw [if_neg c12]
  by_cases c13 : has cOpen (peek s t) = true
  · rw [if_pos c13]; exact .open_ c0 c13
  rw [if_neg c13]
  by_cases c14 : has cShut (peek s t) = true
  · rw [if_pos c14]; exact .shut c0 c14
  rw [if_neg c14]
  by_cases c15 : has cOne (peek s t) = true
  · rw [if_pos c15]; exact .one c0 c15
  rw [if_neg c15]
  by_cases c16 : has cTwo (peek s t) = true
  · rw [if_pos c16]; exact .two c0 c16
  rw [if_neg c16]
  by_cases c17 : peek s t = 46
  · rw [if_pos c17]; exact .dot c0 c17
  rw [if_neg c17]
  by_cases c18 : alnum (peek s t) = true
  · rw [if_pos c18]; exact .ident c0 c18
  rw [if_neg c18]
  exact .bad c0

end Go.Proofs.YtdpdgppjeekcmaaFmt
