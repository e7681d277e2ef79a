/-
  The lexer, said in plain Lean over its source's bytes: each Go function of the lexer as a function of the lexer's fields. No program stands in this text.
-/
import Derived.Lib.SpaceU
import Derived.Lib.IsU
import Derived.Lib.MapLaws
import Derived.Lib.TrimUEq
import Derived.Lib.RuneCount
import Derived.Lib.RuneBytes
import Derived.Lib.LazyBuf
namespace Go.Proofs.YtlbmojpmfgihlaaFmt
open Go Go.Lib

/-- The rune that stands at byte i, and its width. -/
def rAt (s : ByteArray) (i : Nat) : Int := (Utf8.decode s i).1
def wAt (s : ByteArray) (i : Nat) : Nat := (Utf8.decode s i).2

theorem wAt_pos (s : ByteArray) (i : Nat) (h : i < s.size) : 1 ≤ wAt s i := decode_width_pos s i h
theorem wAt_le (s : ByteArray) (i : Nat) (h : i < s.size) : i + wAt s i ≤ s.size := by
  have h0 := decodeL_drop s i
  have hne : s.data.toList.drop i ≠ [] := by
    intro e
    have := congrArg List.length e
    rw [List.length_drop] at this
    have h1 := Lib.size_eq s
    simp only [List.length_nil] at this
    omega
  have := decodeL_le (s.data.toList.drop i) hne
  rw [h0, List.length_drop] at this
  have h1 := Lib.size_eq s
  unfold wAt
  omega
theorem rAt_nonneg (s : ByteArray) (i : Nat) : 0 ≤ rAt s i := by unfold rAt; omega
theorem rAt_le (s : ByteArray) (i : Nat) : rAt s i ≤ 1114111 := by
  have := decodeL_rune (s.data.toList.drop i)
  rw [decodeL_drop] at this
  unfold rAt; omega

/-- The lexer's states. -/
inductive Q where
  | root | number | questionMark | slash | pointer | dot | identifier | not | singleLine | multiLine
  deriving DecidableEq

structure Tok where
  frm : Int
  to : Int
  kind : ByteArray
  value : ByteArray

/-- The lexer's fields (but its source), its queue as a list, its error's place. -/
structure St where
  q : Option Q
  sb : Nat
  sr : Nat
  eb : Nat
  er : Nat
  eof : Bool
  dis : Bool
  err : Option (Int × Int)
  toks : List Tok

def next (s : ByteArray) (t : St) : St :=
  if t.eb < s.size then { t with er := t.er + 1, eb := t.eb + wAt s t.eb } else { t with eof := true }
/-- What next and peek answer. -/
def peek (s : ByteArray) (t : St) : Int := if t.eb < s.size then rAt s t.eb else -1
def backup (s : ByteArray) (t : St) : St :=
  if t.eof then { t with eof := false }
  else if 0 < t.er then { t with eb := t.eb - (decodeLastL (s.data.toList.take t.eb)).2, er := t.er - 1 } else t
def commit (t : St) : St := { t with sb := t.eb, sr := t.er }
def word (s : ByteArray) (t : St) : ByteArray := s.extract t.sb t.eb
def emitV (k v : ByteArray) (t : St) : St := commit { t with toks := t.toks ++ [⟨t.sr, t.er, k, v⟩] }
def emit (k : ByteArray) (s : ByteArray) (t : St) : St := emitV k (word s t) t

def kEOF : ByteArray := ⟨#[69, 79, 70]⟩
def kIdentifier : ByteArray := ⟨#[73, 100, 101, 110, 116, 105, 102, 105, 101, 114]⟩
def kNumber : ByteArray := ⟨#[78, 117, 109, 98, 101, 114]⟩
def kString : ByteArray := ⟨#[83, 116, 114, 105, 110, 103]⟩
def kBytes : ByteArray := ⟨#[66, 121, 116, 101, 115]⟩
def kOperator : ByteArray := ⟨#[79, 112, 101, 114, 97, 116, 111, 114]⟩
def kBracket : ByteArray := ⟨#[66, 114, 97, 99, 107, 101, 116]⟩

def emitEOF (t : St) : St := commit { t with toks := t.toks ++ [⟨((t.er - 1 : Nat) : Int), t.er, kEOF, ⟨#[]⟩⟩] }

theorem peek_lt {s : ByteArray} {t : St} (h : peek s t ≠ -1) : t.eb < s.size := by
  unfold peek at h
  by_cases hl : t.eb < s.size
  · exact hl
  · rw [if_neg hl] at h; exact absurd rfl h
theorem peek_nonneg {s : ByteArray} {t : St} (h : t.eb < s.size) : 0 ≤ peek s t := by
  unfold peek; rw [if_pos h]; exact rAt_nonneg _ _
theorem peek_lo (s : ByteArray) (t : St) : -1 ≤ peek s t := by
  unfold peek
  by_cases hl : t.eb < s.size
  · rw [if_pos hl]; have := rAt_nonneg s t.eb; omega
  · rw [if_neg hl]; omega
theorem peek_hi (s : ByteArray) (t : St) : peek s t ≤ 1114111 := by
  unfold peek
  by_cases hl : t.eb < s.size
  · rw [if_pos hl]; exact rAt_le _ _
  · rw [if_neg hl]; omega
theorem next_in {s : ByteArray} {t : St} (h : t.eb < s.size) : next s t = { t with er := t.er + 1, eb := t.eb + wAt s t.eb } := by unfold next; rw [if_pos h]
theorem next_end {s : ByteArray} {t : St} (h : ¬ t.eb < s.size) : next s t = { t with eof := true } := by unfold next; rw [if_neg h]
theorem next_gt {s : ByteArray} {t : St} (h : t.eb < s.size) : t.eb < (next s t).eb := by
  rw [next_in h]; have := wAt_pos s t.eb h; show t.eb < t.eb + _; omega
theorem next_ge (s : ByteArray) (t : St) : t.eb ≤ (next s t).eb := by
  by_cases h : t.eb < s.size
  · exact Nat.le_of_lt (next_gt h)
  · rw [next_end h]; exact Nat.le_refl _
theorem next_le {s : ByteArray} {t : St} (h : t.eb ≤ s.size) : (next s t).eb ≤ s.size := by
  by_cases hl : t.eb < s.size
  · rw [next_in hl]; exact wAt_le s t.eb hl
  · rw [next_end hl]; exact h

/-- The runes of a string from byte i on (what 'range' hands over). -/
def runesFrom (v : ByteArray) : Nat → Nat → List Int
  | 0, _ => []
  | f + 1, i => if i < v.size then rAt v i :: runesFrom v f (i + wAt v i) else []
def runesOf (v : ByteArray) : List Int := runesFrom v v.size 0

/-- zzContainsRune. -/
def okRune (r : Int) : Bool := decide (r = 65533) || (decide (0 ≤ r) && decide (r ≤ 1114111) && !(decide (55296 ≤ r) && decide (r ≤ 57343)))
def has (v : ByteArray) (r : Int) : Bool := okRune r && (runesOf v).contains r

theorem has_ne {v : ByteArray} {r : Int} (h : has v r = true) : r ≠ -1 := by
  intro e
  subst e
  simp [has, okRune] at h

def acceptB (v s : ByteArray) (t : St) : Bool := has v (peek s t)
def accept (v s : ByteArray) (t : St) : St := if acceptB v s t then next s t else t

theorem next_sub {s : ByteArray} {t : St} (h : t.eb < s.size) : s.size - (next s t).eb < s.size - t.eb := by
  have h1 := next_gt h
  omega
theorem peek_sub {s : ByteArray} {t : St} (h : peek s t ≠ -1) : s.size - (next s t).eb < s.size - t.eb := next_sub (peek_lt h)

def acceptRun (v s : ByteArray) (t : St) : St :=
  if h : has v (peek s t) = true then acceptRun v s (next s t) else t
termination_by s.size - t.eb
decreasing_by exact peek_sub (has_ne h)

def skipSpaces (s : ByteArray) (t : St) : St := commit (acceptRun ⟨#[32]⟩ s t)

/-- error: the first one stays. -/
def error (t : St) : St :=
  if t.err.isSome then t else { t with err := some ((t.er : Int) + (if t.eof then 1 else 0) - 1, (t.er : Int) + (if t.eof then 1 else 0)) }

def digitVal (r : Int) : Int :=
  if 48 ≤ r ∧ r ≤ 57 then r - 48 else if 97 ≤ r ∧ r ≤ 102 then r - 87 else if 65 ≤ r ∧ r ≤ 70 then r - 55 else 16

/-- scanDigits, n the digits still to come: the rune behind them, the lexer. -/
def scanDigits (s : ByteArray) (base : Int) : Nat → Int → St → Int × St
  | 0, ch, t => (ch, t)
  | n + 1, ch, t => if digitVal ch < base then scanDigits s base n (peek s t) (next s t) else (ch, error t)

/-- The braced escape, behind its '{', d digits read. -/
def braces (s : ByteArray) : Nat → Nat → St → Int × St
  | 0, _, t => (-1, t)
  | f + 1, d, t =>
    if peek s t = 125 then (if d = 0 then (-1, error t) else (peek s (next s t), next s (next s t)))
    else if 16 ≤ digitVal (peek s t) then (-1, error t)
    else if 6 ≤ d then (-1, error t)
    else braces s f (d + 1) (next s t)

def isSimple (ch : Int) : Bool := decide (ch = 97) || decide (ch = 98) || decide (ch = 102) || decide (ch = 110) || decide (ch = 114) || decide (ch = 116) || decide (ch = 118) || decide (ch = 92)

def scanEscape (s : ByteArray) (quote : Int) (t : St) : Int × St :=
  let ch := peek s t
  let t1 := next s t
  if isSimple ch || decide (ch = quote) then (peek s t1, next s t1)
  else if 48 ≤ ch ∧ ch ≤ 55 then scanDigits s 8 3 ch t1
  else if ch = 120 then scanDigits s 16 2 (peek s t1) (next s t1)
  else if ch = 117 then (if peek s t1 = 123 then braces s 7 0 (next s t1) else scanDigits s 16 4 (peek s t1) (next s t1))
  else if ch = 85 then scanDigits s 16 8 (peek s t1) (next s t1)
  else (ch, error t1)

theorem error_eb (t : St) : (error t).eb = t.eb := by unfold error; split <;> rfl

theorem scanDigits_ge (s : ByteArray) (base : Int) : ∀ (n : Nat) (ch : Int) (t : St), t.eb ≤ (scanDigits s base n ch t).2.eb
  | 0, _, _ => Nat.le_refl _
  | n + 1, ch, t => by
    unfold scanDigits
    split
    · exact Nat.le_trans (next_ge s t) (scanDigits_ge s base n _ _)
    · rw [error_eb]; exact Nat.le_refl _
theorem braces_ge (s : ByteArray) : ∀ (f d : Nat) (t : St), t.eb ≤ (braces s f d t).2.eb
  | 0, _, _ => Nat.le_refl _
  | f + 1, d, t => by
    unfold braces
    split
    · split
      · rw [error_eb]; exact Nat.le_refl _
      · exact Nat.le_trans (next_ge s t) (next_ge s _)
    · split
      · rw [error_eb]; exact Nat.le_refl _
      · split
        · rw [error_eb]; exact Nat.le_refl _
        · exact Nat.le_trans (next_ge s t) (braces_ge s f _ _)
theorem scanEscape_ge (s : ByteArray) (quote : Int) (t : St) : (next s t).eb ≤ (scanEscape s quote t).2.eb := by
  unfold scanEscape
  dsimp only
  split
  · exact next_ge s _
  · split
    · exact scanDigits_ge s _ _ _ _
    · split
      · exact Nat.le_trans (next_ge s _) (scanDigits_ge s _ _ _ _)
      · split
        · split
          · exact Nat.le_trans (next_ge s _) (braces_ge s _ _ _)
          · exact Nat.le_trans (next_ge s _) (scanDigits_ge s _ _ _ _)
        · split
          · exact Nat.le_trans (next_ge s _) (scanDigits_ge s _ _ _ _)
          · rw [error_eb]; exact Nat.le_refl _

/-- At the end of the text scanEscape answers -1 (no quote is -1). -/
theorem scanEscape_end (s : ByteArray) (quote : Int) (t : St) (hq : quote ≠ -1) (h : ¬ t.eb < s.size) : (scanEscape s quote t).1 = -1 := by
  have hp : peek s t = -1 := by unfold peek; rw [if_neg h]
  unfold scanEscape
  dsimp only
  rw [hp]
  have h1 : (isSimple (-1) || decide (-1 = quote)) = false := by
    have : ¬ (-1 = quote) := fun e => hq e.symm
    simp [isSimple, this]
  rw [h1]
  simp

/-- How far a scanning loop has still to go: a rune read that isn't the end counts one. -/
def togo (s : ByteArray) (ch : Int) (t : St) : Nat := 2 * (s.size - t.eb) + (if ch = -1 then 0 else 1)

theorem togo_next (s : ByteArray) (ch : Int) (t : St) (h : ch ≠ -1) : togo s (peek s t) (next s t) < togo s ch t := by
  unfold togo
  rw [if_neg h]
  by_cases hl : t.eb < s.size
  · have := next_sub hl
    split <;> omega
  · rw [next_end hl]
    have : peek s t = -1 := by unfold peek; rw [if_neg hl]
    rw [if_pos this]
    show 2 * (s.size - t.eb) + 0 < _
    omega
theorem togo_escape (s : ByteArray) (quote ch : Int) (t : St) (hq : quote ≠ -1) (h : ch ≠ -1) : togo s (scanEscape s quote t).1 (scanEscape s quote t).2 < togo s ch t := by
  unfold togo
  rw [if_neg h]
  have hge := scanEscape_ge s quote t
  by_cases hl : t.eb < s.size
  · have := next_gt hl
    split <;> omega
  · rw [if_pos (scanEscape_end s quote t hq hl)]
    have := next_ge s t
    omega

/-- scanString's loop: ch the rune in hand, n the units read: (n, the lexer). The quote is no -1. -/
def scanStr (s : ByteArray) (quote : Int) (hq : quote ≠ -1) (n : Nat) (ch : Int) (t : St) : Nat × St :=
  if ch = quote then (n, t)
  else if h : ch = 10 ∨ ch = -1 then (n, error t)
  else if ch = 92 then scanStr s quote hq (n + 1) (scanEscape s quote t).1 (scanEscape s quote t).2
  else scanStr s quote hq (n + 1) (peek s t) (next s t)
termination_by togo s ch t
decreasing_by
  · exact togo_escape s quote ch t hq (fun e => h (Or.inr e))
  · exact togo_next s ch t (fun e => h (Or.inr e))
def scanString (s : ByteArray) (quote : Int) (hq : quote ≠ -1) (t : St) : Nat × St := scanStr s quote hq 0 (peek s t) (next s t)

/-- scanRawString's loops: n the runes, e the pairs, ch the rune in hand: (n, e, ended at a quote, the lexer). -/
def rawGo (s : ByteArray) (quote : Int) (n e : Nat) (ch : Int) (t : St) : Nat × Nat × Bool × St :=
  if h : ch = quote ∧ peek s t = quote ∧ ch ≠ -1 then rawGo s quote n (e + 1) (peek s (next s t)) (next s (next s t))
  else if ch = quote then (n, e, true, t)
  else if h2 : ch = -1 then (n, e, false, error t)
  else rawGo s quote (n + 1) e (peek s t) (next s t)
termination_by togo s ch t
decreasing_by
  · exact Nat.lt_trans (togo_next s _ _ (by rw [h.2.1, ← h.1]; exact h.2.2)) (togo_next s ch t h.2.2)
  · exact togo_next s ch t h2

/-- What 'for _, r := range str' keeps of a raw string's content: of two quotes the second. -/
def unpair (quote : Int) : Bool → List Int → List Int
  | _, [] => []
  | sk, r :: rs => if r = quote then (if sk then r :: unpair quote false rs else unpair quote true rs) else r :: unpair quote sk rs
def encodeAll (rs : List Int) : List UInt8 := rs.flatMap encodeRune
def rawValue (quote : Int) (e : Nat) (str : ByteArray) : ByteArray := if e = 0 then str else ⟨(encodeAll (unpair quote false (runesOf str))).toArray⟩
def scanRaw (s : ByteArray) (quote : Int) (t : St) : Nat × St :=
  match rawGo s quote 0 0 (peek s t) (next s t) with
  | (n, e, true, t1) => (n, emitV kString (rawValue quote e (s.extract (t1.sb + 1) (t1.eb - 1))) t1)
  | (n, _, false, t1) => (n, t1)

def alpha (r : Int) : Bool := decide (r = 95) || decide (r = 36) || isLetterU r
def alnum (r : Int) : Bool := alpha r || isDigitU r

/-- A run of letters and digits, and the rune behind it read (or the end met). -/
def alnumRun (s : ByteArray) (t : St) : St :=
  if h : alnum (peek s t) = true ∧ peek s t ≠ -1 then alnumRun s (next s t) else next s t
termination_by s.size - t.eb
decreasing_by exact peek_sub h.2

end Go.Proofs.YtlbmojpmfgihlaaFmt
