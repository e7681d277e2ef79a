/-
  The lexer's states, Next and Lex, said in plain Lean (over XModel). No program stands in this text.
-/
import Derived.Test.YtlbmojpmfgihlaaFmtModel
namespace Go.Proofs.YtlbmojpmfgihlaaFmt
open Go Go.Lib

def bs (l : List UInt8) : ByteArray := ⟨l.toArray⟩

/-! ### unescape -/

/-- zzNewlines: CR LF and CR alone become LF. -/
def newlinesL : List UInt8 → List UInt8
  | [] => []
  | [c] => if c = 13 then [10] else [c]
  | c :: d :: r => if c = 13 then (if d = 10 then 10 :: newlinesL r else 10 :: newlinesL (d :: r)) else c :: newlinesL (d :: r)

def unhexB (b : UInt8) : Option Int :=
  if 48 ≤ b.toNat ∧ b.toNat ≤ 57 then some (b.toNat - 48) else if 97 ≤ b.toNat ∧ b.toNat ≤ 102 then some (b.toNat - 87) else if 65 ≤ b.toNat ∧ b.toNat ≤ 70 then some (b.toNat - 55) else none

end Go.Proofs.YtlbmojpmfgihlaaFmt
