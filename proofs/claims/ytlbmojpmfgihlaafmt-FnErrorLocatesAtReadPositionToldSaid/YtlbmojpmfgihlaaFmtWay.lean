/-
  Root's ways, one by one. No program stands in this text. (Printed by genway.py.)
-/
import Derived.Test.YtlbmojpmfgihlaaFmtUnesc
namespace Go.Proofs.YtlbmojpmfgihlaaFmt
open Go Go.Lib

inductive RootWay (s : ByteArray) (t : St) : Option Q × St → Prop where
  | eof : peek s t = -1 → RootWay s t (none, emitEOF (next s t))
  | space : peek s t ≠ -1 → isSpaceZ (peek s t) = true → RootWay s t (some .root, commit (next s t))
  | str1 : peek s t ≠ -1 → peek s t = 39 → RootWay s t (some .root, rootStr uChar kString 0 s 39 (by decide) (next s t))
  | str2 : peek s t ≠ -1 → peek s t = 34 → RootWay s t (some .root, rootStr uChar kString 0 s 34 (by decide) (next s t))
  | raw : peek s t ≠ -1 → peek s t = 96 → RootWay s t (some .root, (scanRaw s 96 (next s t)).2)
  | byt1 : peek s t ≠ -1 → (peek s t = 98 ∨ peek s t = 66) ∧ peek s (next s t) = 39 → RootWay s t (some .root, rootStr bChar kBytes 1 s 39 (by decide) (next s (next s t)))
  | byt2 : peek s t ≠ -1 → (peek s t = 98 ∨ peek s t = 66) ∧ peek s (next s t) = 34 → RootWay s t (some .root, rootStr bChar kBytes 1 s 34 (by decide) (next s (next s t)))
  | digit : peek s t ≠ -1 → 48 ≤ peek s t ∧ peek s t ≤ 57 → RootWay s t (some .number, t)
  | quest : peek s t ≠ -1 → peek s t = 63 → RootWay s t (some .questionMark, next s t)
  | slash : peek s t ≠ -1 → peek s t = 47 → RootWay s t (some .slash, next s t)
  | hash : peek s t ≠ -1 → peek s t = 35 → RootWay s t (some .pointer, next s t)
  | bar : peek s t ≠ -1 → peek s t = 124 → RootWay s t (some .root, emit kOperator s (accept cBar s (next s t)))
  | colon : peek s t ≠ -1 → peek s t = 58 → RootWay s t (some .root, emit kOperator s (accept cColon s (next s t)))
  | open_ : peek s t ≠ -1 → has cOpen (peek s t) = true → RootWay s t (some .root, emit kBracket s (next s t))
  | shut : peek s t ≠ -1 → has cShut (peek s t) = true → RootWay s t (some .root, emit kBracket s (next s t))
  | one : peek s t ≠ -1 → has cOne (peek s t) = true → RootWay s t (some .root, emit kOperator s (next s t))
  | two : peek s t ≠ -1 → has cTwo (peek s t) = true → RootWay s t (some .root, emit kOperator s (accept cTail s (next s t)))
  | dot : peek s t ≠ -1 → peek s t = 46 → RootWay s t (some .dot, t)
  | ident : peek s t ≠ -1 → alnum (peek s t) = true → RootWay s t (some .identifier, t)
  | bad : peek s t ≠ -1 → RootWay s t (none, error (next s t))
theorem root_way (s : ByteArray) (t : St) : RootWay s t (root s t) := by
  unfold root
  by_cases c0 : peek s t = -1
  · rw [if_pos c0]; exact .eof c0
  rw [if_neg c0]
  by_cases c1 : isSpaceZ (peek s t) = true
  · rw [if_pos c1]; exact .space c0 c1
  rw [if_neg c1]
  by_cases c2 : peek s t = 39
  · rw [if_pos c2]; exact .str1 c0 c2
  rw [if_neg c2]
  by_cases c3 : peek s t = 34
  · rw [if_pos c3]; exact .str2 c0 c3
  rw [if_neg c3]
  by_cases c4 : peek s t = 96
  · rw [if_pos c4]; exact .raw c0 c4
  rw [if_neg c4]
  by_cases c5 : (peek s t = 98 ∨ peek s t = 66) ∧ peek s (next s t) = 39
  · rw [if_pos c5]; exact .byt1 c0 c5
  rw [if_neg c5]
  by_cases c6 : (peek s t = 98 ∨ peek s t = 66) ∧ peek s (next s t) = 34
  · rw [if_pos c6]; exact .byt2 c0 c6
  rw [if_neg c6]
  by_cases c7 : 48 ≤ peek s t ∧ peek s t ≤ 57
  · rw [if_pos c7]; exact .digit c0 c7
  rw [if_neg c7]
  by_cases c8 : peek s t = 63
  · rw [if_pos c8]; exact .quest c0 c8
  rw [if_neg c8]
  by_cases c9 : peek s t = 47
  · rw [if_pos c9]; exact .slash c0 c9
  rw [if_neg c9]
  by_cases c10 : peek s t = 35
  · rw [if_pos c10]; exact .hash c0 c10
  rw [if_neg c10]
  by_cases c11 : peek s t = 124
  · rw [if_pos c11]; exact .bar c0 c11
  rw [if_neg c11]
  by_cases c12 : peek s t = 58
  · rw [if_pos c12]; exact .colon c0 c12
  rw [if_neg c12]
  by_cases c13 : has cOpen (peek s t) = true
  · rw [if_pos c13]; exact .open_ c0 c13
  rw [if_neg c13]
  by_cases c14 : has cShut (peek s t) = true
  · rw [if_pos c14]; exact .shut c0 c14
  rw [if_neg c14]
  by_cases c15 : has cOne (peek s t) = true
  · rw [if_pos c15]; exact .one c0 c15
  rw [if_neg c15]
  by_cases c16 : has cTwo (peek s t) = true
  · rw [if_pos c16]; exact .two c0 c16
  rw [if_neg c16]
  by_cases c17 : peek s t = 46
  · rw [if_pos c17]; exact .dot c0 c17
  rw [if_neg c17]
  by_cases c18 : alnum (peek s t) = true
  · rw [if_pos c18]; exact .ident c0 c18
  rw [if_neg c18]
  exact .bad c0

end Go.Proofs.YtlbmojpmfgihlaaFmt
