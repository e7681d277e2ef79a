/-
  What the decoder gives is a rune. No program stands in this text.
-/
import Derived.Test.YteicfaehbndlcaaFmtDec
namespace Go.Proofs.YteicfaehbndlcaaFmt
open Go Go.Lib

/-- What the decoder gives is a rune. -/
theorem okRune_rAt (s : ByteArray) (i : Nat) : okRune (rAt s i) = true := by
  have b0 := byt_lt s i
  have b1 := byt_lt s (i + 1)
  have b2 := byt_lt s (i + 2)
  have b3 := byt_lt s (i + 3)
  have key : rAt s i = 65533 ∨ (0 ≤ rAt s i ∧ rAt s i < 55296) ∨ (57344 ≤ rAt s i ∧ rAt s i ≤ 1114111) := by
    by_cases h1 : byt s i < 128
    · have := (dec1 h1).1; omega
    by_cases h2 : byt s i < 194
    · have := (dec_lo (by omega) h2).1; omega
    by_cases h3 : byt s i < 224
    · rcases dec2 (s := s) (i := i) (by omega) h3 with ⟨_, e, _⟩ | ⟨_, e, _⟩ <;> omega
    by_cases h4 : byt s i < 240
    · rcases dec3 (s := s) (i := i) (by omega) h4 with ⟨hc, e, _⟩ | ⟨_, e, _⟩
      · unfold lo3 hi3 at hc
        split at hc <;> split at hc <;> omega
      · omega
    by_cases h5 : byt s i < 245
    · rcases dec4 (s := s) (i := i) (by omega) h5 with ⟨hc, e, _⟩ | ⟨_, e, _⟩
      · unfold lo4 hi4 at hc
        split at hc <;> split at hc <;> omega
      · omega
    · have := (dec_hi (s := s) (i := i) (by omega)).1; omega
  unfold okRune
  simp
  omega
theorem has_rAt (v s : ByteArray) (i : Nat) : has v (rAt s i) = (runesOf v).contains (rAt s i) := by unfold has; rw [okRune_rAt]; rfl

end Go.Proofs.YteicfaehbndlcaaFmt
