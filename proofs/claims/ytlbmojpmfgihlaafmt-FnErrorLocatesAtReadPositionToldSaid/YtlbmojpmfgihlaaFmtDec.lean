/-
  The model's decoder by the bounds of its bytes: what the laws' own decoders compare. No program stands in this text.
-/
import Derived.Test.YtlbmojpmfgihlaaFmtModel2
import Derived.Lib.DecodeN
namespace Go.Proofs.YtlbmojpmfgihlaaFmt
open Go Go.Lib

/-- The byte at place k (0 beyond the end). -/
def byt (s : ByteArray) (k : Nat) : Nat := (s.get! k).toNat
theorem byt_of {s : ByteArray} {k : Nat} (h : k < s.size) : byt s k = (s[k]'h).toNat := by
  unfold byt
  have : s.get! k = s[k]'h := by
    have h' : k < s.data.size := h
    simp only [ByteArray.get!, ByteArray.getElem_eq_getElem_data, Array.getElem!_eq_getD, Array.getD]
    rw [dif_pos h']
    rfl
  rw [this]
theorem byt_lt (s : ByteArray) (k : Nat) : byt s k < 256 := (s.get! k).toNat_lt

theorem dec_pair (s : ByteArray) (i : Nat) : Utf8.decode s i = decodeN (s.size - i) (byt s i) (byt s (i + 1)) (byt s (i + 2)) (byt s (i + 3)) := decode_at s i

theorem dec1 {s : ByteArray} {i : Nat} (h : byt s i < 128) : rAt s i = (byt s i : Int) ∧ wAt s i = 1 := by
  unfold rAt wAt
  rw [dec_pair, decodeN, if_pos h]
  exact ⟨rfl, rfl⟩
theorem dec_lo {s : ByteArray} {i : Nat} (h0 : 128 ≤ byt s i) (h : byt s i < 194) : rAt s i = 65533 ∧ wAt s i = 1 := by
  unfold rAt wAt
  rw [dec_pair, decodeN, if_neg (by omega)]
  have b1 := byt_lt s (i + 1)
  by_cases hc : byt s i / 32 = 6 ∧ (1 < s.size - i ∧ byt s (i + 1) / 64 = 2)
  · rw [if_pos hc, if_neg (by omega)]; exact ⟨rfl, rfl⟩
  · rw [if_neg hc, if_neg (by omega), if_neg (by omega)]; exact ⟨rfl, rfl⟩
theorem dec_hi {s : ByteArray} {i : Nat} (h0 : 245 ≤ byt s i) : rAt s i = 65533 ∧ wAt s i = 1 := by
  unfold rAt wAt
  rw [dec_pair, decodeN, if_neg (by omega)]
  have b1 := byt_lt s (i + 1)
  rw [if_neg (by have := byt_lt s i; omega), if_neg (by have := byt_lt s i; omega)]
  by_cases hc : byt s i / 8 = 30 ∧ (1 < s.size - i ∧ byt s (i + 1) / 64 = 2) ∧ (2 < s.size - i ∧ byt s (i + 2) / 64 = 2) ∧ (3 < s.size - i ∧ byt s (i + 3) / 64 = 2)
  · rw [if_pos hc, if_neg (by omega)]; exact ⟨rfl, rfl⟩
  · rw [if_neg hc]; exact ⟨rfl, rfl⟩
theorem dec2 {s : ByteArray} {i : Nat} (h0 : 194 ≤ byt s i) (h : byt s i < 224) :
    ((i + 1 < s.size ∧ 128 ≤ byt s (i + 1) ∧ byt s (i + 1) ≤ 191) ∧ rAt s i = (byt s i % 32 * 64 + byt s (i + 1) % 64 : Int) ∧ wAt s i = 2) ∨ (¬ (i + 1 < s.size ∧ 128 ≤ byt s (i + 1) ∧ byt s (i + 1) ≤ 191) ∧ rAt s i = 65533 ∧ wAt s i = 1) := by
  unfold rAt wAt
  rw [dec_pair, decodeN, if_neg (by omega)]
  by_cases hc : i + 1 < s.size ∧ 128 ≤ byt s (i + 1) ∧ byt s (i + 1) ≤ 191
  · left
    rw [if_pos (by omega), if_pos (by omega)]
    exact ⟨hc, by simp, rfl⟩
  · right
    rw [if_neg (by omega), if_neg (by omega), if_neg (by omega)]
    exact ⟨hc, rfl, rfl⟩
def lo3 (b : Nat) : Nat := if b = 224 then 160 else 128
def hi3 (b : Nat) : Nat := if b = 237 then 159 else 191
def lo4 (b : Nat) : Nat := if b = 240 then 144 else 128
def hi4 (b : Nat) : Nat := if b = 244 then 143 else 191
set_option maxHeartbeats 1000000 in
theorem dec3 {s : ByteArray} {i : Nat} (h0 : 224 ≤ byt s i) (h : byt s i < 240) :
    ((i + 2 < s.size ∧ lo3 (byt s i) ≤ byt s (i + 1) ∧ byt s (i + 1) ≤ hi3 (byt s i) ∧ 128 ≤ byt s (i + 2) ∧ byt s (i + 2) ≤ 191) ∧ rAt s i = (byt s i % 16 * 4096 + byt s (i + 1) % 64 * 64 + byt s (i + 2) % 64 : Int) ∧ wAt s i = 3) ∨
      (¬ (i + 2 < s.size ∧ lo3 (byt s i) ≤ byt s (i + 1) ∧ byt s (i + 1) ≤ hi3 (byt s i) ∧ 128 ≤ byt s (i + 2) ∧ byt s (i + 2) ≤ 191) ∧ rAt s i = 65533 ∧ wAt s i = 1) := by
  unfold rAt wAt
  rw [dec_pair, decodeN, if_neg (by omega), if_neg (by omega)]
  have b1 := byt_lt s (i + 1)
  have b2 := byt_lt s (i + 2)
  generalize byt s i = x0 at *
  generalize byt s (i + 1) = x1 at *
  generalize byt s (i + 2) = x2 at *
  generalize byt s (i + 3) = x3 at *
  by_cases hc : i + 2 < s.size ∧ lo3 x0 ≤ x1 ∧ x1 ≤ hi3 x0 ∧ 128 ≤ x2 ∧ x2 ≤ 191
  · left
    refine ⟨hc, ?_⟩
    unfold lo3 hi3 at hc
    rw [if_pos (by split at hc <;> split at hc <;> omega), if_pos (by split at hc <;> split at hc <;> omega)]
    exact ⟨by simp, rfl⟩
  · right
    refine ⟨hc, ?_⟩
    unfold lo3 hi3 at hc
    by_cases hd : x0 / 16 = 14 ∧ (1 < s.size - i ∧ x1 / 64 = 2) ∧ (2 < s.size - i ∧ x2 / 64 = 2)
    · rw [if_pos hd, if_neg (by split at hc <;> split at hc <;> omega)]
      exact ⟨rfl, rfl⟩
    · rw [if_neg hd, if_neg (by omega)]
      exact ⟨rfl, rfl⟩
set_option maxHeartbeats 1000000 in
theorem dec4 {s : ByteArray} {i : Nat} (h0 : 240 ≤ byt s i) (h : byt s i < 245) :
    ((i + 3 < s.size ∧ lo4 (byt s i) ≤ byt s (i + 1) ∧ byt s (i + 1) ≤ hi4 (byt s i) ∧ (128 ≤ byt s (i + 2) ∧ byt s (i + 2) ≤ 191) ∧ 128 ≤ byt s (i + 3) ∧ byt s (i + 3) ≤ 191) ∧ rAt s i = (byt s i % 8 * 262144 + byt s (i + 1) % 64 * 4096 + byt s (i + 2) % 64 * 64 + byt s (i + 3) % 64 : Int) ∧ wAt s i = 4) ∨
      (¬ (i + 3 < s.size ∧ lo4 (byt s i) ≤ byt s (i + 1) ∧ byt s (i + 1) ≤ hi4 (byt s i) ∧ (128 ≤ byt s (i + 2) ∧ byt s (i + 2) ≤ 191) ∧ 128 ≤ byt s (i + 3) ∧ byt s (i + 3) ≤ 191) ∧ rAt s i = 65533 ∧ wAt s i = 1) := by
  unfold rAt wAt
  rw [dec_pair, decodeN, if_neg (by omega), if_neg (by omega), if_neg (by omega)]
  have b1 := byt_lt s (i + 1)
  have b2 := byt_lt s (i + 2)
  have b3 := byt_lt s (i + 3)
  generalize byt s i = x0 at *
  generalize byt s (i + 1) = x1 at *
  generalize byt s (i + 2) = x2 at *
  generalize byt s (i + 3) = x3 at *
  by_cases hc : i + 3 < s.size ∧ lo4 x0 ≤ x1 ∧ x1 ≤ hi4 x0 ∧ (128 ≤ x2 ∧ x2 ≤ 191) ∧ 128 ≤ x3 ∧ x3 ≤ 191
  · left
    refine ⟨hc, ?_⟩
    unfold lo4 hi4 at hc
    rw [if_pos (by split at hc <;> split at hc <;> omega), if_pos (by split at hc <;> split at hc <;> omega)]
    exact ⟨by simp, rfl⟩
  · right
    refine ⟨hc, ?_⟩
    unfold lo4 hi4 at hc
    by_cases hd : x0 / 8 = 30 ∧ (1 < s.size - i ∧ x1 / 64 = 2) ∧ (2 < s.size - i ∧ x2 / 64 = 2) ∧ (3 < s.size - i ∧ x3 / 64 = 2)
    · rw [if_pos hd, if_neg (by split at hc <;> split at hc <;> omega)]
      exact ⟨rfl, rfl⟩
    · rw [if_neg hd]
      exact ⟨rfl, rfl⟩

end Go.Proofs.YtlbmojpmfgihlaaFmt
