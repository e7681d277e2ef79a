/-
  A read and a backup: the last rune ahead of a boundary is the one that was read. No program stands in this text.
-/
import Derived.Test.YtlbmojpmfgihlaaFmtDec
import Derived.Lib.TrimAscii
namespace Go.Proofs.YtlbmojpmfgihlaaFmt
open Go Go.Lib

theorem wAt_cases (A : ByteArray) (i : Nat) : wAt A i = 1 ∨
    (wAt A i = 2 ∧ 194 ≤ byt A i ∧ byt A i < 224 ∧ i + 1 < A.size ∧ 128 ≤ byt A (i + 1) ∧ byt A (i + 1) ≤ 191) ∨
    (wAt A i = 3 ∧ 224 ≤ byt A i ∧ byt A i < 240 ∧ i + 2 < A.size ∧ lo3 (byt A i) ≤ byt A (i + 1) ∧ byt A (i + 1) ≤ hi3 (byt A i) ∧ 128 ≤ byt A (i + 2) ∧ byt A (i + 2) ≤ 191) ∨
    (wAt A i = 4 ∧ 240 ≤ byt A i ∧ byt A i < 245 ∧ i + 3 < A.size ∧ lo4 (byt A i) ≤ byt A (i + 1) ∧ byt A (i + 1) ≤ hi4 (byt A i) ∧ (128 ≤ byt A (i + 2) ∧ byt A (i + 2) ≤ 191) ∧ 128 ≤ byt A (i + 3) ∧ byt A (i + 3) ≤ 191) := by
  by_cases h1 : byt A i < 128
  · exact .inl (dec1 h1).2
  by_cases h2 : byt A i < 194
  · exact .inl (dec_lo (by omega) h2).2
  by_cases h3 : byt A i < 224
  · rcases dec2 (s := A) (i := i) (by omega) h3 with ⟨⟨a, b, c⟩, _, e⟩ | ⟨_, _, e⟩
    · exact .inr (.inl ⟨e, by omega, h3, a, b, c⟩)
    · exact .inl e
  by_cases h4 : byt A i < 240
  · rcases dec3 (s := A) (i := i) (by omega) h4 with ⟨⟨a, b, c, d, f⟩, _, e⟩ | ⟨_, _, e⟩
    · exact .inr (.inr (.inl ⟨e, by omega, h4, a, b, c, d, f⟩))
    · exact .inl e
  by_cases h5 : byt A i < 245
  · rcases dec4 (s := A) (i := i) (by omega) h5 with ⟨⟨a, b, c, d, f⟩, _, e⟩ | ⟨_, _, e⟩
    · exact .inr (.inr (.inr ⟨e, by omega, h5, a, b, c, d, f⟩))
    · exact .inl e
  · exact .inl (dec_hi (s := A) (i := i) (by omega)).2

/-- A wide rune is as wide in another text that has its bytes. -/
theorem wide_same {A B : ByteArray} {i j : Nat} (hw : 2 ≤ wAt A i) (hb : ∀ k, k < wAt A i → byt B (j + k) = byt A (i + k)) (hj : j + wAt A i ≤ B.size) : wAt B j = wAt A i ∧ rAt B j = rAt A i := by
  have e0 : byt B j = byt A i := hb 0 (by omega)
  rcases wAt_cases A i with h | ⟨h, a, b, c, d, f⟩ | ⟨h, a, b, c, d, f, g, k⟩ | ⟨h, a, b, c, d, f, ⟨g, k⟩, l, m⟩
  · omega
  · have e1 := hb 1 (by omega)
    rcases dec2 (s := A) (i := i) a b with ⟨_, r1, w1⟩ | ⟨_, _, w1⟩
    · rcases dec2 (s := B) (i := j) (by omega) (by omega) with ⟨_, r2, w2⟩ | ⟨n, _, _⟩
      · exact ⟨by omega, by rw [r1, r2, e0, e1]⟩
      · exact absurd ⟨by omega, by omega, by omega⟩ n
    · omega
  · have e1 := hb 1 (by omega)
    have e2 := hb 2 (by omega)
    rcases dec3 (s := A) (i := i) a b with ⟨_, r1, w1⟩ | ⟨_, _, w1⟩
    · rcases dec3 (s := B) (i := j) (by omega) (by omega) with ⟨_, r2, w2⟩ | ⟨n, _, _⟩
      · exact ⟨by omega, by rw [r1, r2, e0, e1, e2]⟩
      · exact absurd ⟨by omega, by rw [e0, e1]; exact d, by rw [e0, e1]; exact f, by omega, by omega⟩ n
    · omega
  · have e1 := hb 1 (by omega)
    have e2 := hb 2 (by omega)
    have e3 := hb 3 (by omega)
    rcases dec4 (s := A) (i := i) a b with ⟨_, r1, w1⟩ | ⟨_, _, w1⟩
    · rcases dec4 (s := B) (i := j) (by omega) (by omega) with ⟨_, r2, w2⟩ | ⟨n, _, _⟩
      · exact ⟨by omega, by rw [r1, r2, e0, e1, e2, e3]⟩
      · exact absurd ⟨by omega, by rw [e0, e1]; exact d, by rw [e0, e1]; exact f, ⟨by omega, by omega⟩, by omega, by omega⟩ n
    · omega

/-- Inside a wide rune stand bytes that begin none. -/
theorem inside {A : ByteArray} {i k : Nat} (h0 : 0 < k) (hk : k < wAt A i) : 128 ≤ byt A (i + k) ∧ byt A (i + k) ≤ 191 := by
  rcases wAt_cases A i with h | ⟨h, a, b, c, d, f⟩ | ⟨h, a, b, c, d, f, g, m⟩ | ⟨h, a, b, c, d, f, ⟨g, m⟩, l, n⟩
  · omega
  · obtain rfl : k = 1 := by omega
    exact ⟨d, f⟩
  · have : k = 1 ∨ k = 2 := by omega
    rcases this with rfl | rfl
    · unfold lo3 at d; unfold hi3 at f; split at d <;> split at f <;> omega
    · exact ⟨g, m⟩
  · have : k = 1 ∨ k = 2 ∨ k = 3 := by omega
    rcases this with rfl | rfl | rfl
    · unfold lo4 at d; unfold hi4 at f; split at d <;> split at f <;> omega
    · exact ⟨g, m⟩
    · exact ⟨l, n⟩
theorem wide_head {A : ByteArray} {i : Nat} (h : 2 ≤ wAt A i) : 194 ≤ byt A i := by
  rcases wAt_cases A i with h | ⟨h, a, _⟩ | ⟨h, a, _⟩ | ⟨h, a, _⟩ <;> omega
theorem wide_in {A : ByteArray} {i : Nat} (h : 2 ≤ wAt A i) : i + wAt A i ≤ A.size := by
  rcases wAt_cases A i with h | ⟨h, _, _, a, _⟩ | ⟨h, _, _, a, _⟩ | ⟨h, _, _, a, _⟩ <;> omega
theorem wAt_le4 (A : ByteArray) (i : Nat) : wAt A i ≤ 4 := by
  rcases wAt_cases A i with h | ⟨h, _⟩ | ⟨h, _⟩ | ⟨h, _⟩ <;> omega

/-- The boundaries between the runes. -/
inductive Bd (s : ByteArray) : Nat → Nat → Prop where
  | zero : Bd s 0 0
  | step {i n : Nat} : Bd s i n → i < s.size → Bd s (i + wAt s i) (n + 1)

theorem Bd.le {s : ByteArray} {i n : Nat} (h : Bd s i n) : i ≤ s.size := by
  cases h with
  | zero => exact Nat.zero_le _
  | step _ hi => exact wAt_le s _ hi
theorem Bd.n_le {s : ByteArray} {i n : Nat} (h : Bd s i n) : n ≤ i := by
  induction h with
  | zero => exact Nat.le_refl _
  | step _ hi ih => have := wAt_pos s _ hi; omega
/-- A boundary does not lie inside a rune that begins at one. -/
theorem Bd.out {s : ByteArray} {i n : Nat} (h : Bd s i n) : ∀ {j m : Nat}, Bd s j m → i ≤ j ∨ j + wAt s j ≤ i ∨ s.size ≤ j := by
  induction h with
  | zero => intro j m _; left; omega
  | @step i n hi hlt ih =>
    intro j m hj
    rcases ih hj with h | h | h
    · -- i ≤ j: a chain from i
      by_cases hij : i = j
      · subst hij; right; left; exact Nat.le_refl _
      · left
        -- j is a boundary beyond i
        have key : ∀ {j m : Nat}, Bd s j m → i < j → i + wAt s i ≤ j := by
          intro j m hj
          induction hj with
          | zero => intro h; omega
          | @step j m hj hl ihj =>
            intro h
            by_cases h2 : i < j
            · have := ihj h2; omega
            · by_cases h3 : i = j
              · subst h3; exact Nat.le_refl _
              · rcases ih hj with h4 | h4 | h4 <;> omega
        exact key hj (by omega)
    · right; left
      have := wAt_pos s i hlt
      omega
    · right; right; exact h
/-- The last boundary up to a place. -/
theorem Bd.floor {s : ByteArray} (p : Nat) (hp : p < s.size) : ∃ j m, Bd s j m ∧ j ≤ p ∧ p < j + wAt s j := by
  have key : ∀ k, ∀ j m, Bd s j m → j ≤ p → p - j ≤ k → ∃ j m, Bd s j m ∧ j ≤ p ∧ p < j + wAt s j := by
    intro k
    induction k with
    | zero =>
      intro j m hj h1 h2
      have := wAt_pos s j (by omega)
      exact ⟨j, m, hj, h1, by omega⟩
    | succ k ih =>
      intro j m hj h1 h2
      have := wAt_pos s j (by omega)
      by_cases h3 : p < j + wAt s j
      · exact ⟨j, m, hj, h1, h3⟩
      · exact ih _ _ (hj.step (by omega)) (by omega) (by omega)
  exact key p 0 0 .zero (Nat.zero_le _) (by omega)

/-- The text up to e. -/
theorem byt_take {s : ByteArray} {e k : Nat} (h : k < e) (he : e ≤ s.size) : byt (s.extract 0 e) k = byt s k := by
  rw [byt_of (s := s.extract 0 e) (k := k) (by rw [ByteArray.size_extract]; omega), byt_of (s := s) (k := k) (by omega)]
  congr 1
  rw [ByteArray.getElem_extract]
  congr 1
  omega

/-- WHAT A BACKUP BEHIND A READ TAKES BACK: the width of the rune that was read. -/
theorem last_read {s : ByteArray} {i n : Nat} (hB : Bd s i n) (hi : i < s.size) : (decodeLastL (s.data.toList.take (i + wAt s i))).2 = wAt s i := by
  have hwp := wAt_pos s i hi
  have hwl := wAt_le s i hi
  obtain ⟨e, he⟩ : ∃ e, i + wAt s i = e := ⟨_, rfl⟩
  rw [he]
  have hs := Lib.size_eq s
  have hl : (s.data.toList.take e).length = e := by rw [List.length_take]; omega
  have hne : s.data.toList.take e ≠ [] := by intro h; rw [h] at hl; simp at hl; omega
  have hget : ∀ k, k < e → ((s.data.toList.take e).getD k 0).toNat = byt s k := by
    intro k hk
    rw [byt_of (by omega)]
    simp only [List.getD]
    rw [List.getElem?_take_of_lt hk, List.getElem?_eq_getElem (by omega)]
    rfl
  have hdec : ∀ p, decodeL ((s.data.toList.take e).drop p) = Utf8.decode (s.extract 0 e) p := by
    intro p
    have h := decodeL_drop (s.extract 0 e) p
    rw [← h, Lib.extract_data]
    simp
  unfold decodeLastL
  rw [if_neg hne, hl, hget (e - 1) (by omega)]
  by_cases hw : 2 ≤ wAt s i
  · -- a wide rune
    have hin := inside (A := s) (i := i) (k := wAt s i - 1) (by omega) (by omega)
    rw [show i + (wAt s i - 1) = e - 1 by omega] at hin
    rw [if_neg (by omega)]
    have hst : lastStart (s.data.toList.take e) = i := by
      have hh := wide_head hw
      have r0 : runeStartB ((s.data.toList.take e).getD i 0) = true := by
        unfold runeStartB
        rw [hget i (by omega)]
        simp
        have := byt_lt s i
        omega
      have rk : ∀ k, 0 < k → k < wAt s i → runeStartB ((s.data.toList.take e).getD (i + k) 0) = false := by
        intro k h1 h2
        have := inside (A := s) h1 h2
        unfold runeStartB
        rw [hget (i + k) (by omega)]
        simp
        omega
      unfold lastStart
      simp only [hl]
      have h4 := wAt_le4 s i
      have : wAt s i = 2 ∨ wAt s i = 3 ∨ wAt s i = 4 := by omega
      rcases this with h | h | h
      · rw [if_neg (by omega), show e - 2 = i by omega, if_pos r0]
      · rw [if_neg (by omega), show e - 2 = i + 1 by omega, rk 1 (by omega) (by omega), if_neg (by decide), if_neg (by omega), show e - 3 = i by omega, if_pos r0]
      · rw [if_neg (by omega), show e - 2 = i + 2 by omega, rk 2 (by omega) (by omega), if_neg (by decide), if_neg (by omega), show e - 3 = i + 1 by omega, rk 1 (by omega) (by omega), if_neg (by decide), if_neg (by omega), show e - 4 = i by omega, if_pos r0]
    rw [hst]
    have hA : wAt (s.extract 0 e) i = wAt s i := by
      have := wide_same (A := s) (B := s.extract 0 e) (i := i) (j := i) hw (fun k hk => byt_take (by omega) (by omega)) (by rw [ByteArray.size_extract]; omega)
      exact this.1
    have hd : (decodeL ((s.data.toList.take e).drop i)).2 = wAt s i := by rw [hdec]; exact hA
    simp only [hd]
    rw [if_pos he]
    exact hd
  · have hw1 : wAt s i = 1 := by omega
    rw [hw1]
    split
    · rfl
    · obtain ⟨p, hp⟩ : ∃ p, lastStart (s.data.toList.take e) = p := ⟨_, rfl⟩
      have hd : (decodeL ((s.data.toList.take e).drop p)).2 = wAt (s.extract 0 e) p := by rw [hdec]; rfl
      simp only [hp, hd]
      split
      · rename_i hpe
        -- a wide rune that would end where ours ends
        by_cases h2 : 2 ≤ wAt (s.extract 0 e) p
        · exfalso
          have hps : wAt s p = wAt (s.extract 0 e) p := (wide_same (A := s.extract 0 e) (B := s) h2 (fun k hk => (byt_take (by omega) (by omega)).symm) (by omega)).1
          have hh : 194 ≤ byt s p := wide_head (by omega)
          obtain ⟨j, m, hj, h3, h4⟩ := Bd.floor (s := s) p (by omega)
          by_cases hjp : j = p
          · subst hjp
            rcases hB.out hj with h5 | h5 | h5 <;> omega
          · have := inside (A := s) (i := j) (k := p - j) (by omega) (by omega)
            rw [show j + (p - j) = p by omega] at this
            omega
        · have h3 : wAt (s.extract 0 e) p = 1 := by
            rcases wAt_cases (s.extract 0 e) p with h | ⟨h, _⟩ | ⟨h, _⟩ | ⟨h, _⟩ <;> omega
          rw [hd, h3]
      · rfl

end Go.Proofs.YtlbmojpmfgihlaaFmt
