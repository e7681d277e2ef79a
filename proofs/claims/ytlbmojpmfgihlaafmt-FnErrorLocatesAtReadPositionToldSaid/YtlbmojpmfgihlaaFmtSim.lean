/-
  Two texts with one head: a scan of a quoted text that ends inside the head does not see what follows. No program stands in this text.
-/
import Derived.Test.YtlbmojpmfgihlaaFmtGood2
namespace Go.Proofs.YtlbmojpmfgihlaaFmt
open Go Go.Lib

/-- A and B have the same first e bytes, and the last of them is no part of a wide rune. -/
structure Head (A B : ByteArray) (e : Nat) : Prop where
  a : e ≤ A.size
  b : e ≤ B.size
  same : ∀ k, k < e → byt A k = byt B k
  last : byt A (e - 1) < 128
theorem Head.symm {A B : ByteArray} {e : Nat} (h : Head A B e) (he : 0 < e) : Head B A e := ⟨h.b, h.a, fun k hk => (h.same k hk).symm, by rw [← h.same (e - 1) (by omega)]; exact h.last⟩

theorem rAt_one {s : ByteArray} {i : Nat} (hw : wAt s i = 1) (h : 128 ≤ byt s i) : rAt s i = 65533 := by
  by_cases h2 : byt s i < 194
  · exact (dec_lo h h2).1
  by_cases h3 : byt s i < 224
  · rcases dec2 (s := s) (i := i) (by omega) h3 with ⟨_, _, e⟩ | ⟨_, e, _⟩
    · omega
    · exact e
  by_cases h4 : byt s i < 240
  · rcases dec3 (s := s) (i := i) (by omega) h4 with ⟨_, _, e⟩ | ⟨_, e, _⟩
    · omega
    · exact e
  by_cases h5 : byt s i < 245
  · rcases dec4 (s := s) (i := i) (by omega) h5 with ⟨_, _, e⟩ | ⟨_, e, _⟩
    · omega
    · exact e
  · exact (dec_hi (s := s) (i := i) (by omega)).1

theorem Head.fit {A B : ByteArray} {e i : Nat} (h : Head A B e) (hi : i < e) (hw : 2 ≤ wAt A i) : i + wAt A i ≤ e := by
  rcases Nat.lt_or_ge e (i + wAt A i) with hlt | hge
  · exfalso
    by_cases h0 : i = e - 1
    · have := wide_head hw
      have hl := h.last
      rw [← h0] at hl
      omega
    · have := inside (A := A) (i := i) (k := e - 1 - i) (by omega) (by omega)
      rw [show i + (e - 1 - i) = e - 1 by omega] at this
      have hl := h.last
      omega
  · exact hge
theorem Head.dec {A B : ByteArray} {e i : Nat} (h : Head A B e) (hi : i < e) : wAt B i = wAt A i ∧ rAt B i = rAt A i := by
  by_cases hw : 2 ≤ wAt A i
  · have hf := h.fit hi hw
    have hb := h.b
    exact wide_same (j := i) hw (fun k hk => (h.same (i + k) (by omega)).symm) (by omega)
  · have ha := h.a
    have hb := h.b
    have p1 := wAt_pos A i (by omega)
    have p2 := wAt_pos B i (by omega)
    have hs := h.symm (by omega)
    by_cases hw2 : 2 ≤ wAt B i
    · have hf := hs.fit hi hw2
      have := wide_same (A := B) (B := A) (i := i) (j := i) hw2 (fun k hk => h.same (i + k) (by omega)) (by omega)
      omega
    · refine ⟨by omega, ?_⟩
      have hsm := h.same i hi
      by_cases h8 : byt A i < 128
      · rw [(dec1 h8).1, (dec1 (s := B) (i := i) (by omega)).1, hsm]
      · rw [rAt_one (s := A) (by omega) (by omega), rAt_one (s := B) (by omega) (by omega)]

theorem peek_m1 {s : ByteArray} {t : St} (h : ¬ t.eb < s.size) : peek s t = -1 := by unfold peek; rw [if_neg h]
theorem Head.next {A B : ByteArray} {e : Nat} (h : Head A B e) {t : St} (hp : peek A t ≠ -1) (hle : (Go.Proofs.YtlbmojpmfgihlaaFmt.next A t).eb ≤ e) : peek B t = peek A t ∧ Go.Proofs.YtlbmojpmfgihlaaFmt.next B t = Go.Proofs.YtlbmojpmfgihlaaFmt.next A t := by
  have hl := peek_lt hp
  have hg := next_gt hl
  have ha := h.a
  have hb := h.b
  have hd := h.dec (i := t.eb) (by omega)
  have hl2 : t.eb < B.size := by omega
  constructor
  · unfold peek
    rw [if_pos hl, if_pos hl2, hd.2]
  · rw [next_in hl, next_in hl2, hd.1]

theorem digits_m1 (s : ByteArray) (base : Int) (hb : base ≤ 16) (n : Nat) (t : St) : (scanDigits s base n (-1) t).1 = -1 := by
  cases n with
  | zero => rfl
  | succ n =>
    unfold scanDigits
    rw [if_neg (by rw [digitVal_end]; omega)]
theorem Head.digits {A B : ByteArray} {e : Nat} (h : Head A B e) (base : Int) (hb : base ≤ 16) : ∀ (n : Nat) (ch : Int) (t : St), (scanDigits A base n ch t).1 ≠ -1 → (scanDigits A base n ch t).2.eb ≤ e → scanDigits B base n ch t = scanDigits A base n ch t
  | 0, _, _, _, _ => rfl
  | n + 1, ch, t, h1, h2 => by
    unfold scanDigits at h1 h2 ⊢
    by_cases hd : digitVal ch < base
    · rw [if_pos hd] at h1 h2 ⊢
      have hp : peek A t ≠ -1 := by intro hh; rw [hh] at h1; exact h1 (digits_m1 A base hb n _)
      have hx := h.next hp (Nat.le_trans (scanDigits_ge A base n _ _) h2)
      rw [hx.1, hx.2, if_pos hd]
      exact Head.digits h base hb n _ _ h1 h2
    · rw [if_neg hd] at h1 h2 ⊢
      rw [if_neg hd]
theorem Head.braces {A B : ByteArray} {e : Nat} (h : Head A B e) : ∀ (f d : Nat) (t : St), (Go.Proofs.YtlbmojpmfgihlaaFmt.braces A f d t).1 ≠ -1 → (Go.Proofs.YtlbmojpmfgihlaaFmt.braces A f d t).2.eb ≤ e → Go.Proofs.YtlbmojpmfgihlaaFmt.braces B f d t = Go.Proofs.YtlbmojpmfgihlaaFmt.braces A f d t
  | 0, _, _, _, _ => rfl
  | f + 1, d, t, h1, h2 => by
    unfold Go.Proofs.YtlbmojpmfgihlaaFmt.braces at h1 h2 ⊢
    by_cases hp5 : peek A t = 125
    · rw [if_pos hp5] at h1 h2 ⊢
      by_cases hd : d = 0
      · rw [if_pos hd] at h1; exact absurd rfl h1
      · rw [if_neg hd] at h1 h2 ⊢
        have hx := h.next (t := t) (by rw [hp5]; decide) (Nat.le_trans (next_ge A _) h2)
        have hy := h.next (t := Go.Proofs.YtlbmojpmfgihlaaFmt.next A t) h1 h2
        rw [hx.1, hx.2, if_pos hp5, if_neg hd, hy.1, hy.2]
    · rw [if_neg hp5] at h1 h2 ⊢
      by_cases hd : 16 ≤ digitVal (peek A t)
      · rw [if_pos hd] at h1; exact absurd rfl h1
      · rw [if_neg hd] at h1 h2 ⊢
        by_cases h6 : 6 ≤ d
        · rw [if_pos h6] at h1; exact absurd rfl h1
        · rw [if_neg h6] at h1 h2 ⊢
          have hp : peek A t ≠ -1 := by intro hh; rw [hh, digitVal_end] at hd; exact hd (Int.le_refl _)
          have hx := h.next hp (Nat.le_trans (braces_ge A f _ _) h2)
          rw [hx.1, hx.2, if_neg hp5, if_neg hd, if_neg h6]
          exact Head.braces h f (d + 1) _ h1 h2
theorem Head.escape {A B : ByteArray} {e : Nat} (h : Head A B e) (quote : Int) (hq : quote ≠ -1) (t : St) (h1 : (scanEscape A quote t).1 ≠ -1) (h2 : (scanEscape A quote t).2.eb ≤ e) : scanEscape B quote t = scanEscape A quote t := by
  have hp : peek A t ≠ -1 := by
    intro hh
    by_cases hl : t.eb < A.size
    · have : 0 ≤ peek A t := by unfold peek; rw [if_pos hl]; exact rAt_nonneg A t.eb
      omega
    · exact h1 (scanEscape_end A quote t hq hl)
  have hx := h.next hp (Nat.le_trans (scanEscape_ge A quote t) h2)
  unfold scanEscape at h1 h2 ⊢
  dsimp only at h1 h2 ⊢
  rw [hx.1, hx.2]
  obtain ⟨c, hc⟩ : ∃ c, peek A t = c := ⟨_, rfl⟩
  obtain ⟨u, hu⟩ : ∃ u, Go.Proofs.YtlbmojpmfgihlaaFmt.next A t = u := ⟨_, rfl⟩
  rw [hc, hu] at h1 h2 ⊢
  have hd16 : ∀ n, (scanDigits A 16 n (peek A u) (Go.Proofs.YtlbmojpmfgihlaaFmt.next A u)).1 ≠ -1 → (scanDigits A 16 n (peek A u) (Go.Proofs.YtlbmojpmfgihlaaFmt.next A u)).2.eb ≤ e → scanDigits B 16 n (peek B u) (Go.Proofs.YtlbmojpmfgihlaaFmt.next B u) = scanDigits A 16 n (peek A u) (Go.Proofs.YtlbmojpmfgihlaaFmt.next A u) := by
    intro n g1 g2
    have hp1 : peek A u ≠ -1 := by intro hh; rw [hh] at g1; exact g1 (digits_m1 A 16 (by omega) n _)
    have hy := h.next hp1 (Nat.le_trans (scanDigits_ge A 16 n _ _) g2)
    rw [hy.1, hy.2]
    exact h.digits 16 (by omega) n _ _ g1 g2
  by_cases k1 : (isSimple c || decide (c = quote)) = true
  · rw [if_pos k1] at h1 h2 ⊢
    rw [if_pos k1]
    have hy := h.next (t := u) h1 h2
    rw [hy.1, hy.2]
  rw [if_neg k1] at h1 h2 ⊢
  rw [if_neg k1]
  by_cases k2 : 48 ≤ c ∧ c ≤ 55
  · rw [if_pos k2] at h1 h2 ⊢
    rw [if_pos k2]
    exact h.digits 8 (by omega) 3 _ _ h1 h2
  rw [if_neg k2] at h1 h2 ⊢
  rw [if_neg k2]
  by_cases k3 : c = 120
  · rw [if_pos k3] at h1 h2 ⊢
    rw [if_pos k3]
    exact hd16 2 h1 h2
  rw [if_neg k3] at h1 h2 ⊢
  rw [if_neg k3]
  by_cases k4 : c = 117
  · rw [if_pos k4] at h1 h2 ⊢
    rw [if_pos k4]
    by_cases k5 : peek A u = 123
    · rw [if_pos k5] at h1 h2 ⊢
      have hy := h.next (t := u) (by rw [k5]; decide) (Nat.le_trans (braces_ge A 7 _ _) h2)
      rw [hy.1, hy.2, if_pos k5]
      exact h.braces 7 0 _ h1 h2
    · rw [if_neg k5] at h1 h2 ⊢
      have hp1 : peek A u ≠ -1 := by intro hh; rw [hh] at h1; exact h1 (digits_m1 A 16 (by omega) 4 _)
      have hy := h.next hp1 (Nat.le_trans (scanDigits_ge A 16 4 _ _) h2)
      rw [if_neg (by rw [hy.1]; exact k5)]
      exact hd16 4 h1 h2
  rw [if_neg k4] at h1 h2 ⊢
  rw [if_neg k4]
  by_cases k6 : c = 85
  · rw [if_pos k6] at h1 h2 ⊢
    rw [if_pos k6]
    exact hd16 8 h1 h2
  · rw [if_neg k6, if_neg k6]

theorem scanStr_st (s : ByteArray) (quote : Int) (hq : quote ≠ -1) (n : Nat) (ch : Int) (t : St) : scanStr s quote hq n ch t = if ch = quote then (n, t) else if ch = 10 ∨ ch = -1 then (n, error t) else if ch = 92 then scanStr s quote hq (n + 1) (scanEscape s quote t).1 (scanEscape s quote t).2 else scanStr s quote hq (n + 1) (peek s t) (next s t) := by
  rw [scanStr]
  split
  · rfl
  · split <;> rfl
theorem scan_refl (s : ByteArray) (t : St) (ch : Int) : Scan s t ch t := ⟨rfl, rfl, rfl, rfl, rfl, Nat.le_refl _, Nat.le_refl _, id, id, fun e => ⟨e, fun h _ => h⟩⟩
theorem str_m1 {s : ByteArray} {quote : Int} {hq : quote ≠ -1} {n : Nat} {t : St} : (scanStr s quote hq n (-1) t).2.err ≠ none := by
  rw [scanStr_st, if_neg (fun e => hq e.symm), if_pos (.inr rfl)]
  exact error_ne t

/-- The rune in hand is the one that was read last. -/
def LastR (s : ByteArray) (ch : Int) (t : St) : Prop := ch = -1 ∨ ∃ i, i < s.size ∧ i + wAt s i = t.eb ∧ rAt s i = ch
theorem last_next (s : ByteArray) (t : St) : LastR s (peek s t) (next s t) := by
  by_cases h : t.eb < s.size
  · right
    refine ⟨t.eb, h, by rw [next_in h], by unfold peek; rw [if_pos h]⟩
  · exact .inl (peek_m1 h)
theorem LastR.error {s : ByteArray} {ch : Int} {t : St} (h : LastR s ch t) : LastR s ch (Go.Proofs.YtlbmojpmfgihlaaFmt.error t) := by
  unfold LastR
  rw [error_eb]
  exact h
theorem last_digits (s : ByteArray) (base : Int) : ∀ (n : Nat) (ch : Int) (t : St), LastR s ch t → LastR s (scanDigits s base n ch t).1 (scanDigits s base n ch t).2
  | 0, _, _, h => h
  | n + 1, ch, t, h => by
    unfold scanDigits
    split
    · exact last_digits s base n _ _ (last_next s t)
    · exact h.error
theorem last_braces (s : ByteArray) : ∀ (f d : Nat) (t : St), LastR s (braces s f d t).1 (braces s f d t).2
  | 0, _, _ => .inl rfl
  | f + 1, d, t => by
    unfold braces
    split
    · split
      · exact .inl rfl
      · exact last_next s _
    · split
      · exact .inl rfl
      · split
        · exact .inl rfl
        · exact last_braces s f _ _
theorem last_escape (s : ByteArray) (quote : Int) (t : St) : LastR s (scanEscape s quote t).1 (scanEscape s quote t).2 := by
  unfold scanEscape
  dsimp only
  split
  · exact last_next s _
  · split
    · exact last_digits s _ _ _ _ (last_next s _)
    · split
      · exact last_digits s _ _ _ _ (last_next s _)
      · split
        · split
          · exact last_braces s _ _ _
          · exact last_digits s _ _ _ _ (last_next s _)
        · split
          · exact last_digits s _ _ _ _ (last_next s _)
          · exact (last_next s _).error

/-- What is said of an accepted text: its last rune is the quote, every unit took a byte at least, and another text with the same head is read alike. -/
theorem str_said (A : ByteArray) (quote : Int) (hq : quote ≠ -1) : ∀ (g n : Nat) (ch : Int) (t : St), togo A ch t < g → LastR A ch t → (scanStr A quote hq n ch t).2.err = none →
    LastR A quote (scanStr A quote hq n ch t).2 ∧ (scanStr A quote hq n ch t).1 + t.eb ≤ n + (scanStr A quote hq n ch t).2.eb ∧ (∀ B e, Head A B e → (scanStr A quote hq n ch t).2.eb ≤ e → scanStr B quote hq n ch t = scanStr A quote hq n ch t)
  | 0, _, _, _, h, _, _ => absurd h (Nat.not_lt_zero _)
  | g + 1, n, ch, t, hg, hL, he => by
    have hst := scanStr_st A quote hq n ch t
    by_cases h1 : ch = quote
    · rw [if_pos h1] at hst
      rw [hst]
      refine ⟨by rw [← h1]; exact hL, Nat.le_refl _, fun B e _ _ => ?_⟩
      rw [scanStr_st, if_pos h1]
    · rw [if_neg h1] at hst
      by_cases h2 : ch = 10 ∨ ch = -1
      · rw [if_pos h2] at hst
        rw [hst] at he
        exact absurd he (error_ne t)
      · rw [if_neg h2] at hst
        have hcm : ch ≠ -1 := fun e => h2 (.inr e)
        by_cases h3 : ch = 92
        · rw [if_pos h3] at hst
          rw [hst] at he ⊢
          have hc : (scanEscape A quote t).1 ≠ -1 := by intro hh; rw [hh] at he; exact str_m1 he
          have hto := togo_escape A quote ch t hq hcm
          obtain ⟨i1, i2, i3⟩ := str_said A quote hq g (n + 1) _ _ (by omega) (last_escape A quote t) he
          have hgt : t.eb + 1 ≤ (scanEscape A quote t).2.eb := by
            by_cases hl : t.eb < A.size
            · exact Nat.le_trans (next_gt hl) (scanEscape_ge A quote t)
            · exact absurd (scanEscape_end A quote t hq hl) hc
          refine ⟨i1, by omega, fun B e hB hle => ?_⟩
          have hge := (scan_str A quote hq (n + 1) _ _ (scan_refl A (scanEscape A quote t).2 (scanEscape A quote t).1)).ge
          rw [scanStr_st, if_neg h1, if_neg h2, if_pos h3, hB.escape quote hq t hc (Nat.le_trans hge hle)]
          exact i3 B e hB hle
        · rw [if_neg h3] at hst
          rw [hst] at he ⊢
          have hc : peek A t ≠ -1 := by intro hh; rw [hh] at he; exact str_m1 he
          have hto := togo_next A ch t hcm
          obtain ⟨i1, i2, i3⟩ := str_said A quote hq g (n + 1) _ _ (by omega) (last_next A t) he
          have hgt := next_gt (peek_lt hc)
          refine ⟨i1, by omega, fun B e hB hle => ?_⟩
          have hge := (scan_str A quote hq (n + 1) _ _ (scan_refl A (next A t) (peek A t))).ge
          have hx := hB.next hc (Nat.le_trans hge hle)
          rw [scanStr_st, if_neg h1, if_neg h2, if_neg h3, hx.1, hx.2]
          exact i3 B e hB hle

end Go.Proofs.YtlbmojpmfgihlaaFmt
