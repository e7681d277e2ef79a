/-
  n003_49's laws in plain Lean: letters in upper case; ten runes; where an error is put. No program stands in this text.
-/
import Derived.Test.YtlbmojpmfgihlaaFmtBd
import Derived.Test.YtlbmojpmfgihlaaFmtSteps
namespace Go.Proofs.YtlbmojpmfgihlaaFmt
open Go Go.Lib

/-! ### upper case -/
def up8 (b : UInt8) : UInt8 := if 97 ≤ b.toNat ∧ b.toNat ≤ 122 then b - 32 else b
def upR (r : Int) : Int := if 97 ≤ r ∧ r ≤ 122 then r - 32 else r
def upperS (s : ByteArray) : ByteArray := ⟨s.data.map up8⟩
theorem upper_size (s : ByteArray) : (upperS s).size = s.size := (Array.size_map : (s.data.map up8).size = s.data.size)
theorem up8_nat (b : UInt8) : (up8 b).toNat = if 97 ≤ b.toNat ∧ b.toNat ≤ 122 then b.toNat - 32 else b.toNat := by
  unfold up8
  have hb := b.toNat_lt
  split
  · rename_i h
    rw [UInt8.toNat_sub]
    have e : (32 : UInt8).toNat = 32 := rfl
    rw [e]
    omega
  · rfl
theorem byt_upper {s : ByteArray} {k : Nat} (h : k < s.size) : byt (upperS s) k = if 97 ≤ byt s k ∧ byt s k ≤ 122 then byt s k - 32 else byt s k := by
  rw [byt_of (s := upperS s) (k := k) (by rw [upper_size]; exact h), byt_of h, ← up8_nat]
  have h' : k < (s.data.map up8).size := by rw [Array.size_map]; exact h
  show ((s.data.map up8)[k]'h').toNat = _
  rw [Array.getElem_map]
  rfl
theorem byt_upper_hi {s : ByteArray} {k : Nat} (h : k < s.size) (h8 : 128 ≤ byt s k) : byt (upperS s) k = byt s k := by rw [byt_upper h, if_neg (by omega)]
theorem byt_upper_hi' {s : ByteArray} {k : Nat} (h : k < s.size) (h8 : 128 ≤ byt (upperS s) k) : byt (upperS s) k = byt s k := by
  rw [byt_upper h] at h8 ⊢
  split
  · rename_i h2; rw [if_pos h2] at h8; omega
  · rfl
theorem dec_upper {s : ByteArray} {i : Nat} (h : i < s.size) : wAt (upperS s) i = wAt s i ∧ rAt (upperS s) i = upR (rAt s i) := by
  have hsz := upper_size s
  by_cases h8 : byt s i < 128
  · have hb := byt_upper h
    have hB : byt (upperS s) i < 128 := by rw [hb]; split <;> omega
    refine ⟨by rw [(dec1 h8).2, (dec1 hB).2], ?_⟩
    rw [(dec1 h8).1, (dec1 hB).1, hb]
    unfold upR
    split <;> split <;> omega
  · have hbe := byt_upper_hi h (by omega)
    have hup : ∀ r : Int, 128 ≤ r → upR r = r := fun r hr => by unfold upR; rw [if_neg (by omega)]
    have hr8 : 128 ≤ rAt s i := rAt_high h (by rw [← byt_of h]; omega)
    rw [hup _ hr8]
    by_cases hw : 2 ≤ wAt s i
    · have hin := wide_in hw
      exact wide_same (A := s) (B := upperS s) (i := i) (j := i) hw (fun k hk => byt_upper_hi (by omega) (wide_bytes hw hk)) (by omega)
    · have p1 := wAt_pos s i h
      have p2 := wAt_pos (upperS s) i (by omega)
      by_cases hw2 : 2 ≤ wAt (upperS s) i
      · have hin := wide_in hw2
        have := wide_same (A := upperS s) (B := s) (i := i) (j := i) hw2 (fun k hk => (byt_upper_hi' (by omega) (wide_bytes hw2 hk)).symm) (by omega)
        omega
      · exact ⟨by omega, by rw [rAt_one (s := s) (by omega) (by omega), rAt_one (s := upperS s) (by omega) (by omega)]⟩
theorem upR_m1 : upR (-1) = -1 := by decide
theorem peek_upper (s : ByteArray) (t : St) : peek (upperS s) t = upR (peek s t) := by
  have hsz := upper_size s
  unfold peek
  by_cases h : t.eb < s.size
  · rw [if_pos h, if_pos (by omega), (dec_upper h).2]
  · rw [if_neg h, if_neg (by omega), upR_m1]
theorem next_upper (s : ByteArray) (t : St) : next (upperS s) t = next s t := by
  have hsz := upper_size s
  by_cases h : t.eb < s.size
  · rw [next_in h, next_in (by omega), (dec_upper h).1]
  · rw [next_end h, next_end (by omega)]
theorem digitVal_upper (r : Int) : digitVal (upR r) = digitVal r := by
  unfold upR
  by_cases h : 97 ≤ r ∧ r ≤ 122
  · rw [if_pos h]
    unfold digitVal
    by_cases h2 : r ≤ 102
    · rw [if_neg (by omega), if_neg (by omega), if_pos (by omega), if_neg (by omega), if_pos (by omega)]; omega
    · rw [if_neg (by omega), if_neg (by omega), if_neg (by omega), if_neg (by omega), if_neg (by omega), if_neg (by omega)]
  · rw [if_neg h]
theorem scanDigits_upper (s : ByteArray) (base : Int) : ∀ (n : Nat) (ch : Int) (t : St), scanDigits (upperS s) base n (upR ch) t = (upR (scanDigits s base n ch t).1, (scanDigits s base n ch t).2)
  | 0, _, _ => rfl
  | n + 1, ch, t => by
    unfold scanDigits
    rw [digitVal_upper]
    split
    · rw [peek_upper, next_upper]
      exact scanDigits_upper s base n _ _
    · rfl

/-! ### where an error is put -/
theorem eof_next (s : ByteArray) (t : St) : (next s t).eof = (t.eof || decide (¬ t.eb < s.size)) := by
  by_cases h : t.eb < s.size
  · rw [next_in h]; simp [h]
  · rw [next_end h]; simp; right; omega
theorem nextN_eof (s : ByteArray) : ∀ k, (nextN s k start).eof = decide (runes s < k) := by
  intro k
  induction k with
  | zero => show false = _; simp
  | succ k ih =>
    rw [nextN_snoc, eof_next, ih]
    have h1 := offs_min s k
    have hr := offs_runes s
    by_cases h : runes s < k
    · have : decide (runes s < k) = true := by simpa using h
      rw [this]; simp; omega
    · by_cases h2 : k = runes s
      · subst h2
        change (nextN s (runes s) start).eb = s.size at hr
        rw [hr]; simp
      · have hlt : (nextN s k start).eb < s.size := by
          show offs s k < s.size
          have hle := offs_le s k
          by_cases h3 : offs s k < s.size
          · exact h3
          · have := cnts_all s k h3
            rw [cnts_min] at this
            omega
        simp [hlt]; omega
theorem err_place (s : ByteArray) (k : Nat) : (error (nextN s k start)).err = some (if k ≤ runes s then ((k : Int) - 1, (k : Int)) else ((runes s : Int), (runes s : Int) + 1)) := by
  have he : (nextN s k start).err = none := (nextN_q s k start).2.1
  have her : (nextN s k start).er = min k (runes s) := cnts_min s k
  have hf := nextN_eof s k
  unfold error
  rw [he, hf, her]
  by_cases h : k ≤ runes s
  · have h2 : ¬ runes s < k := by omega
    simp [h, h2]
  · have h2 : runes s < k := by omega
    simp [h, h2]
    omega
theorem error_stay {t : St} (h : t.err ≠ none) : error t = t := by
  have : t.err.isSome = true := by
    cases hx : t.err with
    | none => exact absurd hx h
    | some x => rfl
  unfold error
  rw [if_pos this]
theorem error_twice {s : ByteArray} {t : St} (k : Nat) : error (nextN s k (error t)) = nextN s k (error t) :=
  error_stay (by rw [(nextN_q s k (error t)).2.1]; exact error_ne t)

/-! ### ten runes -/
/-- A and B read alike at all places before e. -/
structure Alike (A B : ByteArray) (n : Nat) : Prop where
  same : ∀ i m, Bd A i m → m < n → i < A.size ∧ i < B.size ∧ wAt B i = wAt A i ∧ rAt B i = rAt A i
theorem Alike.nx {A B : ByteArray} {n : Nat} (h : Alike A B n) {t : St} (hb : Bd A t.eb t.er) (hn : t.er < n) : peek B t = peek A t ∧ next B t = next A t ∧ Bd A (next A t).eb (next A t).er ∧ (next A t).er = t.er + 1 := by
  obtain ⟨h1, h2, h3, h4⟩ := h.same _ _ hb hn
  refine ⟨by unfold peek; rw [if_pos h1, if_pos h2, h4], by rw [next_in h1, next_in h2, h3], ?_, by rw [next_in h1]⟩
  rw [next_in h1]
  exact hb.step h1
theorem Alike.dg {A B : ByteArray} {n : Nat} (h : Alike A B n) (base : Int) : ∀ (k : Nat) (ch : Int) (t : St), Bd A t.eb t.er → t.er + k ≤ n → scanDigits B base k ch t = scanDigits A base k ch t ∧ (scanDigits A base k ch t).2.er ≤ n
  | 0, _, t, _, hn => ⟨rfl, by show t.er ≤ n; omega⟩
  | k + 1, ch, t, hb, hn => by
    obtain ⟨h1, h2, h3, h4⟩ := h.nx hb (by omega)
    unfold scanDigits
    split
    · rw [h1, h2]
      exact Alike.dg h base k _ _ h3 (by omega)
    · refine ⟨rfl, ?_⟩
      have : (error t).er = t.er := (error_same t).2.2.2.2.2.1
      show (error t).er ≤ n
      omega
theorem Alike.br {A B : ByteArray} {n : Nat} (h : Alike A B n) : ∀ (f d : Nat) (t : St), Bd A t.eb t.er → d ≤ 6 → t.er + (6 - d) + 2 ≤ n → braces B f d t = braces A f d t ∧ (braces A f d t).2.er ≤ n
  | 0, _, t, _, _, hn => ⟨rfl, by show t.er ≤ n; omega⟩
  | f + 1, d, t, hb, hd, hn => by
    obtain ⟨h1, h2, h3, h4⟩ := h.nx hb (by omega)
    have her : (error t).er = t.er := (error_same t).2.2.2.2.2.1
    unfold braces
    rw [h1, h2]
    split
    · split
      · exact ⟨rfl, by show (error t).er ≤ n; omega⟩
      · obtain ⟨g1, g2, g3, g4⟩ := h.nx h3 (by omega)
        rw [g1, g2]
        exact ⟨rfl, by show (next A (next A t)).er ≤ n; omega⟩
    · split
      · exact ⟨rfl, by show (error t).er ≤ n; omega⟩
      · split
        · exact ⟨rfl, by show (error t).er ≤ n; omega⟩
        · exact Alike.br h f (d + 1) _ h3 (by omega) (by omega)
theorem Alike.escape {A B : ByteArray} (h : Alike A B 10) (quote : Int) : scanEscape B quote start = scanEscape A quote start ∧ (scanEscape A quote start).2.er ≤ 10 := by
  have hb0 : Bd A start.eb start.er := .zero
  obtain ⟨a1, a2, a3, a4⟩ := h.nx (t := start) hb0 (by decide)
  have a5 : (next A start).er = 1 := a4
  obtain ⟨b1, b2, b3, b4⟩ := h.nx (t := next A start) a3 (by omega)
  have her : ∀ t : St, (error t).er = t.er := fun t => (error_same t).2.2.2.2.2.1
  unfold scanEscape
  dsimp only
  rw [a1, a2, b1, b2]
  split
  · exact ⟨rfl, by show (next A (next A start)).er ≤ 10; omega⟩
  · split
    · exact h.dg 8 3 _ _ a3 (by omega)
    · split
      · exact h.dg 16 2 _ _ b3 (by omega)
      · split
        · split
          · exact h.br 7 0 _ b3 (by omega) (by omega)
          · exact h.dg 16 4 _ _ b3 (by omega)
        · split
          · exact h.dg 16 8 _ _ b3 (by omega)
          · exact ⟨rfl, by show (error (next A start)).er ≤ 10; rw [her]; omega⟩

theorem dec_eq {A B : ByteArray} {i : Nat} (h0 : byt B i = byt A i) (h1 : byt B (i + 1) = byt A (i + 1)) (h2 : byt B (i + 2) = byt A (i + 2)) (h3 : byt B (i + 3) = byt A (i + 3)) (ha : i + 3 < A.size) (hb : i + 3 < B.size) : wAt B i = wAt A i ∧ rAt B i = rAt A i := by
  by_cases g1 : byt A i < 128
  · have e1 := dec1 (s := A) (i := i) g1
    have e2 := dec1 (s := B) (i := i) (by omega)
    exact ⟨by omega, by rw [e1.1, e2.1, h0]⟩
  have p1 := wAt_pos A i (by omega)
  have p2 := wAt_pos B i (by omega)
  have l1 := wAt_le4 A i
  have l2 := wAt_le4 B i
  by_cases hw : 2 ≤ wAt A i
  · exact wide_same (A := A) (B := B) (i := i) (j := i) hw (fun k hk => by
      have : k = 0 ∨ k = 1 ∨ k = 2 ∨ k = 3 := by omega
      rcases this with rfl | rfl | rfl | rfl
      · exact h0
      · exact h1
      · exact h2
      · exact h3) (by omega)
  · by_cases hw2 : 2 ≤ wAt B i
    · have := wide_same (A := B) (B := A) (i := i) (j := i) hw2 (fun k hk => by
        have : k = 0 ∨ k = 1 ∨ k = 2 ∨ k = 3 := by omega
        rcases this with rfl | rfl | rfl | rfl
        · exact h0.symm
        · exact h1.symm
        · exact h2.symm
        · exact h3.symm) (by omega)
      omega
    · exact ⟨by omega, by rw [rAt_one (s := A) (by omega) (by omega), rAt_one (s := B) (by omega) (by omega)]⟩
/-- The tenth rune ends three bytes ahead of the end. -/
theorem alike_ten {s : ByteArray} (t : ByteArray) {e : Nat} (h10 : Bd s e 10) (he : e + 3 ≤ s.size) : Alike s (s ++ t) 10 := by
  refine ⟨fun i m hb hm => ?_⟩
  have hlt := Bd.lt_of hb h10 hm
  have hsz : (s ++ t).size = s.size + t.size := ByteArray.size_append
  have hd := dec_eq (A := s) (B := s ++ t) (i := i) (byt_l (by omega)) (byt_l (by omega)) (byt_l (by omega)) (byt_l (by omega)) (by omega) (by omega)
  exact ⟨by omega, by omega, hd⟩

end Go.Proofs.YtlbmojpmfgihlaaFmt
