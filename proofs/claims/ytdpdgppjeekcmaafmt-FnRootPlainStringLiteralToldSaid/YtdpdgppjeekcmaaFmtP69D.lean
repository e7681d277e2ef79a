/-
  A text doubled reads back as itself. No program stands in this text.
-/
import Derived.Test.YtdpdgppjeekcmaaFmtP69R
namespace Go.Proofs.YtdpdgppjeekcmaaFmt
open Go Go.Lib

theorem drop_cons {s : ByteArray} {x : Nat} {a : UInt8} {l : List UInt8} (h : s.data.toList.drop x = a :: l) : x < s.size ∧ byt s x = a.toNat ∧ s.data.toList.drop (x + 1) = l := by
  have hs := Lib.size_eq s
  have hx : x < s.data.toList.length := by
    rcases Nat.lt_or_ge x s.data.toList.length with h' | h'
    · exact h'
    · rw [List.drop_eq_nil_of_le h'] at h; cases h
  rw [List.drop_eq_getElem_cons hx] at h
  injection h with h1 h2
  refine ⟨by omega, ?_, h2⟩
  rw [byt_of (by omega), ← h1]
  rfl
theorem drop_get {s : ByteArray} {x : Nat} (h : x < s.size) : s.data.toList.drop x = s[x]'h :: s.data.toList.drop (x + 1) := by
  have hl : x < s.data.toList.length := by have := Lib.size_eq s; omega
  rw [List.drop_eq_getElem_cons hl]
  rfl
theorem drop_nil {s : ByteArray} {x : Nat} (h : ¬ x < s.size) : s.data.toList.drop x = [] := List.drop_eq_nil_of_le (by have := Lib.size_eq s; omega)
/-- A rune's bytes, and what follows. -/
theorem drop_rune {s : ByteArray} {i : Nat} (_h : i < s.size) : s.data.toList.drop i = (s.extract i (i + wAt s i)).data.toList ++ s.data.toList.drop (i + wAt s i) := by
  rw [Lib.extract_data, show i + wAt s i - i = wAt s i by omega, ← List.drop_drop, List.take_append_drop]
theorem rune_mem {s : ByteArray} {i e : Nat} (he : e ≤ s.size) {b : UInt8} (hb : b ∈ (s.extract i e).data.toList) : ∃ x, i ≤ x ∧ x < e ∧ byt s x = b.toNat := by
  obtain ⟨k, hk, e1⟩ := List.getElem_of_mem hb
  have hlen : (s.extract i e).data.toList.length = e - i := by
    rw [Lib.extract_data, List.length_take, List.length_drop]
    have := Lib.size_eq s
    omega
  refine ⟨i + k, by omega, by omega, ?_⟩
  rw [byt_of (by omega), ← e1]
  congr 1
  simp
  rfl
/-- No backtick stands in a rune that is none. -/
theorem rune_no96 {s : ByteArray} {i : Nat} (h : i < s.size) (h96 : byt s i ≠ 96) : ∀ b ∈ (s.extract i (i + wAt s i)).data.toList, b ≠ 96 := by
  intro b hb e
  obtain ⟨x, x1, x2, x3⟩ := rune_mem (wAt_le s i h) hb
  rw [e] at x3
  have e96 : (96 : UInt8).toNat = 96 := rfl
  by_cases hx : x = i
  · subst hx; omega
  · have := (inside (A := s) (i := i) (k := x - i) (by omega) (by omega)).1
    rw [show i + (x - i) = x by omega] at this
    omega

/-- Runes that are no backticks, and backticks, from byte i on. -/
def nonq (s : ByteArray) (i : Nat) : Nat := if _h : i < s.size then nonq s (i + wAt s i) + (if byt s i = 96 then 0 else 1) else 0
termination_by s.size - i
decreasing_by have := wAt_pos s i _h; omega
def cq (s : ByteArray) (i : Nat) : Nat := if _h : i < s.size then cq s (i + wAt s i) + (if byt s i = 96 then 1 else 0) else 0
termination_by s.size - i
decreasing_by have := wAt_pos s i _h; omega
theorem nonq_end {s : ByteArray} {i : Nat} (h : ¬ i < s.size) : nonq s i = 0 := by rw [nonq, dif_neg h]
theorem cq_end {s : ByteArray} {i : Nat} (h : ¬ i < s.size) : cq s i = 0 := by rw [cq, dif_neg h]
theorem nonq_step {s : ByteArray} {i : Nat} (h : i < s.size) : nonq s i = nonq s (i + wAt s i) + (if byt s i = 96 then 0 else 1) := by rw [nonq, dif_pos h]
theorem cq_step {s : ByteArray} {i : Nat} (h : i < s.size) : cq s i = cq s (i + wAt s i) + (if byt s i = 96 then 1 else 0) := by rw [cq, dif_pos h]
theorem nonq_cq (s : ByteArray) : ∀ (k i : Nat), s.size - i = k → nonq s i + cq s i = runesTo s i := by
  intro k
  induction k using Nat.strongRecOn with
  | _ k ih =>
  intro i hk
  by_cases h : i < s.size
  · have hw := wAt_pos s i h
    have := ih (s.size - (i + wAt s i)) (by omega) _ rfl
    rw [nonq_step h, cq_step h, runesTo_step h]
    split <;> omega
  · rw [nonq_end h, cq_end h, runesTo_end h]
theorem count_no {l : List UInt8} (h : ∀ b ∈ l, b ≠ 96) : l.count 96 = 0 := by
  rw [List.count_eq_zero]
  intro hm
  exact h 96 hm rfl
theorem cq_count (s : ByteArray) : ∀ (k i : Nat), s.size - i = k → cq s i = (s.data.toList.drop i).count 96 := by
  intro k
  induction k using Nat.strongRecOn with
  | _ k ih =>
  intro i hk
  by_cases h : i < s.size
  · have hw := wAt_pos s i h
    have h2 := ih (s.size - (i + wAt s i)) (by omega) _ rfl
    rw [cq_step h, drop_rune h, List.count_append, h2]
    by_cases h96 : byt s i = 96
    · have hw1 := (dec1 (s := s) (i := i) (by omega)).2
      have e : s[i]'h = 96 := by rw [byt_of h] at h96; exact UInt8.toNat_inj.1 h96
      have hx : (s.extract i (i + wAt s i)).data.toList = [96] := by
        rw [Lib.extract_data, hw1, show i + 1 - i = 1 by omega, drop_get h, e]
        rfl
      rw [hx, if_pos h96]
      show _ = 1 + _
      omega
    · rw [if_neg h96, count_no (rune_no96 h h96)]
      omega
  · rw [cq_end h, drop_nil h]
    rfl

/-- Valid UTF-8: no byte beyond ASCII stands alone. -/
def ValidU (t : ByteArray) : Prop := ∀ i m, Bd t i m → i < t.size → 128 ≤ byt t i → 2 ≤ wAt t i

theorem app_get {a b : List UInt8} {k : Nat} (h : k < a.length) : (a ++ b)[k]? = a[k]? := List.getElem?_append_left h
/-- The width of a rune that lies in another text too, followed by whatever (valid), or by ASCII. -/
theorem rune_there {t B : ByteArray} {i x : Nat} {l : List UInt8} (h : i < t.size) (hv : 128 ≤ byt t i → 2 ≤ wAt t i) (hd : B.data.toList.drop x = (t.extract i (i + wAt t i)).data.toList ++ l) : x + wAt t i ≤ B.size ∧ byt B x = byt t i ∧ wAt B x = wAt t i ∧ B.data.toList.drop (x + wAt t i) = l ∧ oneOut B x = (t.extract i (i + wAt t i)).data.toList := by
  have hwl := wAt_le t i h
  have hwp := wAt_pos t i h
  have hts := Lib.size_eq t
  have hBs := Lib.size_eq B
  have hlen : (t.extract i (i + wAt t i)).data.toList.length = wAt t i := by
    rw [Lib.extract_data, List.length_take, List.length_drop]; omega
  have hle : x + wAt t i ≤ B.size := by
    have := congrArg List.length hd
    rw [List.length_drop, List.length_append, hlen] at this
    omega
  have hb : ∀ k, k < wAt t i → byt B (x + k) = byt t (i + k) := by
    intro k hk
    rw [byt_of (by omega), byt_of (by omega)]
    have e1 : (B.data.toList.drop x)[k]? = ((t.extract i (i + wAt t i)).data.toList ++ l)[k]? := by rw [hd]
    rw [app_get (by omega), List.getElem?_drop, Lib.extract_data, List.getElem?_take_of_lt (by omega), List.getElem?_drop, List.getElem?_eq_getElem (by omega), List.getElem?_eq_getElem (by omega)] at e1
    injection e1 with e1
    have a1 : B.data.toList[x + k]'(by omega) = B[x + k]'(by omega) := rfl
    have a2 : t.data.toList[i + k]'(by omega) = t[i + k]'(by omega) := rfl
    rw [a1, a2] at e1
    rw [e1]
  have hb0 : byt B x = byt t i := hb 0 hwp
  have hw : wAt B x = wAt t i := by
    by_cases h2 : 2 ≤ wAt t i
    · exact (wide_same (A := t) (B := B) (i := i) (j := x) h2 hb hle).1
    · have h8 : byt t i < 128 := by
        rcases Nat.lt_or_ge (byt t i) 128 with h8 | h8
        · exact h8
        · exact absurd (hv h8) h2
      rw [(dec1 h8).2, (dec1 (s := B) (i := x) (by omega)).2]
  have hrest : B.data.toList.drop (x + wAt t i) = l := by
    rw [← List.drop_drop, hd]
    have := List.drop_left (l₁ := (t.extract i (i + wAt t i)).data.toList) (l₂ := l)
    rw [hlen] at this
    exact this
  refine ⟨hle, hb0, hw, hrest, ?_⟩
  unfold oneOut
  rw [hw, hb0, if_neg (fun hh => by have := hv hh.1; omega), Lib.extract_data, show x + wAt t i - x = wAt t i by omega, hd]
  have := List.take_left (l₁ := (t.extract i (i + wAt t i)).data.toList) (l₂ := l)
  rw [hlen] at this
  exact this

/-- The scan of a doubled text. -/
theorem dbl_scan {t body : ByteArray} {rest : List UInt8} (hv : ValidU t) (hr : rest.head? ≠ some 96) :
    ∀ (k i m : Nat), t.size - i = k → Bd t i m → ∀ (x n p : Nat), body.data.toList.drop x = dbl (t.data.toList.drop i) ++ 96 :: rest → rawM body x n p = (true, n + nonq t i, x + (dbl (t.data.toList.drop i)).length, p + cq t i) := by
  intro k
  induction k using Nat.strongRecOn with
  | _ k ih =>
  intro i m hk hb x n p hd
  by_cases hl : i < t.size
  · by_cases h96 : byt t i = 96
    · have e : t[i]'hl = 96 := by rw [byt_of hl] at h96; exact UInt8.toNat_inj.1 h96
      have hw1 := (dec1 (s := t) (i := i) (by omega)).2
      have hdl : dbl (t.data.toList.drop i) = 96 :: 96 :: dbl (t.data.toList.drop (i + 1)) := by rw [drop_get hl, e, dbl, if_pos rfl]
      rw [hdl] at hd ⊢
      obtain ⟨a1, a2, a3⟩ := drop_cons hd
      obtain ⟨b1, b2, b3⟩ := drop_cons a3
      have hb1 := hb.step hl
      rw [hw1] at hb1
      have hih := ih (t.size - (i + 1)) (by omega) (i + 1) (m + 1) rfl hb1 (x + 2) n (p + 1) b3
      rw [rawM_pair b1 a2 b2, hih, nonq_step hl, cq_step hl, hw1, if_pos h96, if_pos h96]
      simp only [List.length_cons]
      congr 1
      congr 1
      congr 1
      · omega
      · omega
    · have hw := wAt_pos t i hl
      have hwl := wAt_le t i hl
      have hdl : dbl (t.data.toList.drop i) = (t.extract i (i + wAt t i)).data.toList ++ dbl (t.data.toList.drop (i + wAt t i)) := by rw [drop_rune hl, dbl_append, dbl_none (rune_no96 hl h96)]
      rw [hdl, List.append_assoc] at hd
      obtain ⟨c1, c2, c3, c4, _⟩ := rune_there hl (hv i m hb hl) hd
      have hlen : (t.extract i (i + wAt t i)).data.toList.length = wAt t i := by
        rw [Lib.extract_data, List.length_take, List.length_drop]; have := Lib.size_eq t; omega
      have hih := ih (t.size - (i + wAt t i)) (by omega) (i + wAt t i) (m + 1) rfl (hb.step hl) (x + wAt t i) (n + 1) p c4
      rw [rawM_step (by omega) (by omega), c3, hih, nonq_step hl, cq_step hl, if_neg h96, if_neg h96, hdl, List.length_append, hlen]
      congr 1
      congr 1
      · omega
      · congr 1
        omega
  · have hdl : dbl (t.data.toList.drop i) = [] := by rw [drop_nil hl]; rfl
    rw [hdl, List.nil_append] at hd
    obtain ⟨a1, a2, a3⟩ := drop_cons hd
    rw [rawM_stop a1 a2 (fun h => by
      have := drop_get h.1
      rw [a3] at this
      apply hr
      rw [this]
      have e : body[x + 1]'h.1 = 96 := by have := h.2; rw [byt_of h.1] at this; exact UInt8.toNat_inj.1 this
      rw [e]
      rfl), nonq_end hl, cq_end hl, hdl]
    rfl
/-- Its value. -/
theorem dbl_value {t C : ByteArray} (hv : ValidU t) : ∀ (k i m : Nat), t.size - i = k → Bd t i m → ∀ (x : Nat), C.data.toList.drop x = dbl (t.data.toList.drop i) → unpGo C x = t.data.toList.drop i := by
  intro k
  induction k using Nat.strongRecOn with
  | _ k ih =>
  intro i m hk hb x hd
  by_cases hl : i < t.size
  · by_cases h96 : byt t i = 96
    · have e : t[i]'hl = 96 := by rw [byt_of hl] at h96; exact UInt8.toNat_inj.1 h96
      have hw1 := (dec1 (s := t) (i := i) (by omega)).2
      have hdl : dbl (t.data.toList.drop i) = 96 :: 96 :: dbl (t.data.toList.drop (i + 1)) := by rw [drop_get hl, e, dbl, if_pos rfl]
      rw [hdl] at hd
      obtain ⟨a1, a2, a3⟩ := drop_cons hd
      obtain ⟨b1, b2, b3⟩ := drop_cons a3
      have hb1 := hb.step hl
      rw [hw1] at hb1
      rw [unpGo_q a1 a2, ih (t.size - (i + 1)) (by omega) (i + 1) (m + 1) rfl hb1 (x + 2) b3, drop_get hl, e]
    · have hw := wAt_pos t i hl
      have hwl := wAt_le t i hl
      have hdl : dbl (t.data.toList.drop i) = (t.extract i (i + wAt t i)).data.toList ++ dbl (t.data.toList.drop (i + wAt t i)) := by rw [drop_rune hl, dbl_append, dbl_none (rune_no96 hl h96)]
      rw [hdl] at hd
      obtain ⟨c1, c2, c3, c4, c5⟩ := rune_there hl (hv i m hb hl) hd
      have hih := ih (t.size - (i + wAt t i)) (by omega) (i + wAt t i) (m + 1) rfl (hb.step hl) (x + wAt t i) c4
      rw [unpGo_step (by omega) (by omega), c3, hih, c5, ← drop_rune hl]
  · have hdl : dbl (t.data.toList.drop i) = [] := by rw [drop_nil hl]; rfl
    rw [hdl] at hd
    have hx : ¬ x < C.size := fun h => by rw [drop_get h] at hd; cases hd
    rw [unpGo_end hx, drop_nil hl]

/-- The scan of a text without backticks, valid or not. -/
theorem plain_scan {t body : ByteArray} {rest : List UInt8} (hn : ∀ x, x < t.size → byt t x ≠ 96) (hr : rest.head? ≠ some 96) (hb : body.data.toList = t.data.toList ++ 96 :: rest) :
    ∀ (k i n p : Nat), t.size - i = k → i ≤ t.size → rawM body i n p = (true, n + runesTo t i, t.size, p) := by
  have hts := Lib.size_eq t
  have hbd : body = t ++ ⟨(96 :: rest).toArray⟩ := by
    apply ByteArray.ext
    apply Array.ext'
    rw [toList_app, hb]
  have hB0 : byt (⟨(96 :: rest).toArray⟩ : ByteArray) 0 = 96 := by
    rw [byt_of (by show 0 < (96 :: rest).toArray.size; simp)]
    rfl
  intro k
  induction k using Nat.strongRecOn with
  | _ k ih =>
  intro i n p hk hle
  by_cases hl : i < t.size
  · have hw := wAt_pos t i hl
    have hwl := wAt_le t i hl
    have h1 : byt body i = byt t i := by rw [hbd, byt_l hl]
    have h2 : wAt body i = wAt t i := by rw [hbd]; exact (dec_prefix (fun _ => by omega) hl).1
    have hbs : i < body.size := by rw [hbd, ByteArray.size_append]; omega
    rw [rawM_step hbs (by rw [h1]; exact hn i hl), h2, ih (t.size - (i + wAt t i)) (by omega) (i + wAt t i) (n + 1) p rfl hwl, runesTo_step hl]
    congr 1
    congr 1
    omega
  · have hi : i = t.size := by omega
    subst hi
    have hd : body.data.toList.drop t.size = 96 :: rest := by rw [hb, hts, List.drop_left]
    obtain ⟨a1, a2, a3⟩ := drop_cons hd
    rw [rawM_stop a1 a2 (fun h => by
      have := drop_get h.1
      rw [a3] at this
      apply hr
      rw [this]
      have e : body[t.size + 1]'h.1 = 96 := by have := h.2; rw [byt_of h.1] at this; exact UInt8.toNat_inj.1 this
      rw [e]
      rfl), runesTo_end hl]
    rfl

end Go.Proofs.YtdpdgppjeekcmaaFmt
