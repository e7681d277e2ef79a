/-
  The law's grammar of escapes against scanString. No program stands in this text.
-/
import Derived.Test.YtdpdgppjeekcmaaFmtJB
import Derived.Test.YtdpdgppjeekcmaaFmtJA
namespace Go.Proofs.YtdpdgppjeekcmaaFmt
open Go Go.Lib

/-- The letters that stand for themselves behind a backslash. -/
def isSimp (e : Nat) : Bool := e == 97 || e == 98 || e == 102 || e == 110 || e == 114 || e == 116 || e == 118 || e == 92
theorem simp_iff {e : Nat} : isSimp e = true ↔ e = 97 ∨ e = 98 ∨ e = 102 ∨ e = 110 ∨ e = 114 ∨ e = 116 ∨ e = 118 ∨ e = 92 := by simp [isSimp, or_assoc]
theorem hex_iff {e : Nat} : unhexB' e = true ↔ (48 ≤ e ∧ e ≤ 57) ∨ (97 ≤ e ∧ e ≤ 102) ∨ (65 ≤ e ∧ e ≤ 70) := by simp [unhexB', or_assoc]
theorem oct_iff {e : Nat} : isOct e = true ↔ 48 ≤ e ∧ e ≤ 55 := by simp [isOct]

/-- zzHexN. -/
def hexAll (s : ByteArray) : Nat → Nat → Bool
  | _, 0 => true
  | j, m + 1 => decide (j < s.size) && unhexB' (byt s j) && hexAll s (j + 1) m
/-- The braces' loop: the place of the closing one. -/
def brEndAt (s : ByteArray) : Nat → Nat → Nat → Option Nat
  | 0, _, _ => none
  | f + 1, k, d => if k < s.size ∧ byt s k ≠ 125 then (if unhexB' (byt s k) = false ∨ 6 ≤ d then none else brEndAt s f (k + 1) (d + 1)) else if ¬ k < s.size ∨ d = 0 then none else some k
/-- zzEscapeLen. -/
def escLen (s : ByteArray) (j q : Nat) : Nat :=
  if j < s.size then
    (if byt s j = q ∨ isSimp (byt s j) = true then 1
     else if isOct (byt s j) then (if j + 2 < s.size ∧ isOct (byt s (j + 1)) = true ∧ isOct (byt s (j + 2)) = true then 3 else 0)
     else if byt s j = 120 then (if hexAll s (j + 1) 2 then 3 else 0)
     else if byt s j = 85 then (if hexAll s (j + 1) 8 then 9 else 0)
     else if byt s j = 117 then (if j + 1 < s.size ∧ byt s (j + 1) = 123 then (match brEndAt s 8 (j + 2) 0 with | none => 0 | some k => k + 1 - j) else if hexAll s (j + 1) 4 then 5 else 0)
     else 0)
  else 0
/-- zzModelScanString: the units, the end. -/
def modelStr (s : ByteArray) (q : Nat) : Nat → Nat → Nat → Option (Nat × Nat)
  | 0, _, _ => none
  | f + 1, i, n => if i < s.size then
      (if byt s i = q then some (n, i + 2)
       else if byt s i = 10 then none
       else if byt s i = 92 then (if escLen s (i + 1) q = 0 then none else modelStr s q f (i + 1 + escLen s (i + 1) q) (n + 1))
       else modelStr s q f (i + wAt s i) (n + 1)) else none

theorem digit_hex {c : Nat} : digitVal (c : Int) < 16 ↔ unhexB' c = true := by
  rw [hex_iff]
  unfold digitVal
  split
  · omega
  · split
    · omega
    · split <;> omega
theorem digit_oct {c : Nat} : digitVal (c : Int) < 8 ↔ isOct c = true := by
  rw [oct_iff]
  unfold digitVal
  split
  · omega
  · split
    · omega
    · split <;> omega
theorem digit_hi {r : Int} (h : 128 ≤ r) : digitVal r = 16 := by
  unfold digitVal
  rw [if_neg (by omega), if_neg (by omega), if_neg (by omega)]

/-- The text that is scanned: a quote and the body. -/
structure Quoted (s body : ByteArray) : Prop where
  size : s.size = body.size + 1
  byte : ∀ x, x < body.size → byt s (x + 1) = byt body x
  wid : ∀ x, wAt s (x + 1) = wAt body x

def adv' (k : Nat) (t : St) : St := { t with eb := t.eb + k, er := t.er + k }
theorem adv'_zero (t : St) : adv' 0 t = t := rfl
theorem adv'_add (a b : Nat) (t : St) : adv' b (adv' a t) = adv' (a + b) t := by unfold adv'; simp [Nat.add_assoc]
section
variable {s body : ByteArray}
theorem q_lo (H : Quoted s body) {t : St} {j : Nat} (ht : t.eb = j + 1) (hj : j < body.size) (h8 : byt body j < 128) : peek s t = (byt body j : Int) ∧ next s t = adv' 1 t := by
  have hl : t.eb < s.size := by have := H.size; omega
  have hb : byt s t.eb = byt body j := by rw [ht, H.byte j hj]
  have hd := dec1 (s := s) (i := t.eb) (by omega)
  constructor
  · unfold peek; rw [if_pos hl, hd.1, hb]
  · rw [next_in hl, hd.2]; rfl
theorem q_hi (H : Quoted s body) {t : St} {j : Nat} (ht : t.eb = j + 1) (hj : j < body.size) (h8 : 128 ≤ byt body j) : 128 ≤ peek s t := by
  have hl : t.eb < s.size := by have := H.size; omega
  have hb : byt s t.eb = byt body j := by rw [ht, H.byte j hj]
  unfold peek
  rw [if_pos hl]
  exact rAt_high hl (by rw [← byt_of hl]; omega)
theorem q_end (H : Quoted s body) {t : St} {j : Nat} (ht : t.eb = j + 1) (hj : ¬ j < body.size) : peek s t = -1 := by
  unfold peek
  rw [if_neg (by have := H.size; omega)]
theorem bd_adv (H : Quoted s body) {t : St} {j : Nat} (ht : t.eb = j + 1) (hj : j < body.size) (h8 : byt body j < 128) (hb : Bd s t.eb t.er) : Bd s (adv' 1 t).eb (adv' 1 t).er := by
  have hl : t.eb < s.size := by have := H.size; omega
  have hbb : byt s t.eb = byt body j := by rw [ht, H.byte j hj]
  have := hb.step hl
  rw [(dec1 (s := s) (i := t.eb) (by omega)).2] at this
  exact this

/-- Digits behind one another. -/
theorem digits_ok (H : Quoted s body) {base : Int} {p : Nat → Bool} (hp : ∀ c : Nat, digitVal (c : Int) < base ↔ p c = true) (hb16 : base ≤ 16) (hp8 : ∀ c, p c = true → c < 128) :
    ∀ (n j : Nat) (t : St), t.eb = j + 1 → Bd s t.eb t.er →
      ((∀ x, x < n → j + x < body.size ∧ p (byt body (j + x)) = true) → scanDigits s base n (peek s t) (next s t) = (peek s (adv' n t), next s (adv' n t)) ∧ Bd s (adv' n t).eb (adv' n t).er) ∧
      (¬ (∀ x, x < n → j + x < body.size ∧ p (byt body (j + x)) = true) → (scanDigits s base n (peek s t) (next s t)).2.err ≠ none)
  | 0, j, t, ht, hb => ⟨fun _ => ⟨rfl, hb⟩, fun h => absurd (fun x hx => absurd hx (Nat.not_lt_zero _)) h⟩
  | n + 1, j, t, ht, hb => by
    unfold scanDigits
    by_cases hj : j < body.size ∧ p (byt body j) = true
    · have h8 := hp8 _ hj.2
      obtain ⟨e1, e2⟩ := q_lo H ht hj.1 h8
      have hd : digitVal (peek s t) < base := by rw [e1]; exact (hp _).2 hj.2
      have hbd := bd_adv H ht hj.1 h8 hb
      obtain ⟨i1, i2⟩ := digits_ok H hp hb16 hp8 n (j + 1) (adv' 1 t) (by show t.eb + 1 = _; omega) hbd
      rw [if_pos hd, e2]
      refine ⟨fun h => ?_, fun h => ?_⟩
      · have := i1 (fun x hx => by rw [show j + 1 + x = j + (x + 1) by omega]; exact h (x + 1) (by omega))
        rw [adv'_add, Nat.add_comm 1 n] at this
        exact this
      · refine i2 (fun h2 => h (fun x hx => ?_))
        by_cases hx0 : x = 0
        · subst hx0; exact hj
        · have := h2 (x - 1) (by omega)
          rw [show j + 1 + (x - 1) = j + x by omega] at this
          exact this
    · have hd : ¬ digitVal (peek s t) < base := by
        intro hd
        by_cases hl : j < body.size
        · by_cases h8 : byt body j < 128
          · rw [(q_lo H ht hl h8).1] at hd
            exact hj ⟨hl, (hp _).1 hd⟩
          · rw [digit_hi (q_hi H ht hl (by omega))] at hd; omega
        · rw [q_end H ht hl, digitVal_end] at hd; omega
      rw [if_neg hd]
      exact ⟨fun h => absurd (h 0 (by omega)) hj, fun _ => error_ne _⟩
theorem hexAll_iff : ∀ (m j : Nat), hexAll body j m = true ↔ ∀ x, x < m → j + x < body.size ∧ unhexB' (byt body (j + x)) = true
  | 0, j => ⟨fun _ x hx => absurd hx (Nat.not_lt_zero _), fun _ => rfl⟩
  | m + 1, j => by
    rw [hexAll, Bool.and_eq_true, Bool.and_eq_true, decide_eq_true_eq, hexAll_iff m (j + 1)]
    constructor
    · rintro ⟨⟨h1, h2⟩, h3⟩ x hx
      by_cases hx0 : x = 0
      · subst hx0; exact ⟨h1, h2⟩
      · have := h3 (x - 1) (by omega)
        rw [show j + 1 + (x - 1) = j + x by omega] at this
        exact this
    · intro h
      refine ⟨⟨(h 0 (by omega)).1, (h 0 (by omega)).2⟩, fun x hx => ?_⟩
      rw [show j + 1 + x = j + (x + 1) by omega]
      exact h (x + 1) (by omega)
theorem hex8 : ∀ c, unhexB' c = true → c < 128 := fun c h => by have := hex_iff.1 h; omega
theorem oct8 : ∀ c, isOct c = true → c < 128 := fun c h => by have := oct_iff.1 h; omega

/-- The braces. -/
theorem braces_ok (H : Quoted s body) : ∀ (f g k d : Nat) (t : St), t.eb = k + 1 → Bd s t.eb t.er → d ≤ 6 → 7 ≤ f + d → 8 ≤ g + d →
    (∀ e, brEndAt body g k d = some e → ∃ m, t.eb + m = e + 2 ∧ braces s f d t = (peek s (adv' m t), next s (adv' m t)) ∧ Bd s (adv' m t).eb (adv' m t).er) ∧
    (brEndAt body g k d = none → (braces s f d t).2.err ≠ none) := by
  intro f
  induction f with
  | zero => intro g k d t ht hb hd h1; omega
  | succ f ih =>
    intro g k d t ht hb hd h1 h2
    obtain ⟨g, rfl⟩ : ∃ m, g = m + 1 := ⟨g - 1, by omega⟩
    rw [brEndAt]
    unfold braces
    by_cases hk : k < body.size
    · by_cases h125 : byt body k = 125
      · obtain ⟨e1, e2⟩ := q_lo H ht hk (by omega)
        have hp : peek s t = 125 := by rw [e1, h125]; rfl
        rw [if_neg (fun h => h.2 h125), if_pos hp]
        by_cases hd0 : d = 0
        · rw [if_pos (.inr hd0), if_pos hd0]
          exact ⟨fun e h => by (cases h), fun _ => error_ne _⟩
        · rw [if_neg (by rintro (h | h); exact h hk; exact hd0 h), if_neg hd0, e2]
          exact ⟨fun e h => by
            injection h with h
            subst h
            exact ⟨1, by omega, rfl, bd_adv H ht hk (by omega) hb⟩, fun h => by cases h⟩
      · rw [if_pos ⟨hk, h125⟩]
        by_cases hx : unhexB' (byt body k) = true
        · have h8 := hex8 _ hx
          obtain ⟨e1, e2⟩ := q_lo H ht hk h8
          have hp : peek s t ≠ 125 := by rw [e1]; omega
          have hdv : ¬ 16 ≤ digitVal (peek s t) := by rw [e1]; have := digit_hex.2 hx; omega
          rw [if_neg hp, if_neg hdv]
          by_cases h6 : 6 ≤ d
          · rw [if_pos (.inr h6), if_pos h6]
            exact ⟨fun e h => by (cases h), fun _ => error_ne _⟩
          · rw [if_neg (by rintro (h | h); rw [hx] at h; cases h; exact h6 h), if_neg h6, e2]
            obtain ⟨i1, i2⟩ := ih g (k + 1) (d + 1) (adv' 1 t) (by show t.eb + 1 = _; omega) (bd_adv H ht hk h8 hb) (by omega) (by omega) (by omega)
            refine ⟨fun e h => ?_, i2⟩
            obtain ⟨m, m1, m2, m3⟩ := i1 e h
            rw [adv'_add] at m2 m3
            refine ⟨1 + m, ?_, m2, m3⟩
            change t.eb + 1 + m = e + 2 at m1
            omega
        · have hxf : unhexB' (byt body k) = false := by simpa using hx
          rw [if_pos (.inl hxf)]
          have hp : peek s t ≠ 125 := by
            by_cases h8 : byt body k < 128
            · rw [(q_lo H ht hk h8).1]; omega
            · have := q_hi H ht hk (by omega); omega
          have hdv : 16 ≤ digitVal (peek s t) := by
            by_cases h8 : byt body k < 128
            · rw [(q_lo H ht hk h8).1]
              rcases Int.lt_or_le (digitVal ((byt body k : Nat) : Int)) 16 with h | h
              · exact absurd (digit_hex.1 h) hx
              · exact h
            · rw [digit_hi (q_hi H ht hk (by omega))]; omega
          rw [if_neg hp, if_pos hdv]
          exact ⟨fun e h => by (cases h), fun _ => error_ne _⟩
    · rw [if_neg (fun h => hk h.1), if_pos (.inl hk), q_end H ht hk, if_neg (by decide), if_pos (by rw [digitVal_end]; decide)]
      exact ⟨fun e h => by (cases h), fun _ => error_ne _⟩

theorem isSimple_iff {c : Nat} : isSimple (c : Int) = isSimp c := by
  rw [Bool.eq_iff_iff, simp_iff]
  unfold isSimple
  simp only [Bool.or_eq_true, decide_eq_true_eq]
  omega
/-- AN ESCAPE: the lexer stands behind the backslash, at byte j of the body. -/
theorem escape_ok (H : Quoted s body) {q j : Nat} (hq : q < 128) {t : St} (ht : t.eb = j + 1) (hb : Bd s t.eb t.er) :
    (escLen body j q ≠ 0 → scanEscape s q t = (peek s (adv' (escLen body j q) t), next s (adv' (escLen body j q) t)) ∧ Bd s (adv' (escLen body j q) t).eb (adv' (escLen body j q) t).er) ∧
    (escLen body j q = 0 → (scanEscape s q t).2.err ≠ none) := by
  unfold escLen
  by_cases hj : j < body.size
  · rw [if_pos hj]
    by_cases h8 : byt body j < 128
    · obtain ⟨e1, e2⟩ := q_lo H ht hj h8
      have hb1 := bd_adv H ht hj h8 hb
      have ht1 : (adv' 1 t).eb = (j + 1) + 1 := by show t.eb + 1 = _; omega
      obtain ⟨c, hc⟩ : ∃ c, byt body j = c := ⟨_, rfl⟩
      rw [hc] at e1 h8 ⊢
      unfold scanEscape
      dsimp only
      rw [e1, e2]
      by_cases c1 : c = q ∨ isSimp c = true
      · have hc1 : (isSimple (c : Int) || decide ((c : Int) = (q : Int))) = true := by
          rw [isSimple_iff, Bool.or_eq_true, decide_eq_true_eq]
          rcases c1 with h | h
          · exact .inr (by omega)
          · exact .inl h
        rw [if_pos c1, if_pos hc1]
        exact ⟨fun _ => ⟨rfl, hb1⟩, fun h => by omega⟩
      have hc1 : ¬ (isSimple (c : Int) || decide ((c : Int) = (q : Int))) = true := by
        rw [isSimple_iff, Bool.or_eq_true, decide_eq_true_eq]
        rintro (h | h)
        · exact c1 (.inr h)
        · exact c1 (.inl (by omega))
      rw [if_neg c1, if_neg hc1]
      by_cases c2 : isOct c = true
      · have hc2 := oct_iff.1 c2
        have hd := digits_ok H (base := 8) (p := isOct) (fun c => digit_oct) (by omega) oct8 3 j t ht hb
        rw [e1, e2] at hd
        rw [if_pos c2, if_pos (by omega : (48 : Int) ≤ (c : Int) ∧ (c : Int) ≤ 55)]
        by_cases c3 : j + 2 < body.size ∧ isOct (byt body (j + 1)) = true ∧ isOct (byt body (j + 2)) = true
        · rw [if_pos c3]
          refine ⟨fun _ => hd.1 (fun x hx => ?_), fun h => by omega⟩
          have : x = 0 ∨ x = 1 ∨ x = 2 := by omega
          rcases this with rfl | rfl | rfl
          · exact ⟨by omega, by rw [Nat.add_zero, hc]; exact c2⟩
          · exact ⟨by omega, c3.2.1⟩
          · exact ⟨by omega, c3.2.2⟩
        · rw [if_neg c3]
          exact ⟨fun h => absurd rfl h, fun _ => hd.2 (fun h => c3 ⟨(h 2 (by omega)).1, (h 1 (by omega)).2, (h 2 (by omega)).2⟩)⟩
      have hc2 : ¬ ((48 : Int) ≤ (c : Int) ∧ (c : Int) ≤ 55) := fun h => c2 (oct_iff.2 (by omega))
      rw [if_neg c2, if_neg hc2]
      have hx : ∀ m, (hexAll body (j + 1) m = true → scanDigits s 16 m (peek s (adv' 1 t)) (next s (adv' 1 t)) = (peek s (adv' (1 + m) t), next s (adv' (1 + m) t)) ∧ Bd s (adv' (1 + m) t).eb (adv' (1 + m) t).er) ∧ (¬ hexAll body (j + 1) m = true → (scanDigits s 16 m (peek s (adv' 1 t)) (next s (adv' 1 t))).2.err ≠ none) := by
        intro m
        have hd := digits_ok H (base := 16) (p := unhexB') (fun c => digit_hex) (by omega) hex8 m (j + 1) (adv' 1 t) ht1 hb1
        rw [adv'_add] at hd
        exact ⟨fun h => hd.1 ((hexAll_iff m (j + 1)).1 h), fun h => hd.2 (fun h2 => h ((hexAll_iff m (j + 1)).2 h2))⟩
      by_cases c3 : c = 120
      · rw [if_pos c3, if_pos (by omega : (c : Int) = 120)]
        by_cases hh : hexAll body (j + 1) 2 = true
        · rw [if_pos hh]; exact ⟨fun _ => (hx 2).1 hh, fun h => by omega⟩
        · rw [if_neg hh]; exact ⟨fun h => absurd rfl h, fun _ => (hx 2).2 hh⟩
      rw [if_neg c3, if_neg (by omega : ¬ (c : Int) = 120)]
      by_cases c5 : c = 85
      · rw [if_pos c5, if_neg (by omega : ¬ (c : Int) = 117), if_pos (by omega : (c : Int) = 85)]
        by_cases hh : hexAll body (j + 1) 8 = true
        · rw [if_pos hh]; exact ⟨fun _ => (hx 8).1 hh, fun h => by omega⟩
        · rw [if_neg hh]; exact ⟨fun h => absurd rfl h, fun _ => (hx 8).2 hh⟩
      rw [if_neg c5]
      by_cases c4 : c = 117
      · rw [if_pos c4, if_pos (by omega : (c : Int) = 117)]
        by_cases hbr : j + 1 < body.size ∧ byt body (j + 1) = 123
        · obtain ⟨g1, g2⟩ := q_lo H ht1 hbr.1 (by omega)
          have hp : peek s (adv' 1 t) = 123 := by rw [g1, hbr.2]; rfl
          have hb2 := bd_adv H ht1 hbr.1 (by omega) hb1
          rw [if_pos hbr, if_pos hp, g2]
          obtain ⟨k1, k2⟩ := braces_ok H 7 8 (j + 2) 0 (adv' 1 (adv' 1 t)) (by show t.eb + 1 + 1 = _; omega) hb2 (by omega) (by omega) (by omega)
          cases hbe : brEndAt body 8 (j + 2) 0 with
          | none => exact ⟨fun h => absurd rfl h, fun _ => k2 hbe⟩
          | some e =>
            obtain ⟨m, m1, m2, m3⟩ := k1 e hbe
            change t.eb + 1 + 1 + m = e + 2 at m1
            have e3 : adv' m (adv' 1 (adv' 1 t)) = adv' (1 + (1 + m)) t := by rw [adv'_add, adv'_add]
            rw [e3] at m2 m3
            have hm : e + 1 - j = 1 + (1 + m) := by omega
            dsimp only
            rw [hm]
            exact ⟨fun _ => ⟨m2, m3⟩, fun h => by omega⟩
        · have hp : peek s (adv' 1 t) ≠ 123 := by
            intro hp
            by_cases hl : j + 1 < body.size
            · by_cases h9 : byt body (j + 1) < 128
              · rw [(q_lo H ht1 hl h9).1] at hp; exact hbr ⟨hl, by omega⟩
              · have := q_hi H ht1 hl (by omega); omega
            · rw [q_end H ht1 hl] at hp; omega
          rw [if_neg hbr, if_neg hp]
          by_cases hh : hexAll body (j + 1) 4 = true
          · rw [if_pos hh]; exact ⟨fun _ => (hx 4).1 hh, fun h => by omega⟩
          · rw [if_neg hh]; exact ⟨fun h => absurd rfl h, fun _ => (hx 4).2 hh⟩
      · rw [if_neg c4, if_neg (by omega : ¬ (c : Int) = 117), if_neg (by omega : ¬ (c : Int) = 85)]
        exact ⟨fun h => absurd rfl h, fun _ => error_ne _⟩
    · have hr := q_hi H ht hj (by omega)
      have n1 : ¬ (byt body j = q ∨ isSimp (byt body j) = true) := by
        rintro (h | h)
        · omega
        · have := simp_iff.1 h; omega
      have n2 : ¬ isOct (byt body j) = true := fun h => by have := oct_iff.1 h; omega
      rw [if_neg n1, if_neg n2, if_neg (by omega), if_neg (by omega), if_neg (by omega)]
      refine ⟨fun h => absurd rfl h, fun _ => ?_⟩
      unfold scanEscape
      dsimp only
      have hs : (isSimple (peek s t) || decide (peek s t = (q : Int))) = false := by
        unfold isSimple
        simp only [Bool.or_eq_false_iff, decide_eq_false_iff_not]
        omega
      rw [if_neg (by rw [hs]; decide), if_neg (by omega), if_neg (by omega), if_neg (by omega), if_neg (by omega)]
      exact error_ne _
  · rw [if_neg hj]
    refine ⟨fun h => absurd rfl h, fun _ => ?_⟩
    have hp := q_end H ht hj
    unfold scanEscape
    dsimp only
    rw [hp]
    have hs : (isSimple (-1) || decide ((-1 : Int) = (q : Int))) = false := by
      unfold isSimple
      simp only [Bool.or_eq_false_iff, decide_eq_false_iff_not]
      omega
    rw [if_neg (by rw [hs]; decide), if_neg (by decide), if_neg (by decide), if_neg (by decide), if_neg (by decide)]
    exact error_ne _

theorem str_err {q : Int} {hq : q ≠ -1} {n : Nat} {ch : Int} {t : St} (h : t.err ≠ none) : (scanStr s q hq n ch t).2.err ≠ none := by
  intro he
  exact h ((scan_str s q hq n ch t (scan_refl s t ch)).live he).1

/-- THE LAW: scanString is the grammar's model. -/
theorem str_model (H : Quoted s body) {q : Nat} (hq8 : q < 128) (hq : (q : Int) ≠ -1) (_hqn : q ≠ 10 ∧ q ≠ 92) : ∀ (f i n : Nat) (t : St), body.size < i + f → t.eb = i + 1 → Bd s t.eb t.er →
    (∀ n' e, modelStr body q f i n = some (n', e) → ∃ N, Bd s e N ∧ scanStr s q hq n (peek s t) (next s t) = (n', { t with eb := e, er := N })) ∧
    (modelStr body q f i n = none → (scanStr s q hq n (peek s t) (next s t)).2.err ≠ none) := by
  intro f
  induction f with
  | zero =>
    intro i n t hf ht hb
    have hl := hb.le
    have := H.size
    omega
  | succ f ih =>
    intro i n t hf ht hb
    rw [modelStr]
    have hst := scanStr_st s q hq n (peek s t) (next s t)
    by_cases hi : i < body.size
    · rw [if_pos hi]
      have hl : t.eb < s.size := by have := H.size; omega
      by_cases h8 : byt body i < 128
      · obtain ⟨e1, e2⟩ := q_lo H ht hi h8
        have hb1 := bd_adv H ht hi h8 hb
        by_cases cq : byt body i = q
        · rw [if_pos cq]
          rw [if_pos (by rw [e1, cq])] at hst
          refine ⟨fun n' e h => ?_, fun h => by cases h⟩
          injection h with h
          injection h with h1 h2
          subst h1; subst h2
          rw [hst, e2]
          refine ⟨t.er + 1, ?_, ?_⟩
          · have : (adv' 1 t).eb = i + 2 := by show t.eb + 1 = _; omega
            rw [this] at hb1
            exact hb1
          · have : adv' 1 t = { t with eb := i + 2, er := t.er + 1 } := by unfold adv'; rw [ht]
            rw [this]
        rw [if_neg cq]
        rw [if_neg (by rw [e1]; omega)] at hst
        by_cases c10 : byt body i = 10
        · rw [if_pos c10]
          rw [if_pos (.inl (by rw [e1, c10]; rfl))] at hst
          exact ⟨fun n' e h => by (cases h), fun _ => by rw [hst]; exact error_ne _⟩
        rw [if_neg c10]
        rw [if_neg (by rw [e1]; omega)] at hst
        by_cases c92 : byt body i = 92
        · rw [if_pos c92]
          rw [if_pos (by rw [e1, c92]; rfl)] at hst
          obtain ⟨k1, k2⟩ := escape_ok H (q := q) (j := i + 1) hq8 (t := adv' 1 t) (by show t.eb + 1 = _; omega) hb1
          by_cases hz : escLen body (i + 1) q = 0
          · rw [if_pos hz]
            refine ⟨fun n' e h => by (cases h), fun _ => ?_⟩
            rw [hst, e2]
            exact str_err (k2 hz)
          · rw [if_neg hz]
            obtain ⟨m1, m2⟩ := k1 hz
            rw [adv'_add] at m1 m2
            rw [hst, e2, m1]
            obtain ⟨i1, i2⟩ := ih (i + 1 + escLen body (i + 1) q) (n + 1) (adv' (1 + escLen body (i + 1) q) t) (by omega) (by show t.eb + _ = _; omega) m2
            exact ⟨fun n' e h => i1 n' e h, i2⟩
        · rw [if_neg c92]
          rw [if_neg (by rw [e1]; omega)] at hst
          rw [hst, e2, (dec1 h8).2]
          obtain ⟨i1, i2⟩ := ih (i + 1) (n + 1) (adv' 1 t) (by omega) (by show t.eb + 1 = _; omega) hb1
          exact ⟨fun n' e h => i1 n' e h, i2⟩
      · have hr := q_hi H ht hi (by omega)
        rw [if_neg (by omega), if_neg (by omega), if_neg (by omega)]
        rw [if_neg (by omega), if_neg (by omega), if_neg (by omega)] at hst
        have hwp := wAt_pos body i hi
        have hn : next s t = { t with er := t.er + 1, eb := i + wAt body i + 1 } := by rw [next_in hl, ht, H.wid, show i + 1 + wAt body i = i + wAt body i + 1 by omega]
        have hb1 : Bd s (i + wAt body i + 1) (t.er + 1) := by have := hb.step hl; rw [ht, H.wid, show i + 1 + wAt body i = i + wAt body i + 1 by omega] at this; exact this
        rw [hst, hn]
        obtain ⟨i1, i2⟩ := ih (i + wAt body i) (n + 1) { t with er := t.er + 1, eb := i + wAt body i + 1 } (by omega) rfl hb1
        exact ⟨fun n' e h => i1 n' e h, i2⟩
    · rw [if_neg hi]
      refine ⟨fun n' e h => by (cases h), fun _ => ?_⟩
      have hp := q_end H ht hi
      rw [hst, hp, if_neg (fun e => hq e.symm), if_pos (.inr rfl)]
      exact error_ne _
end

end Go.Proofs.YtdpdgppjeekcmaaFmt
