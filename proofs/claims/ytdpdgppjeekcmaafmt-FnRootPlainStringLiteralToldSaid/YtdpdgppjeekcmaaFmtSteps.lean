/-
  k reads in a row; what making a lexer comes to.
-/
import Derived.Test.YtdpdgppjeekcmaaFmtJD
import Derived.Test.YtdpdgppjeekcmaaFmtNew
namespace Go.Proofs.YtdpdgppjeekcmaaFmt
open Go Go.Lib Go.RowKit Go.Proofs

/-- New, then Reset: a lexer at the begin of s. -/
def start : St := { fresh with q := some .root }
/-- What making a lexer comes to: it is there, old blocks stand. -/
def Made (W0 w : World) (s : ByteArray) (t : St) (e : Ending) (w' : World) : Prop :=
  ∃ L S, e = .returned (.pointer (some ⟨L, 0, none⟩)) ∧ (∀ k, S k → w.heap.size ≤ k) ∧ Lx W0 S w' L s t ∧ Below w.heap.size w w'

theorem Made.done {W0 w w1 w2 : World} {s : ByteArray} {t : St} {S : Nat → Prop} {L : Nat} (h1 : ∀ k, S k → w.heap.size ≤ k) (hb : Below w.heap.size w w1) (hd : Done W0 S w1 L s t w2) : Made W0 w s t (.returned (.pointer (some ⟨L, 0, none⟩))) w2 := by
  obtain ⟨S', hS, H, hf⟩ := hd
  exact ⟨L, S', rfl, fun k hk => (hS k hk).elim (h1 k) (fun h => Nat.le_trans hb.size h), H, hb.trans (hf.below h1 hb.size)⟩

/-- k reads. -/
def nextN (s : ByteArray) : Nat → St → St
  | 0, t => t
  | k + 1, t => nextN s k (next s t)

theorem nextN_le (s : ByteArray) : ∀ (k : Nat) (t : St), t.eb ≤ s.size → (nextN s k t).eb ≤ s.size
  | 0, _, h => h
  | k + 1, _, h => nextN_le s k _ (next_le h)
theorem nextN_snoc (s : ByteArray) : ∀ (k : Nat) (t : St), nextN s (k + 1) t = next s (nextN s k t)
  | 0, _ => rfl
  | k + 1, t => nextN_snoc s k (next s t)
theorem nextN_add (s : ByteArray) (a : Nat) : ∀ (b : Nat) (t : St), nextN s (a + b) t = nextN s b (nextN s a t)
  | 0, _ => rfl
  | b + 1, t => by rw [← Nat.add_assoc, nextN_snoc, nextN_snoc, nextN_add s a b]
theorem nextN_stay (s : ByteArray) : ∀ (k : Nat) (t : St), ¬ t.eb < s.size → (nextN s k t).eb = t.eb ∧ (nextN s k t).er = t.er
  | 0, _, _ => ⟨rfl, rfl⟩
  | k + 1, t, h => by
    have := nextN_stay s k (next s t) (by rw [next_end h]; exact h)
    rw [next_end h] at this
    rw [nextN, next_end h]
    exact this
theorem next_rest (s : ByteArray) (t : St) (x y : Nat) (k : List Tok) : next s { t with sb := x, sr := y, toks := k } = { next s t with sb := x, sr := y, toks := k } := by
  unfold next
  dsimp only
  split <;> rfl
theorem nextN_rest (s : ByteArray) (x y : Nat) (l : List Tok) : ∀ (k : Nat) (t : St), nextN s k { t with sb := x, sr := y, toks := l } = { nextN s k t with sb := x, sr := y, toks := l }
  | 0, _ => rfl
  | k + 1, t => by rw [nextN, next_rest, nextN_rest s x y l k]; rfl
theorem next_q (s : ByteArray) (t : St) : (next s t).q = t.q ∧ (next s t).err = t.err ∧ (next s t).sb = t.sb ∧ (next s t).sr = t.sr ∧ (next s t).toks = t.toks := by
  unfold next
  split <;> exact ⟨rfl, rfl, rfl, rfl, rfl⟩
theorem nextN_q (s : ByteArray) : ∀ (k : Nat) (t : St), (nextN s k t).q = t.q ∧ (nextN s k t).err = t.err ∧ (nextN s k t).sb = t.sb ∧ (nextN s k t).sr = t.sr ∧ (nextN s k t).toks = t.toks
  | 0, _ => ⟨rfl, rfl, rfl, rfl, rfl⟩
  | k + 1, t => by
    obtain ⟨a, b, c, d, e⟩ := nextN_q s k (next s t)
    obtain ⟨a', b', c', d', e'⟩ := next_q s t
    exact ⟨a.trans a', b.trans b', c.trans c', d.trans d', e.trans e'⟩

/-- The byte at which the k-th rune of s begins (or s ends), and the runes passed by then. -/
def offs (s : ByteArray) (k : Nat) : Nat := (nextN s k start).eb
def cnts (s : ByteArray) (k : Nat) : Nat := (nextN s k start).er

theorem offs_le (s : ByteArray) (k : Nat) : offs s k ≤ s.size := nextN_le s k start (Nat.zero_le _)
theorem offs_mono (s : ByteArray) (k m : Nat) : offs s k ≤ offs s (k + m) := by
  induction m with
  | zero => exact Nat.le_refl _
  | succ m ih => exact Nat.le_trans ih (by unfold offs; rw [← Nat.add_assoc, nextN_snoc]; exact next_ge s _)
theorem cnts_in (s : ByteArray) (k : Nat) (h : offs s k < s.size) : cnts s k = k := by
  induction k with
  | zero => rfl
  | succ k ih =>
    have h0 : offs s k < s.size := Nat.lt_of_le_of_lt (offs_mono s k 1) h
    have := ih h0
    unfold cnts at this ⊢
    rw [nextN_snoc, next_in h0]
    show (nextN s k start).er + 1 = _
    rw [this]
theorem offs_end (s : ByteArray) (k : Nat) (h : ¬ offs s k < s.size) : ∀ m, offs s (k + m) = s.size ∧ cnts s (k + m) = cnts s k := by
  intro m
  unfold offs cnts
  rw [nextN_add]
  have h1 := nextN_stay s m _ h
  have h2 := offs_le s k
  unfold offs at h h2
  omega
theorem offs_gt (s : ByteArray) (k : Nat) (h : offs s k < s.size) : offs s (k + 1) = offs s k + wAt s (offs s k) := by
  unfold offs at h ⊢
  rw [nextN_snoc, next_in h]
theorem offs_ge (s : ByteArray) : ∀ k, k ≤ s.size → k ≤ offs s k
  | 0, _ => Nat.zero_le _
  | k + 1, h => by
    by_cases hl : offs s k < s.size
    · have := offs_gt s k hl
      have h1 := wAt_pos s _ hl
      have h2 := offs_ge s k (by omega)
      omega
    · have := (offs_end s k hl 1).1
      omega
theorem offs_all (s : ByteArray) : offs s s.size = s.size := Nat.le_antisymm (offs_le s _) (offs_ge s _ (Nat.le_refl _))
/-- The runes of s in number. -/
def runes (s : ByteArray) : Nat := cnts s s.size
theorem cnts_le (s : ByteArray) (k : Nat) : cnts s k ≤ k := by
  induction k with
  | zero => exact Nat.le_refl _
  | succ k ih =>
    unfold cnts at ih ⊢
    rw [nextN_snoc]
    by_cases h : (nextN s k start).eb < s.size
    · rw [next_in h]; show (nextN s k start).er + 1 ≤ k + 1; omega
    · rw [next_end h]; show (nextN s k start).er ≤ k + 1; omega
theorem cnts_succ (s : ByteArray) (k : Nat) : cnts s k ≤ cnts s (k + 1) := by
  unfold cnts
  rw [nextN_snoc]
  by_cases h : (nextN s k start).eb < s.size
  · rw [next_in h]; show (nextN s k start).er ≤ (nextN s k start).er + 1; omega
  · rw [next_end h]; exact Nat.le_refl _
theorem cnts_mono (s : ByteArray) (k : Nat) : ∀ m, cnts s k ≤ cnts s (k + m)
  | 0 => Nat.le_refl _
  | m + 1 => Nat.le_trans (cnts_mono s k m) (cnts_succ s (k + m))
/-- Where the end is reached, all runes are counted. -/
theorem cnts_all (s : ByteArray) (k : Nat) (h : ¬ offs s k < s.size) : cnts s k = runes s := by
  unfold runes
  by_cases hk : k ≤ s.size
  · obtain ⟨m, hm⟩ : ∃ m, s.size = k + m := ⟨s.size - k, by omega⟩
    rw [hm]
    exact ((offs_end s k h m).2).symm
  · obtain ⟨m, hm⟩ : ∃ m, k = s.size + m := ⟨k - s.size, by omega⟩
    rw [hm]
    exact (offs_end s s.size (by rw [offs_all]; exact Nat.lt_irrefl _) m).2
theorem runes_le (s : ByteArray) : runes s ≤ s.size := cnts_le s _
theorem offs_runes (s : ByteArray) : offs s (runes s) = s.size := by
  by_cases h : offs s (runes s) < s.size
  · -- one rune more would be counted
    exfalso
    have h1 := cnts_in s _ h
    have h2 : cnts s (runes s + 1) = runes s + 1 := by
      have h3 : offs s (runes s) < s.size := h
      unfold cnts offs at *
      rw [nextN_snoc, next_in h3]
      show (nextN s (runes s) start).er + 1 = _
      rw [h1]
    by_cases hk : runes s + 1 ≤ s.size
    · obtain ⟨m, hm⟩ : ∃ m, s.size = (runes s + 1) + m := ⟨s.size - (runes s + 1), by omega⟩
      have h4 := cnts_mono s (runes s + 1) m
      rw [← hm, h2] at h4
      change runes s + 1 ≤ runes s at h4
      omega
    · have h5 := runes_le s
      have h6 : runes s = s.size := by omega
      rw [h6, offs_all] at h
      omega
  · have := offs_le s (runes s); omega
theorem cnts_min (s : ByteArray) (k : Nat) : cnts s k = min k (runes s) := by
  by_cases h : offs s k < s.size
  · have h1 := cnts_in s k h
    have h2 : k ≤ runes s := by
      by_cases hk : k ≤ s.size
      · obtain ⟨m, hm⟩ : ∃ m, s.size = k + m := ⟨s.size - k, by omega⟩
        have := cnts_mono s k m
        rw [← hm, h1] at this
        exact this
      · have := offs_mono s s.size (k - s.size)
        rw [offs_all, show s.size + (k - s.size) = k by omega] at this
        omega
    omega
  · have h1 := cnts_all s k h
    have h2 := cnts_le s k
    omega
theorem offs_min (s : ByteArray) (k : Nat) : offs s (min k (runes s)) = offs s k := by
  by_cases h : k ≤ runes s
  · rw [Nat.min_eq_left h]
  · rw [Nat.min_eq_right (by omega), offs_runes]
    have := offs_mono s (runes s) (k - runes s)
    rw [offs_runes, show runes s + (k - runes s) = k by omega] at this
    have h2 := offs_le s k
    omega

end Go.Proofs.YtdpdgppjeekcmaaFmt
