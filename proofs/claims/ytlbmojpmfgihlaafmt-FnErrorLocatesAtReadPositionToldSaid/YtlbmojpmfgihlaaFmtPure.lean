/-
  Plain facts on the lexer's moves: where it can stand, what ASCII text reads as. No program stands in this text.
-/
import Derived.Test.YtlbmojpmfgihlaaFmtModel2
namespace Go.Proofs.YtlbmojpmfgihlaaFmt
open Go Go.Lib

theorem rAt_ascii {s : ByteArray} {i : Nat} (h : i < s.size) (ha : (s[i]'h).toNat < 128) : rAt s i = (s[i]'h).toNat := by unfold rAt; rw [decode_ascii s i h ha]
theorem wAt_ascii {s : ByteArray} {i : Nat} (h : i < s.size) (ha : (s[i]'h).toNat < 128) : wAt s i = 1 := by unfold wAt; rw [decode_ascii s i h ha]
theorem rAt_high {s : ByteArray} {i : Nat} (h : i < s.size) (ha : 128 ≤ (s[i]'h).toNat) : 128 ≤ rAt s i := by
  have := (decode_high s i h ha).1
  unfold rAt; omega

/-- The runes of an ASCII text are its bytes. -/
theorem runesFrom_ascii (v : ByteArray) (ha : ∀ (i : Nat) (h : i < v.size), (v[i]'h).toNat < 128) : ∀ (f i : Nat), i + f = v.size → runesFrom v f i = (v.data.toList.drop i).map fun b => (b.toNat : Int)
  | 0, i, h => by
    have : v.data.toList.drop i = [] := List.drop_eq_nil_of_le (by have := Lib.size_eq v; omega)
    rw [this]; rfl
  | f + 1, i, h => by
    have hi : i < v.size := by omega
    have hl : i < v.data.toList.length := by have := Lib.size_eq v; omega
    rw [runesFrom, if_pos hi, rAt_ascii hi (ha i hi), wAt_ascii hi (ha i hi), runesFrom_ascii v ha f (i + 1) (by omega), List.drop_eq_getElem_cons hl, List.map_cons]
    rfl
theorem runesOf_ascii (v : ByteArray) (ha : ∀ (i : Nat) (h : i < v.size), (v[i]'h).toNat < 128) : runesOf v = v.data.toList.map fun b => (b.toNat : Int) := by
  have := runesFrom_ascii v ha v.size 0 (by omega)
  rw [List.drop_zero] at this
  exact this
theorem runesOf_bs (l : List UInt8) (ha : ∀ b ∈ l, b.toNat < 128) : runesOf (bs l) = l.map fun b => (b.toNat : Int) := by
  have : ∀ (i : Nat) (h : i < (bs l).size), ((bs l)[i]'h).toNat < 128 := fun i h => ha _ (by
    have h' : i < l.length := by simpa [bs, ByteArray.size] using h
    have e : (bs l)[i]'h = l[i]'h' := by simp [bs, ByteArray.getElem_eq_getElem_data]
    rw [e]
    exact List.getElem_mem h')
  have h := runesOf_ascii (bs l) this
  rw [h]
  simp [bs]
theorem has_bs (l : List UInt8) (ha : ∀ b ∈ l, b.toNat < 128) (r : Int) : has (bs l) r = (l.map fun b => (b.toNat : Int)).contains r := by
  unfold has
  rw [runesOf_bs l ha]
  cases hc : (l.map fun b => (b.toNat : Int)).contains r with
  | false => simp
  | true =>
    have : okRune r = true := by
      have hm : r ∈ l.map fun b => (b.toNat : Int) := by simpa using hc
      obtain ⟨b, hb, e⟩ := List.mem_map.1 hm
      have := ha b hb
      unfold okRune
      simp
      omega
    rw [this]; rfl

/-! ### where the lexer stands -/
theorem acceptRun_stop (v s : ByteArray) (t : St) : acceptB v s (acceptRun v s t) = false := by
  fun_induction acceptRun v s t with
  | case1 t h ih => exact ih
  | case2 t h => unfold acceptB; simpa using h
theorem acceptRun_of (v s : ByteArray) (t : St) (h : acceptB v s t = false) : acceptRun v s t = t := by
  rw [acceptRun]
  have : ¬ has v (peek s t) = true := by unfold acceptB at h; rw [h]; decide
  rw [dif_neg this]
theorem acceptRun_le (v s : ByteArray) (t : St) (h : t.eb ≤ s.size) : (acceptRun v s t).eb ≤ s.size := by
  fun_induction acceptRun v s t with
  | case1 t h ih => exact ih (next_le (by assumption))
  | case2 t h => assumption
theorem acceptRun_rest (v s : ByteArray) (t : St) : (acceptRun v s t).sb = t.sb ∧ (acceptRun v s t).sr = t.sr ∧ (acceptRun v s t).toks = t.toks ∧ (acceptRun v s t).err = t.err ∧ (acceptRun v s t).q = t.q ∧ (acceptRun v s t).dis = t.dis ∧ (acceptRun v s t).eof = t.eof := by
  fun_induction acceptRun v s t with
  | case1 t h ih =>
    have e := next_in (peek_lt (has_ne h))
    refine ⟨ih.1.trans ?_, ih.2.1.trans ?_, ih.2.2.1.trans ?_, ih.2.2.2.1.trans ?_, ih.2.2.2.2.1.trans ?_, ih.2.2.2.2.2.1.trans ?_, ih.2.2.2.2.2.2.trans ?_⟩ <;> rw [e]
  | case2 t h => exact ⟨rfl, rfl, rfl, rfl, rfl, rfl, rfl⟩
theorem skipSpaces_le (s : ByteArray) (t : St) (h : t.eb ≤ s.size) : (skipSpaces s t).eb ≤ s.size := acceptRun_le _ s t h
theorem skipSpaces_twice (s : ByteArray) (t : St) : skipSpaces s (skipSpaces s t) = skipSpaces s t := by
  unfold skipSpaces
  have h := acceptRun_stop ⟨#[32]⟩ s t
  have h2 : acceptB ⟨#[32]⟩ s (commit (acceptRun ⟨#[32]⟩ s t)) = false := h
  rw [acceptRun_of _ _ _ h2]
  rfl

theorem has_space (r : Int) : has ⟨#[32]⟩ r = decide (r = 32) := by
  have := has_bs [32] (by decide) r
  have e : bs [32] = ⟨#[32]⟩ := rfl
  rw [e] at this
  rw [this]
  by_cases h : r = 32
  · subst h; decide
  · simp [h]

/-- Behind skipSpaces no space follows. -/
theorem skipSpaces_next (s : ByteArray) (t : St) (h : (skipSpaces s t).eb < s.size) : s[(skipSpaces s t).eb]'h ≠ 32 := by
  intro e
  have h1 := acceptRun_stop ⟨#[32]⟩ s t
  have h2 : (acceptRun ⟨#[32]⟩ s t).eb < s.size := h
  have e2 : s[(acceptRun ⟨#[32]⟩ s t).eb]'h2 = 32 := e
  unfold acceptB peek at h1
  rw [if_pos h2, has_space, rAt_ascii h2 (by rw [e2]; decide), e2] at h1
  exact absurd h1 (by decide)

end Go.Proofs.YtlbmojpmfgihlaaFmt
