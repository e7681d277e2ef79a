/-
  What zzRender of n003_69 gives is a number's text: scanNumber takes it whole.
-/
import Derived.Test.YtdpdgppjeekcmaaFmtRender69b
import Derived.Test.YtdpdgppjeekcmaaFmtNumLit
namespace Go.Proofs.YtdpdgppjeekcmaaFmt
open Go Go.Lib Go.RowKit Go.Proofs

theorem digs_all {b : Nat} (hb : 2 ≤ b) (x : Nat) : ∀ d ∈ digs b x, d < b := by
  induction x using Nat.strongRecOn with
  | _ x ih =>
    intro d hd
    by_cases h : x < b
    · rw [digs_lt h] at hd
      simp at hd
      subst hd
      exact Nat.mod_lt _ (by omega)
    · rw [digs_ge hb (by omega)] at hd
      simp at hd
      rcases hd with hd | hd
      · exact ih (x / b) (Nat.div_lt_self (by omega) (by omega)) d hd
      · subst hd
        exact Nat.mod_lt _ (by omega)
theorem digs_len {b : Nat} (hb : 2 ≤ b) : ∀ (n x : Nat), x < 2 ^ n → 1 ≤ n → (digs b x).length ≤ n := by
  intro n
  induction n with
  | zero => intro x _ h; omega
  | succ n ih =>
    intro x hx _
    by_cases h : x < b
    · rw [digs_lt h]; simp
    · rw [digs_ge hb (by omega), List.length_append]
      have h1 : x / b < 2 ^ n := by
        have : (2 : Nat) ^ (n + 1) = 2 ^ n * 2 := Nat.pow_succ 2 n
        exact Nat.lt_of_le_of_lt (Nat.div_le_div_left hb (by decide)) (by omega)
      by_cases hn : 1 ≤ n
      · have := ih (x / b) h1 hn; simp; omega
      · have : n = 0 := by omega
        subst this
        simp at hx
        omega
theorem digs_ne {b : Nat} (hb : 2 ≤ b) (x : Nat) : digs b x ≠ [] := by
  by_cases h : x < b
  · rw [digs_lt h]; simp
  · rw [digs_ge hb (by omega)]; simp
theorem digs_head {b : Nat} (hb : 2 ≤ b) (x : Nat) : digs b x = [0] ∨ (digs b x).head? ≠ some 0 := by
  induction x using Nat.strongRecOn with
  | _ x ih =>
    by_cases h : x < b
    · rw [digs_lt h, Nat.mod_eq_of_lt h]
      by_cases h0 : x = 0
      · left; rw [h0]
      · right; simp; exact h0
    · rw [digs_ge hb (by omega)]
      right
      have hd : 0 < x / b := Nat.div_pos (by omega) (by omega)
      rcases ih (x / b) (Nat.div_lt_self (by omega) (by omega)) with h1 | h1
      · exfalso
        by_cases h2 : x / b < b
        · rw [digs_lt h2, Nat.mod_eq_of_lt h2] at h1
          simp at h1
          omega
        · have h3 := digs_ge hb (show b ≤ x / b by omega)
          rw [h3] at h1
          have h4 := congrArg List.length h1
          have h5 : digs b (x / b / b) ≠ [] := digs_ne hb _
          have h6 : 0 < (digs b (x / b / b)).length := List.length_pos_iff.2 h5
          rw [List.length_append] at h4
          simp only [List.length_cons, List.length_nil] at h4
          omega
      · have hne := digs_ne hb (x / b)
        cases hl : digs b (x / b) with
        | nil => exact absurd hl hne
        | cons a l => rw [hl] at h1; simpa using h1

theorem dch_lo10 : ∀ d, d < 10 → (dch loDigits d).toNat = 48 + d := by decide
theorem dch_up10 : ∀ d, d < 10 → (dch upDigits d).toNat = 48 + d := by decide
theorem dch_hex (d : Nat) (h : d < 16) : lHex.contains (dch loDigits d) = true ∧ lHex.contains (dch upDigits d) = true := by
  have : ∀ d, d < 16 → lHex.contains (dch loDigits d) = true ∧ lHex.contains (dch upDigits d) = true := by decide
  exact this d h
theorem dch_oct (d : Nat) (h : d < 8) : lOct.contains (dch loDigits d) = true ∧ lOct.contains (dch upDigits d) = true := by
  have : ∀ d, d < 8 → lOct.contains (dch loDigits d) = true ∧ lOct.contains (dch upDigits d) = true := by decide
  exact this d h
theorem dch_bin (d : Nat) (h : d < 2) : lBin.contains (dch loDigits d) = true ∧ lBin.contains (dch upDigits d) = true := by
  have : ∀ d, d < 2 → lBin.contains (dch loDigits d) = true ∧ lBin.contains (dch upDigits d) = true := by decide
  exact this d h

/-- A number's text. -/
def LitText (T : ByteArray) : Prop := T.size ≤ 66 ∧ ∀ s : ByteArray, (s = T ∨ s = T ++ ⟨#[32]⟩) → scanNumber s start = (true, adv T.size start)
theorem stop_of {T s : ByteArray} (h : s = T ∨ s = T ++ ⟨#[32]⟩) : ∃ rest, NumStop rest ∧ s.data.toList = T.data.toList ++ rest := by
  rcases h with rfl | rfl
  · exact ⟨[], .inl rfl, by simp⟩
  · exact ⟨[32], .inr ⟨32, [], rfl, .inl rfl⟩, by simp⟩
theorem lit_dec (x : Nat) (hx : x < 18446744073709551616) (dt : ByteArray) (h10 : ∀ d, d < 10 → (dch dt d).toNat = 48 + d) : LitText ((⟨#[]⟩ : ByteArray) ++ ⟨((digs 10 x).map (dch dt)).toArray⟩) := by
  obtain ⟨T, hT⟩ : ∃ T, ((⟨#[]⟩ : ByteArray) ++ ⟨((digs 10 x).map (dch dt)).toArray⟩) = T := ⟨_, rfl⟩
  have hl : T.data.toList = (digs 10 x).map (dch dt) := by rw [← hT]; simp
  have hsz : T.size = (digs 10 x).length := by rw [Lib.size_eq, hl, List.length_map]
  have hlen := digs_len (b := 10) (by decide) 64 x (by simpa using hx) (by decide)
  rw [hT]
  refine ⟨by omega, fun s hs => ?_⟩
  obtain ⟨rest, hr, he⟩ := stop_of hs
  have hA : Ahead s start ((digs 10 x).map (dch dt) ++ rest) := by unfold Ahead; rw [← hl, ← he]; rfl
  have hd := digs_all (b := 10) (by decide) x
  have := scan_dec hA (by simp; exact digs_ne (by decide) x) (fun b hb => by
    obtain ⟨d, h1, rfl⟩ := List.mem_map.1 hb
    have := h10 d (hd d h1)
    have := hd d h1
    omega) (by
    rcases digs_head (b := 10) (by decide) x with h | h
    · left; rw [h]
      have := h10 0 (by decide)
      have e : dch dt 0 = 48 := UInt8.toNat_inj.1 (by rw [this]; rfl)
      simp [e]
    · right
      cases hc : digs 10 x with
      | nil => simp
      | cons a l =>
        rw [hc] at h hd
        simp at h ⊢
        intro e
        have h1 := h10 a (hd a (List.mem_cons_self ..))
        rw [e] at h1
        have h2 : (48 : UInt8).toNat = 48 := rfl
        omega) hr
  rw [List.length_map] at this
  rw [this, hsz]
theorem lit_pre (x b : Nat) (hb : 2 ≤ b) (hx : x < 18446744073709551616) (dt : ByteArray) (c : UInt8) (d : List UInt8) (hc : ((c = 120 ∨ c = 88) ∧ d = lHex) ∨ ((c = 111 ∨ c = 79) ∧ d = lOct) ∨ ((c = 98 ∨ c = 66) ∧ d = lBin)) (hdt : ∀ y, y < b → d.contains (dch dt y) = true) : LitText ((⟨#[48, c]⟩ : ByteArray) ++ ⟨((digs b x).map (dch dt)).toArray⟩) := by
  obtain ⟨T, hT⟩ : ∃ T, ((⟨#[48, c]⟩ : ByteArray) ++ ⟨((digs b x).map (dch dt)).toArray⟩) = T := ⟨_, rfl⟩
  have hl : T.data.toList = 48 :: c :: (digs b x).map (dch dt) := by rw [← hT]; simp
  have hsz : T.size = (digs b x).length + 2 := by rw [Lib.size_eq, hl]; simp
  have hlen := digs_len hb 64 x (by simpa using hx) (by decide)
  rw [hT]
  refine ⟨by omega, fun s hs => ?_⟩
  obtain ⟨rest, hr, he⟩ := stop_of hs
  have hA : Ahead s start ((48 :: c :: (digs b x).map (dch dt)) ++ rest) := by unfold Ahead; rw [← hl, ← he]; rfl
  have hd := digs_all hb x
  have := scan_pre hc hA (fun y hy => by
    obtain ⟨z, h1, rfl⟩ := List.mem_map.1 hy
    exact hdt z (hd z h1)) hr
  rw [List.length_map] at this
  rw [this, hsz]

def Lit (w : World) (e : Ending) (w' : World) : Prop := ∃ T, e = .returned (.string T) ∧ LitText T ∧ Below w.heap.size w w'
theorem zzRender_any (x sel : Nat) (up ud : Bool) (hx : x < 18446744073709551616) (hs : sel < 4) (w : World) :
    Calls Tryf.prog 9 #[.int .u64 x, .int .u8 sel, .bool up, .bool ud] w (Lit w) := by
  have h : sel = 0 ∨ sel = 1 ∨ sel = 2 ∨ sel = 3 := by omega
  rcases h with rfl | rfl | rfl | rfl <;> cases up <;> cases ud
  · exact (zzRender_0L false x hx w).mono fun e w' h => ⟨_, h.1, lit_dec x hx _ dch_lo10, h.2⟩
  · exact (zzRender_0U false x hx w).mono fun e w' h => ⟨_, h.1, lit_dec x hx _ dch_up10, h.2⟩
  · exact (zzRender_0L true x hx w).mono fun e w' h => ⟨_, h.1, lit_dec x hx _ dch_lo10, h.2⟩
  · exact (zzRender_0U true x hx w).mono fun e w' h => ⟨_, h.1, lit_dec x hx _ dch_up10, h.2⟩
  · exact (zzRender_1lL x hx w).mono fun e w' h => ⟨_, h.1, lit_pre x 16 (by decide) hx _ 120 lHex (by simp) (fun y hy => (dch_hex y hy).1), h.2⟩
  · exact (zzRender_1lU x hx w).mono fun e w' h => ⟨_, h.1, lit_pre x 16 (by decide) hx _ 120 lHex (by simp) (fun y hy => (dch_hex y hy).2), h.2⟩
  · exact (zzRender_1uL x hx w).mono fun e w' h => ⟨_, h.1, lit_pre x 16 (by decide) hx _ 88 lHex (by simp) (fun y hy => (dch_hex y hy).1), h.2⟩
  · exact (zzRender_1uU x hx w).mono fun e w' h => ⟨_, h.1, lit_pre x 16 (by decide) hx _ 88 lHex (by simp) (fun y hy => (dch_hex y hy).2), h.2⟩
  · exact (zzRender_2lL x hx w).mono fun e w' h => ⟨_, h.1, lit_pre x 8 (by decide) hx _ 111 lOct (by simp) (fun y hy => (dch_oct y hy).1), h.2⟩
  · exact (zzRender_2lU x hx w).mono fun e w' h => ⟨_, h.1, lit_pre x 8 (by decide) hx _ 111 lOct (by simp) (fun y hy => (dch_oct y hy).2), h.2⟩
  · exact (zzRender_2uL x hx w).mono fun e w' h => ⟨_, h.1, lit_pre x 8 (by decide) hx _ 79 lOct (by simp) (fun y hy => (dch_oct y hy).1), h.2⟩
  · exact (zzRender_2uU x hx w).mono fun e w' h => ⟨_, h.1, lit_pre x 8 (by decide) hx _ 79 lOct (by simp) (fun y hy => (dch_oct y hy).2), h.2⟩
  · exact (zzRender_3lL x hx w).mono fun e w' h => ⟨_, h.1, lit_pre x 2 (by decide) hx _ 98 lBin (by simp) (fun y hy => (dch_bin y hy).1), h.2⟩
  · exact (zzRender_3lU x hx w).mono fun e w' h => ⟨_, h.1, lit_pre x 2 (by decide) hx _ 98 lBin (by simp) (fun y hy => (dch_bin y hy).2), h.2⟩
  · exact (zzRender_3uL x hx w).mono fun e w' h => ⟨_, h.1, lit_pre x 2 (by decide) hx _ 66 lBin (by simp) (fun y hy => (dch_bin y hy).1), h.2⟩
  · exact (zzRender_3uU x hx w).mono fun e w' h => ⟨_, h.1, lit_pre x 2 (by decide) hx _ 66 lBin (by simp) (fun y hy => (dch_bin y hy).2), h.2⟩

end Go.Proofs.YtdpdgppjeekcmaaFmt
