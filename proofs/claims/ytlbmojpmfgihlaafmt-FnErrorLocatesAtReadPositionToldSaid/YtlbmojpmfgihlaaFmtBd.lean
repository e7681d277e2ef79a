/-
  How a text's runes read in a longer text, in a text with other ASCII bytes; what a rune read is written as. No program stands in this text.
-/
import Derived.Test.YtlbmojpmfgihlaaFmtSim
import Derived.Lib.MapLaws
import Derived.Lib.IndexBytes
namespace Go.Proofs.YtlbmojpmfgihlaaFmt
open Go Go.Lib

theorem byt_l {A B : ByteArray} {k : Nat} (h : k < A.size) : byt (A ++ B) k = byt A k := by
  rw [byt_of (s := A ++ B) (k := k) (by rw [ByteArray.size_append]; omega), byt_of h, ByteArray.getElem_append_left h]
theorem byt_r {A B : ByteArray} {k : Nat} (h : k < B.size) : byt (A ++ B) (A.size + k) = byt B k := by
  rw [byt_of (s := A ++ B) (k := A.size + k) (by rw [ByteArray.size_append]; omega), byt_of h, ByteArray.getElem_append_right (by omega)]
  congr 2
  omega
theorem toList_app (A B : ByteArray) : (A ++ B).data.toList = A.data.toList ++ B.data.toList := by simp [ByteArray.data_append]

/-- A rune is decided by what lies from it on. -/
theorem dec_drop {A B : ByteArray} {i j : Nat} (h : A.data.toList.drop i = B.data.toList.drop j) : Utf8.decode A i = Utf8.decode B j := by
  rw [← decodeL_drop, ← decodeL_drop, h]
theorem dec_right {A B : ByteArray} {i : Nat} : wAt (A ++ B) (A.size + i) = wAt B i ∧ rAt (A ++ B) (A.size + i) = rAt B i := by
  have h : (A ++ B).data.toList.drop (A.size + i) = B.data.toList.drop i := by
    rw [toList_app, ← List.drop_drop, show A.size = A.data.toList.length from (Lib.size_eq A), List.drop_left]
  have e := dec_drop h
  unfold wAt rAt
  rw [e]
  exact ⟨rfl, rfl⟩
theorem dec_suffix {A : ByteArray} {i j : Nat} : wAt (A.extract i A.size) j = wAt A (i + j) ∧ rAt (A.extract i A.size) j = rAt A (i + j) := by
  have h : (A.extract i A.size).data.toList.drop j = A.data.toList.drop (i + j) := by
    rw [Lib.extract_to_end, List.drop_drop]
  have e := dec_drop h
  unfold wAt rAt
  rw [e]
  exact ⟨rfl, rfl⟩
/-- A rune of a text reads so too where an ASCII byte, or nothing, follows the text. -/
theorem dec_prefix {A B : ByteArray} (hB : 0 < B.size → byt B 0 < 128) {i : Nat} (hi : i < A.size) : wAt (A ++ B) i = wAt A i ∧ rAt (A ++ B) i = rAt A i := by
  have hs : i < (A ++ B).size := by rw [ByteArray.size_append]; omega
  by_cases h2 : 2 ≤ wAt A i
  · have hin := wide_in h2
    exact wide_same (B := A ++ B) (j := i) h2 (fun k hk => byt_l (by omega)) (by rw [ByteArray.size_append]; omega)
  · have h1 := wAt_pos A i hi
    have hw : wAt (A ++ B) i = wAt A i := by
      by_cases h3 : 2 ≤ wAt (A ++ B) i
      · exfalso
        have hin := wide_in h3
        by_cases h4 : i + wAt (A ++ B) i ≤ A.size
        · have := (wide_same (A := A ++ B) (B := A) (i := i) (j := i) h3 (fun k hk => (byt_l (by omega)).symm) h4).1
          omega
        · have hk := (inside (A := A ++ B) (i := i) (k := A.size - i) (by omega) (by omega)).1
          have e := byt_r (A := A) (B := B) (k := 0) (by rw [ByteArray.size_append] at hin; omega)
          rw [Nat.add_zero] at e
          rw [show i + (A.size - i) = A.size by omega, e] at hk
          have := hB (by rw [ByteArray.size_append] at hin; omega)
          omega
      · have h5 := wAt_pos (A ++ B) i hs
        omega
    refine ⟨hw, ?_⟩
    by_cases h8 : byt A i < 128
    · rw [(dec1 h8).1, (dec1 (s := A ++ B) (i := i) (by rw [byt_l hi]; exact h8)).1, byt_l hi]
    · rw [rAt_one (s := A) (by omega) (by omega), rAt_one (s := A ++ B) (by omega) (by rw [byt_l hi]; omega)]
theorem bd_prefix {A B : ByteArray} (hB : 0 < B.size → byt B 0 < 128) {i n : Nat} (h : Bd A i n) : Bd (A ++ B) i n := by
  induction h with
  | zero => exact .zero
  | @step i n h hi ih =>
    have hstep := ih.step (by rw [ByteArray.size_append]; omega)
    rw [(dec_prefix hB hi).1] at hstep
    exact hstep
/-- A boundary behind a text of one-byte runes. -/
theorem bd_right {A B : ByteArray} {a : Nat} (hA : Bd (A ++ B) A.size a) {i n : Nat} (h : Bd B i n) : Bd (A ++ B) (A.size + i) (a + n) := by
  induction h with
  | zero => exact hA
  | @step i n h hi ih =>
    have hstep := ih.step (by rw [ByteArray.size_append]; omega)
    rw [dec_right.1] at hstep
    rw [← Nat.add_assoc, ← Nat.add_assoc]
    exact hstep
theorem Bd.cnt_inj {s : ByteArray} {i n m : Nat} (h : Bd s i n) (k : Bd s i m) : n = m := by
  by_cases h1 : n < m
  · have := h.lt_of k h1; omega
  · by_cases h2 : m < n
    · have := k.lt_of h h2; omega
    · omega
/-- A byte of ASCII begins a rune. -/
theorem bd_ascii {s : ByteArray} {p : Nat} (hp : p < s.size) (h : byt s p < 128) : ∃ m, Bd s p m := by
  obtain ⟨j, m, hb, h1, h2⟩ := Bd.floor p hp
  by_cases e : j = p
  · subst e; exact ⟨m, hb⟩
  · exfalso
    have h3 := (inside (A := s) (i := j) (k := p - j) (by omega) (by omega)).1
    rw [show j + (p - j) = p by omega] at h3
    omega
theorem bd_end (s : ByteArray) : ∃ m, Bd s s.size m := by
  by_cases h : s.size = 0
  · exact ⟨0, by rw [h]; exact .zero⟩
  · obtain ⟨j, m, hb, h1, h2⟩ := Bd.floor (s := s) (s.size - 1) (by omega)
    have h3 := wAt_le s j (by omega)
    have h4 : j + wAt s j = s.size := by omega
    exact ⟨m + 1, by have := hb.step (by omega : j < s.size); rw [h4] at this; exact this⟩
/-- The runes of a text in number, boundary by boundary. -/
def runesTo (s : ByteArray) (i : Nat) : Nat := if _h : i < s.size then runesTo s (i + wAt s i) + 1 else 0
termination_by s.size - i
decreasing_by have := wAt_pos s i _h; omega
theorem runesTo_end {s : ByteArray} {i : Nat} (h : ¬ i < s.size) : runesTo s i = 0 := by rw [runesTo, dif_neg h]
theorem runesTo_step {s : ByteArray} {i : Nat} (h : i < s.size) : runesTo s i = runesTo s (i + wAt s i) + 1 := by rw [runesTo, dif_pos h]
theorem bd_runesTo {s : ByteArray} : ∀ (k i n : Nat), s.size - i = k → Bd s i n → Bd s s.size (n + runesTo s i) := by
  intro k
  induction k using Nat.strongRecOn with
  | _ k ih =>
  intro i n hk hb
  by_cases h : i < s.size
  · have hp := wAt_pos s i h
    have := ih (s.size - (i + wAt s i)) (by omega) (i + wAt s i) (n + 1) rfl (hb.step h)
    rw [runesTo_step h]
    rw [show n + (runesTo s (i + wAt s i) + 1) = n + 1 + runesTo s (i + wAt s i) by omega]
    exact this
  · have hl := hb.le
    have e : i = s.size := by omega
    rw [runesTo_end h, Nat.add_zero, ← e]
    exact hb
theorem bd_count (s : ByteArray) : Bd s s.size (runesTo s 0) := by
  have := bd_runesTo (s := s) s.size 0 0 rfl .zero
  rw [Nat.zero_add] at this
  exact this

/-! ### other ASCII bytes -/
structure AsciiMap (f : UInt8 → UInt8) : Prop where
  hi : ∀ b : UInt8, 128 ≤ b.toNat → f b = b
  lo : ∀ b : UInt8, b.toNat < 128 → (f b).toNat < 128
def mapS (f : UInt8 → UInt8) (s : ByteArray) : ByteArray := ⟨s.data.map f⟩
theorem mapS_size (f : UInt8 → UInt8) (s : ByteArray) : (mapS f s).size = s.size := (Array.size_map : (s.data.map f).size = s.data.size)
theorem byt_map {f : UInt8 → UInt8} {s : ByteArray} {k : Nat} (h : k < s.size) : byt (mapS f s) k = (f (s[k]'h)).toNat := by
  rw [byt_of (s := mapS f s) (k := k) (by rw [mapS_size]; exact h)]
  have h' : k < (s.data.map f).size := by rw [Array.size_map]; exact h
  show ((s.data.map f)[k]'h').toNat = _
  rw [Array.getElem_map]
  rfl
theorem wide_bytes {A : ByteArray} {i : Nat} (hw : 2 ≤ wAt A i) {k : Nat} (hk : k < wAt A i) : 128 ≤ byt A (i + k) := by
  by_cases h0 : k = 0
  · subst h0; have := wide_head hw; rw [Nat.add_zero]; omega
  · exact (inside (A := A) (i := i) (k := k) (by omega) hk).1
theorem byt_map_hi {f : UInt8 → UInt8} (hf : AsciiMap f) {s : ByteArray} {k : Nat} (h : k < s.size) (h8 : 128 ≤ byt s k) : byt (mapS f s) k = byt s k := by
  rw [byt_map h, byt_of h]
  rw [byt_of h] at h8
  rw [hf.hi _ h8]
theorem byt_map_lo {f : UInt8 → UInt8} (hf : AsciiMap f) {s : ByteArray} {k : Nat} (h : k < s.size) (h8 : byt s k < 128) : byt (mapS f s) k < 128 := by
  rw [byt_map h]
  rw [byt_of h] at h8
  exact hf.lo _ h8
theorem dec_map {f : UInt8 → UInt8} (hf : AsciiMap f) {s : ByteArray} {i : Nat} (h : i < s.size) : wAt (mapS f s) i = wAt s i ∧ (128 ≤ byt s i → rAt (mapS f s) i = rAt s i) := by
  have hsz := mapS_size f s
  by_cases h8 : byt s i < 128
  · refine ⟨by rw [(dec1 h8).2, (dec1 (byt_map_lo hf h h8)).2], fun h => by omega⟩
  · have hbe := byt_map_hi hf h (by omega)
    by_cases hw : 2 ≤ wAt s i
    · have hin := wide_in hw
      have := wide_same (A := s) (B := mapS f s) (i := i) (j := i) hw (fun k hk => byt_map_hi hf (by omega) (wide_bytes hw hk)) (by omega)
      exact ⟨this.1, fun _ => this.2⟩
    · have p1 := wAt_pos s i h
      have p2 := wAt_pos (mapS f s) i (by omega)
      by_cases hw2 : 2 ≤ wAt (mapS f s) i
      · have hin := wide_in hw2
        have := wide_same (A := mapS f s) (B := s) (i := i) (j := i) hw2 (fun k hk => by
          have hb := wide_bytes hw2 hk
          by_cases h9 : byt s (i + k) < 128
          · have := byt_map_lo hf (s := s) (k := i + k) (by omega) h9; omega
          · exact (byt_map_hi hf (by omega) (by omega)).symm) (by omega)
        omega
      · exact ⟨by omega, fun _ => by rw [rAt_one (s := s) (by omega) (by omega), rAt_one (s := mapS f s) (by omega) (by omega)]⟩

/-! ### what a rune read is written as -/
/-- A rune's bytes, or U+FFFD's where the byte begins none. -/
def oneOut (s : ByteArray) (i : Nat) : List UInt8 := if 128 ≤ byt s i ∧ wAt s i = 1 then [239, 191, 189] else (s.extract i (i + wAt s i)).data.toList
theorem encode_at {s : ByteArray} {i : Nat} (h : i < s.size) : encodeRune (rAt s i) = oneOut s i := by
  unfold oneOut
  by_cases hb : 128 ≤ byt s i ∧ wAt s i = 1
  · rw [if_pos hb, rAt_one hb.2 hb.1]
    decide
  · rw [if_neg hb]
    have hne : s.data.toList.drop i ≠ [] := by
      intro e
      have := congrArg List.length e
      rw [List.length_drop] at this
      have h1 := Lib.size_eq s
      simp only [List.length_nil] at this
      omega
    have hd := decodeL_drop s i
    have he := encode_decode (s.data.toList.drop i) hne (by
      rw [hd]
      rintro ⟨h1, h2⟩
      have h3 : rAt s i = 65533 := by unfold rAt; omega
      have h4 : wAt s i = 1 := h2
      by_cases h8 : byt s i < 128
      · rw [(dec1 h8).1] at h3; omega
      · exact hb ⟨by omega, h4⟩)
    rw [hd] at he
    rw [Lib.extract_data, show i + wAt s i - i = wAt s i by omega]
    exact he

end Go.Proofs.YtlbmojpmfgihlaaFmt
