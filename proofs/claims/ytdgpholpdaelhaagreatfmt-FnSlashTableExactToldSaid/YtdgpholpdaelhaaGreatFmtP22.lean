/-
  n003_22's laws in plain Lean: what the lexer hands out at the laws' texts. No program stands in this text.
-/
import Derived.Test.YtdgpholpdaelhaaGreatFmtJB
namespace Go.Proofs.YtdgpholpdaelhaaGreatFmt
open Go Go.Lib

theorem byt_mem {A : ByteArray} {b : UInt8} (h : b ∈ A.data.toList) : ∃ k, k < A.size ∧ byt A k = b.toNat := by
  obtain ⟨k, hk, e⟩ := List.getElem_of_mem h
  have h1 := Lib.size_eq A
  have hk' : k < A.size := by omega
  refine ⟨k, hk', ?_⟩
  rw [byt_of hk', ← e]
  rfl

/-- A number's text: decimal digits, a zero first only where it stands alone. -/
structure DecText (v : ByteArray) : Prop where
  ne : v.data.toList ≠ []
  dig : ∀ b ∈ v.data.toList, 48 ≤ b.toNat ∧ b.toNat ≤ 57
  zero : v.data.toList = [48] ∨ v.data.toList.head? ≠ some 48
  small : v.size ≤ 24
theorem DecText.len {v : ByteArray} (h : DecText v) : v.data.toList.length = v.size := by have := Lib.size_eq v; omega

/-- A number that stands at i of s, and what follows it. -/
theorem out_dec {s v : ByteArray} {i n : Nat} {f d : Bool} {l : List Tok} {u : St} {rest : List UInt8} (hv : DecText v) (ha : s.data.toList.drop i = v.data.toList ++ rest) (hr : NumStop rest)
    (ho : Out s (R (i + v.size) (n + v.size) f d) l u) : Out s (R i n f d) (⟨n, (n + v.size : Nat), kNumber, v⟩ :: l) u := by
  have h := out_num (s := s) (i := i) (n := n) (f := f) (d := d) (l := l) (u := u) ha hv.ne hv.dig hv.zero hr (by rw [hv.len]; exact ho)
  rw [hv.len] at h
  have e : s.extract i (i + v.size) = v := by
    apply ByteArray.ext
    apply Array.ext'
    rw [Lib.extract_data, ha, show i + v.size - i = v.data.toList.length by rw [hv.len]; omega, List.take_left]
  rw [e] at h
  exact h

/-! ### comments -/
def openML : ByteArray := ⟨#[47, 42]⟩
def openSL : ByteArray := ⟨#[47, 47]⟩
/-- No star and slash in c. -/
def NoCloser (c : ByteArray) : Prop := ∀ x, x + 1 < c.size → ¬ (byt c x = 42 ∧ byt c (x + 1) = 47)
/-- An unclosed comment is refused. -/
theorem multi_refused {c : ByteArray} (h : NoCloser c) : ∃ u, Out (openML ++ c) (R 0 0 false false) [] u ∧ u.err ≠ none := by
  have hsz : (openML ++ c).size = c.size + 2 := by rw [ByteArray.size_append]; show 2 + c.size = _; omega
  have b0 : byt (openML ++ c) 0 = 47 := by rw [byt_l (by decide)]; rfl
  have b1 : byt (openML ++ c) 1 = 42 := by rw [byt_l (by decide)]; rfl
  obtain ⟨u, ho, hu⟩ := out_multi_bad (s := openML ++ c) (i := 0) (n := 0) (j := 2) (m := 2) (f := false) (d := false) (by omega) (fun x h1 h2 => by
    have e0 := byt_r (A := openML) (B := c) (k := x - 2) (by omega)
    have e1 := byt_r (A := openML) (B := c) (k := x - 2 + 1) (by omega)
    rw [show openML.size + (x - 2) = x by show 2 + (x - 2) = x; omega] at e0
    rw [show openML.size + (x - 2 + 1) = x + 1 by show 2 + (x - 2 + 1) = x + 1; omega] at e1
    rw [e0, e1]
    exact h (x - 2) (by omega))
  exact ⟨u, out_multi0 (by omega) b0 b1 ho, hu⟩

theorem bd_two {s : ByteArray} (h : 2 ≤ s.size) (h0 : byt s 0 < 128) (h1 : byt s 1 < 128) : Bd s 2 2 := by
  have a := Bd.step (.zero : Bd s 0 0) (by omega)
  rw [(dec1 h0).2] at a
  have b := Bd.step a (by omega)
  rw [(dec1 h1).2] at b
  exact b

/-- A line's comment to the text's end. -/
theorem line_swallows {c : ByteArray} (h : ∀ x, x < c.size → byt c x ≠ 10) (N : Nat) (hN : Bd (openSL ++ c) (openSL ++ c).size N) : ∃ u, Out (openSL ++ c) (R 0 0 false false) [eofTok N] u ∧ u.err = none := by
  have hsz : (openSL ++ c).size = c.size + 2 := by rw [ByteArray.size_append]; show 2 + c.size = _; omega
  have b0 : byt (openSL ++ c) 0 = 47 := by rw [byt_l (by decide)]; rfl
  have b1 : byt (openSL ++ c) 1 = 47 := by rw [byt_l (by decide)]; rfl
  refine ⟨_, out_line0 (by omega) b0 b1 (out_line_end (bd_two (by omega) (by omega) (by omega)) (fun x h1 h2 => ?_) hN (out_eof rfl)), rfl⟩
  have e0 := byt_r (A := openSL) (B := c) (k := x - 2) (by omega)
  rw [show openSL.size + (x - 2) = x by show 2 + (x - 2) = x; omega] at e0
  rw [e0]
  exact h (x - 2) (by omega)

/-- A line's comment, its newline, a number. -/
theorem line_number {c v : ByteArray} (h : ∀ x, x < c.size → byt c x ≠ 10) (hv : DecText v) (N : Nat) (hN : Bd (openSL ++ c) (openSL ++ c).size N) :
    ∃ u, Out (openSL ++ c ++ ⟨#[10]⟩ ++ v) (R 0 0 false false) [⟨(N + 1 : Nat), (N + 1 + v.size : Nat), kNumber, v⟩, eofTok (N + 1 + v.size)] u ∧ u.err = none := by
  obtain ⟨s, hs⟩ : ∃ s, s = openSL ++ c ++ ⟨#[10]⟩ ++ v := ⟨_, rfl⟩
  obtain ⟨B, hB⟩ : ∃ B : ByteArray, B = (⟨#[10]⟩ : ByteArray) ++ v := ⟨_, rfl⟩
  have hs2 : s = (openSL ++ c) ++ B := by rw [hs, hB, ByteArray.append_assoc]
  have hBs : B.size = v.size + 1 := by rw [hB, ByteArray.size_append]; show 1 + v.size = _; omega
  have hB0 : byt B 0 = 10 := by rw [hB, byt_l (by decide)]; rfl
  have hAs : (openSL ++ c).size = c.size + 2 := by rw [ByteArray.size_append]; show 2 + c.size = _; omega
  have hsz : s.size = c.size + 2 + (v.size + 1) := by rw [hs2, ByteArray.size_append, hAs, hBs]
  have b0 : byt s 0 = 47 := by rw [hs2, byt_l (by omega), byt_l (by decide)]; rfl
  have b1 : byt s 1 = 47 := by rw [hs2, byt_l (by omega), byt_l (by decide)]; rfl
  have hbd : Bd s (c.size + 2) N := by
    have := bd_prefix (B := B) (fun _ => by omega) hN
    rw [← hs2, hAs] at this
    exact this
  have hnl : byt s (c.size + 2) = 10 := by
    have := byt_r (A := openSL ++ c) (B := B) (k := 0) (by omega)
    rw [← hs2, hAs, Nat.add_zero] at this
    rw [this, hB0]
  have hrest : s.data.toList.drop (c.size + 2 + 1) = v.data.toList ++ [] := by
    have e : s.data.toList = (openSL ++ c ++ ⟨#[10]⟩ : ByteArray).data.toList ++ v.data.toList := by rw [hs, toList_app]
    have e2 : (openSL ++ c ++ ⟨#[10]⟩ : ByteArray).data.toList.length = c.size + 2 + 1 := by
      have := Lib.size_eq (openSL ++ c ++ ⟨#[10]⟩ : ByteArray)
      rw [ByteArray.size_append, hAs] at this
      have h1 : (⟨#[10]⟩ : ByteArray).size = 1 := rfl
      omega
    rw [e, ← e2, List.drop_left, List.append_nil]
  rw [← hs]
  refine ⟨_, out_line0 (by omega) b0 b1 (out_line (bd_two (by omega) (by omega) (by omega)) (e := c.size + 2) (N := N) (by omega) (by omega) hnl (fun x h1 h2 => ?_) hbd (out_dec hv hrest (.inl rfl) (out_eof (by omega)))), rfl⟩
  rw [hs2, byt_l (by omega)]
  have e0 := byt_r (A := openSL) (B := c) (k := x - 2) (by omega)
  rw [show openSL.size + (x - 2) = x by show 2 + (x - 2) = x; omega] at e0
  rw [e0]
  exact h (x - 2) (by omega)

def closeML : ByteArray := ⟨#[42, 47]⟩
/-- A comment, a number. -/
theorem multi_number {c v : ByteArray} (h : NoCloser c) (hv : DecText v) (N : Nat) (hN : Bd (openML ++ c ++ closeML) (openML ++ c ++ closeML).size N) :
    ∃ u, Out (openML ++ c ++ closeML ++ v) (R 0 0 false false) [⟨(N : Nat), (N + v.size : Nat), kNumber, v⟩, eofTok (N + v.size)] u ∧ u.err = none := by
  obtain ⟨A, hA⟩ : ∃ A, A = openML ++ c ++ closeML := ⟨_, rfl⟩
  obtain ⟨s, hs⟩ : ∃ s, s = A ++ v := ⟨_, rfl⟩
  rw [← hA] at hN ⊢
  rw [← hs]
  have h2 : (openML ++ c).size = c.size + 2 := by rw [ByteArray.size_append]; show 2 + c.size = _; omega
  have hAs : A.size = c.size + 4 := by rw [hA, ByteArray.size_append, h2]; rfl
  have hsz : s.size = c.size + 4 + v.size := by rw [hs, ByteArray.size_append, hAs]
  have bl : ∀ k, k < c.size + 4 → byt s k = byt A k := fun k hk => by rw [hs, byt_l (by omega)]
  have ba0 : byt A 0 = 47 := by rw [hA, byt_l (by omega), byt_l (by decide)]; rfl
  have ba1 : byt A 1 = 42 := by rw [hA, byt_l (by omega), byt_l (by decide)]; rfl
  have bac : ∀ k, k < c.size → byt A (k + 2) = byt c k := fun k hk => by
    rw [hA, byt_l (by omega)]
    have := byt_r (A := openML) (B := c) hk
    rw [show openML.size + k = k + 2 by show 2 + k = k + 2; omega] at this
    exact this
  have bae0 : byt A (c.size + 2) = 42 := by
    have := byt_r (A := openML ++ c) (B := closeML) (k := 0) (by decide)
    rw [h2, Nat.add_zero, ← hA] at this
    rw [this]; rfl
  have bae1 : byt A (c.size + 3) = 47 := by
    have := byt_r (A := openML ++ c) (B := closeML) (k := 1) (by decide)
    rw [h2, ← hA] at this
    rw [this]; rfl
  -- the boundary ahead of the star
  obtain ⟨M, hM⟩ := bd_ascii (s := A) (p := c.size + 2) (by omega) (by omega)
  have hM1 := hM.step (by omega)
  rw [(dec1 (s := A) (i := c.size + 2) (by omega)).2] at hM1
  have hM2 := hM1.step (by omega)
  rw [(dec1 (s := A) (i := c.size + 2 + 1) (by show byt A (c.size + 3) < 128; omega)).2] at hM2
  have hNM : N = M + 2 := by
    rw [hAs] at hN
    exact hN.cnt_inj hM2
  have v0 : 0 < v.size → byt v 0 < 128 := fun hp => by
    have hl : 0 < v.data.toList.length := by rw [hv.len]; exact hp
    have := hv.dig _ (List.getElem_mem hl)
    rw [byt_of hp]
    have e : v.data.toList[0]'hl = v[0]'hp := rfl
    rw [e] at this
    omega
  have hbd : Bd s (c.size + 2) M := by rw [hs]; exact bd_prefix v0 hM
  have hrest : s.data.toList.drop (c.size + 2 + 2) = v.data.toList ++ [] := by
    have e2 : A.data.toList.length = c.size + 2 + 2 := by have := Lib.size_eq A; omega
    rw [hs, toList_app, ← e2, List.drop_left, List.append_nil]
  have hfin := out_dec (s := s) (v := v) (i := c.size + 2 + 2) (n := M + 2) (f := false) (d := false) (l := [eofTok (M + 2 + v.size)]) hv hrest (.inl rfl) (out_eof (by omega))
  rw [hNM]
  refine ⟨_, out_multi0 (by omega) (by rw [bl 0 (by omega)]; exact ba0) (by rw [bl 1 (by omega)]; exact ba1) (out_multi (e := c.size + 2) (N := M) (bd_two (by omega) (by rw [bl 0 (by omega)]; omega) (by rw [bl 1 (by omega)]; omega)) (by omega) (by omega) (by rw [bl _ (by omega)]; exact bae0) (by rw [bl _ (by omega)]; exact bae1) (fun x h1 h3 => ?_) hbd hfin), rfl⟩
  rw [bl x (by omega), bl (x + 1) (by omega)]
  obtain ⟨y, rfl⟩ : ∃ y, x = y + 2 := ⟨x - 2, by omega⟩
  rintro ⟨e1, e2⟩
  rw [bac y (by omega)] at e1
  by_cases hy : y + 1 < c.size
  · rw [show y + 2 + 1 = (y + 1) + 2 by omega, bac (y + 1) hy] at e2
    exact h y hy ⟨e1, e2⟩
  · rw [show y + 2 + 1 = c.size + 2 by omega, bae0] at e2
    omega

/-! ### division -/
theorem div_out {a b : ByteArray} (ha : DecText a) (hb : DecText b) :
    ∃ u, Out (a ++ ⟨#[47]⟩ ++ b) (R 0 0 false false) [⟨0, (a.size : Nat), kNumber, a⟩, ⟨(a.size : Nat), (a.size + 1 : Nat), kOperator, ⟨#[47]⟩⟩, ⟨(a.size + 1 : Nat), (a.size + 1 + b.size : Nat), kNumber, b⟩, eofTok (a.size + 1 + b.size)] u ∧ u.err = none := by
  obtain ⟨s, hs⟩ : ∃ s, s = a ++ ⟨#[47]⟩ ++ b := ⟨_, rfl⟩
  rw [← hs]
  have h1 : (⟨#[47]⟩ : ByteArray).size = 1 := rfl
  have hsz : s.size = a.size + 1 + b.size := by rw [hs, ByteArray.size_append, ByteArray.size_append, h1]
  have hl : s.data.toList = a.data.toList ++ (47 :: (b.data.toList ++ [])) := by rw [hs, toList_app, toList_app]; simp
  have b47 : byt s a.size = 47 := by
    rw [hs, byt_l (by rw [ByteArray.size_append]; omega)]
    have := byt_r (A := a) (B := ⟨#[47]⟩) (k := 0) (by decide)
    rw [Nat.add_zero] at this
    rw [this]; rfl
  have hbs : ∀ k, k < b.size → byt s (a.size + 1 + k) = byt b k := fun k hk => by
    have := byt_r (A := a ++ ⟨#[47]⟩) (B := b) hk
    rw [ByteArray.size_append, h1, ← hs] at this
    exact this
  have b1 : a.size + 1 < s.size → byt s (a.size + 1) ≠ 47 ∧ byt s (a.size + 1) ≠ 42 := fun hp => by
    have hk : 0 < b.size := by omega
    have := hbs 0 hk
    rw [Nat.add_zero] at this
    rw [this]
    have hl2 : 0 < b.data.toList.length := by rw [hb.len]; exact hk
    have hd := hb.dig _ (List.getElem_mem hl2)
    rw [byt_of hk]
    have e : b.data.toList[0]'hl2 = b[0]'hk := rfl
    rw [e] at hd
    omega
  have hd0 : s.data.toList.drop 0 = a.data.toList ++ (47 :: (b.data.toList ++ [])) := hl
  have hd1 : s.data.toList.drop (a.size + 1) = b.data.toList ++ [] := by
    rw [hl, show a.size + 1 = (a.data.toList ++ [47]).length by rw [List.length_append, ha.len]; rfl, show a.data.toList ++ (47 :: (b.data.toList ++ [])) = (a.data.toList ++ [47]) ++ (b.data.toList ++ []) by simp, List.drop_left]
  have hx : s.extract a.size (a.size + 1) = ⟨#[47]⟩ := by
    apply ByteArray.ext
    apply Array.ext'
    rw [Lib.extract_data, hl, show a.size = a.data.toList.length from ha.len.symm, List.drop_left]
    simp
  have o3 := out_dec (s := s) (v := b) (i := a.size + 1) (n := a.size + 1) (f := false) (d := false) (l := [eofTok (a.size + 1 + b.size)]) hb hd1 (.inl rfl) (out_eof (by omega))
  have o2 := out_slash (s := s) (i := a.size) (n := a.size) (by omega) b47 b1 o3
  rw [hx] at o2
  have o1 := out_dec (s := s) (v := a) (i := 0) (n := 0) (f := false) (d := false) ha hd0 (.inr ⟨47, _, rfl, .inr (.inr rfl)⟩) (by rw [Nat.zero_add]; exact o2)
  rw [Nat.zero_add] at o1
  exact ⟨_, o1, rfl⟩
theorem div_comment {a b : ByteArray} (ha : DecText a) (hb : DecText b) :
    ∃ u, Out (a ++ openSL ++ b) (R 0 0 false false) [⟨0, (a.size : Nat), kNumber, a⟩, eofTok (a.size + 2 + b.size)] u ∧ u.err = none := by
  obtain ⟨s, hs⟩ : ∃ s, s = a ++ openSL ++ b := ⟨_, rfl⟩
  rw [← hs]
  have h1 : openSL.size = 2 := rfl
  have hsz : s.size = a.size + 2 + b.size := by rw [hs, ByteArray.size_append, ByteArray.size_append, h1]
  have hl : s.data.toList = a.data.toList ++ (47 :: (47 :: b.data.toList)) := by rw [hs, toList_app, toList_app]; show (a.data.toList ++ [47, 47]) ++ _ = _; simp
  have bb : ∀ k, k < 2 → byt s (a.size + k) = 47 := fun k hk => by
    rw [hs, byt_l (by rw [ByteArray.size_append]; omega), byt_r (by omega)]
    have : k = 0 ∨ k = 1 := by omega
    rcases this with rfl | rfl <;> rfl
  have b0 := bb 0 (by omega)
  have b1 := bb 1 (by omega)
  rw [Nat.add_zero] at b0
  have hbs : ∀ k, k < b.size → byt s (a.size + 2 + k) = byt b k := fun k hk => by
    have := byt_r (A := a ++ openSL) (B := b) hk
    rw [ByteArray.size_append, h1, ← hs] at this
    exact this
  have hdb : ∀ k, k < b.size → 48 ≤ byt b k ∧ byt b k ≤ 57 := fun k hk => by
    have hl2 : k < b.data.toList.length := by rw [hb.len]; exact hk
    have hd := hb.dig _ (List.getElem_mem hl2)
    rw [byt_of hk]
    have e : b.data.toList[k]'hl2 = b[k]'hk := rfl
    rw [e] at hd
    exact hd
  have hda : ∀ k, k < a.size → byt s k < 128 := fun k hk => by
    rw [hs, byt_l (by rw [ByteArray.size_append]; omega), byt_l hk, byt_of hk]
    have hl2 : k < a.data.toList.length := by rw [ha.len]; exact hk
    have hd := ha.dig _ (List.getElem_mem hl2)
    have e : a.data.toList[k]'hl2 = a[k]'hk := rfl
    rw [e] at hd
    omega
  have hasc : ∀ k, k < s.size → byt s k < 128 := fun k hk => by
    by_cases h2 : k < a.size
    · exact hda k h2
    · by_cases h3 : k < a.size + 2
      · have := bb (k - a.size) (by omega)
        rw [show a.size + (k - a.size) = k by omega] at this
        omega
      · have h4 := hbs (k - (a.size + 2)) (by omega)
        rw [show a.size + 2 + (k - (a.size + 2)) = k by omega] at h4
        have := hdb (k - (a.size + 2)) (by omega)
        omega
  have hbd : ∀ k, k ≤ s.size → Bd s k k := by
    intro k
    induction k with
    | zero => intro _; exact .zero
    | succ k ih =>
      intro hk
      have := (ih (by omega)).step (by omega : k < s.size)
      rw [(dec1 (hasc k (by omega))).2] at this
      exact this
  have hd0 : s.data.toList.drop 0 = a.data.toList ++ (47 :: (47 :: b.data.toList)) := hl
  have hno : ∀ x, a.size + 2 ≤ x → x < s.size → byt s x ≠ 10 := fun x h2 h3 => by
    have h4 := hbs (x - (a.size + 2)) (by omega)
    rw [show a.size + 2 + (x - (a.size + 2)) = x by omega] at h4
    have := hdb (x - (a.size + 2)) (by omega)
    omega
  have o3 := out_line_end (s := s) (i := a.size) (n := a.size) (j := a.size + 2) (m := a.size + 2) (N := s.size) (f := false) (d := false) (hbd _ (by omega)) hno (hbd _ (Nat.le_refl _)) (out_eof rfl)
  have o2 := out_line0 (s := s) (i := a.size) (n := a.size) (by omega) b0 b1 o3
  have o1 := out_dec (s := s) (v := a) (i := 0) (n := 0) (f := false) (d := false) ha hd0 (.inr ⟨47, _, rfl, .inr (.inr rfl)⟩) (by rw [Nat.zero_add]; exact o2)
  rw [Nat.zero_add, hsz] at o1
  exact ⟨_, o1, rfl⟩

/-! ### 'a?.' and a number -/
theorem kw_a : kwOf ⟨#[97]⟩ = .other := by decide
theorem chain_out {v : ByteArray} (hv : DecText v) :
    ∃ u, Out ((⟨#[97, 63, 46]⟩ : ByteArray) ++ v) (R 0 0 false false) [⟨0, (1 : Nat), kIdentifier, ⟨#[97]⟩⟩, ⟨(1 : Nat), (3 : Nat), kOperator, ⟨#[63, 46]⟩⟩, ⟨(3 : Nat), (3 + v.size : Nat), kNumber, v⟩, eofTok (3 + v.size)] u ∧ u.err = none := by
  obtain ⟨A, hA⟩ : ∃ A : ByteArray, A = ⟨#[97, 63, 46]⟩ := ⟨_, rfl⟩
  rw [← hA]
  obtain ⟨s, hs⟩ : ∃ s, s = A ++ v := ⟨_, rfl⟩
  rw [← hs]
  have hAs : A.size = 3 := by rw [hA]; rfl
  have hAl : A.data.toList = [97, 63, 46] := by rw [hA]
  have hsz : s.size = 3 + v.size := by rw [hs, ByteArray.size_append, hAs]
  have hl : s.data.toList = [97, 63, 46] ++ v.data.toList := by rw [hs, toList_app, hAl]
  have b0 : byt s 0 = 97 := by rw [hs, byt_l (by omega), hA]; rfl
  have b1 : byt s 1 = 63 := by rw [hs, byt_l (by omega), hA]; rfl
  have b2 : byt s 2 = 46 := by rw [hs, byt_l (by omega), hA]; rfl
  have hd : s.data.toList.drop 3 = v.data.toList ++ [] := by rw [hl, List.append_nil]; rfl
  have x0 : s.extract 0 1 = ⟨#[97]⟩ := by
    apply ByteArray.ext; apply Array.ext'
    rw [Lib.extract_data, hl]; rfl
  have x1 : s.extract 1 3 = ⟨#[63, 46]⟩ := by
    apply ByteArray.ext; apply Array.ext'
    rw [Lib.extract_data, hl]; rfl
  have o3 := out_dec (s := s) (v := v) (i := 3) (n := 3) (f := false) (d := false) (l := [eofTok (3 + v.size)]) hv hd (.inl rfl) (out_eof (by omega))
  have o2 := out_quest (s := s) (i := 1) (n := 1) (w := 2) (f := false) (d := false) (by omega) b1 (.inl ⟨rfl, by omega, .inl b2⟩) o3
  rw [x1] at o2
  have hp : peek s (R 0 0 false false) = ((97 : Nat) : Int) := by rw [peek_b (s := s) (t := R 0 0 false false) (by show 0 < s.size; omega) (by show byt s 0 < 128; omega)]; show (byt s 0 : Int) = _; rw [b0]
  have hn : next s (R 0 0 false false) = At .root 0 0 1 1 false false := by rw [next_b (s := s) (t := R 0 0 false false) (by show 0 < s.size; omega) (by show byt s 0 < 128; omega)]; rfl
  have hp1 : ∀ q, peek s (At q 0 0 1 1 false false) = 63 := fun q => by rw [peek_b (s := s) (t := At q 0 0 1 1 false false) (by show 1 < s.size; omega) (by show byt s 1 < 128; omega)]; show (byt s 1 : Int) = 63; rw [b1]; rfl
  have a97 : alnum ((97 : Nat) : Int) = true := by rw [alnum_ascii 97 (by decide)]; decide
  have a63 : alnum 63 = false := by have := alnum_ascii 63 (by decide); rw [show ((63 : Nat) : Int) = 63 from rfl] at this; rw [this]; decide
  have hsk : alnumSkip s (At .identifier 0 0 0 0 false false) = At .identifier 0 0 1 1 false false := by
    have hp' : peek s (At .identifier 0 0 0 0 false false) = ((97 : Nat) : Int) := hp
    have hn' : next s (At .identifier 0 0 0 0 false false) = At .identifier 0 0 1 1 false false := by rw [next_b (s := s) (t := At .identifier 0 0 0 0 false false) (by show 0 < s.size; omega) (by show byt s 0 < 128; omega)]; rfl
    rw [alnumSkip_eq, hp', if_pos a97, hn', alnumSkip_eq, hp1, if_neg (by rw [a63]; decide)]
  have o1 : Out s (At .identifier 0 0 0 0 false false) (⟨0, (1 : Nat), kIdentifier, s.extract 0 1⟩ :: _) _ := out_emit (k := kIdentifier) (q := .identifier) (a := 1) (b := 1) (by
    show identifier s _ = _
    unfold identifier
    rw [hsk]
    have hw : word s (At .identifier 0 0 1 1 false false) = ⟨#[97]⟩ := x0
    rw [hw, kw_a]
    rfl) o2
  rw [x0] at o1
  exact ⟨_, step_to (q := .root) (q' := .identifier) (by
    show root s (R 0 0 false false) = _
    rw [root_let hp (by omega) (by rw [hn, hp1]; decide) (by rw [hn, hp1]; decide)]
    rfl) o1, rfl⟩

/-! ### question marks and dots -/
def questGo (s : ByteArray) : Nat → Nat → List Tok
  | 0, _ => []
  | k + 1, i => if i < s.size then
      (if byt s i = 32 then questGo s k (i + 1)
       else if i + 1 < s.size ∧ ((byt s i = 63 ∧ (byt s (i + 1) = 63 ∨ byt s (i + 1) = 46)) ∨ (byt s i = 46 ∧ byt s (i + 1) = 46)) then ⟨i, (i + 2 : Nat), kOperator, s.extract i (i + 2)⟩ :: questGo s k (i + 2)
       else ⟨i, (i + 1 : Nat), kOperator, s.extract i (i + 1)⟩ :: questGo s k (i + 1)) else []
theorem quest_out {s : ByteArray} (h : ∀ k, k < s.size → byt s k = 63 ∨ byt s k = 46 ∨ byt s k = 32) : ∀ (k i : Nat), s.size ≤ i + k → i ≤ s.size → Out s (R i i false false) (questGo s k i ++ [eofTok s.size]) ⟨none, s.size, s.size, s.size, s.size, true, false, none, []⟩ := by
  intro k
  induction k with
  | zero =>
    intro i h1 h2
    obtain rfl : i = s.size := by omega
    exact out_eof rfl
  | succ k ih =>
    intro i h1 h2
    unfold questGo
    by_cases hi : i < s.size
    · rw [if_pos hi]
      have hb := h i hi
      by_cases h32 : byt s i = 32
      · rw [if_pos h32]
        exact out_space hi (.inl h32) (ih (i + 1) (by omega) (by omega))
      · rw [if_neg h32]
        have hb1 : i + 1 < s.size → byt s (i + 1) = 63 ∨ byt s (i + 1) = 46 ∨ byt s (i + 1) = 32 := fun hl => h (i + 1) hl
        by_cases hw : i + 1 < s.size ∧ ((byt s i = 63 ∧ (byt s (i + 1) = 63 ∨ byt s (i + 1) = 46)) ∨ (byt s i = 46 ∧ byt s (i + 1) = 46))
        · rw [if_pos hw]
          have hr := ih (i + 2) (by omega) (by omega)
          rcases hw.2 with ⟨e, e2⟩ | ⟨e, e2⟩
          · exact out_quest hi e (.inl ⟨rfl, hw.1, e2.symm⟩) hr
          · exact out_dot hi e (fun hl => by omega) (.inl ⟨rfl, hw.1, e2⟩) hr
        · rw [if_neg hw]
          have hr := ih (i + 1) (by omega) (by omega)
          by_cases e : byt s i = 63
          · exact out_quest hi e (.inr ⟨rfl, fun hl => by constructor <;> intro e2 <;> exact hw ⟨hl, .inl ⟨e, by omega⟩⟩⟩) hr
          · have e' : byt s i = 46 := by omega
            exact out_dot hi e' (fun hl => by have := hb1 hl; omega) (.inr ⟨rfl, fun hl e2 => hw ⟨hl, .inr ⟨e', e2⟩⟩⟩) hr
    · rw [if_neg hi]
      obtain rfl : i = s.size := by omega
      exact out_eof rfl

/-! ### the slash's table -/
def ones (s : ByteArray) : Nat → Nat → Nat
  | 0, j => j
  | k + 1, j => if j < s.size ∧ byt s j = 49 then ones s k (j + 1) else j
def toLine (s : ByteArray) : Nat → Nat → Nat
  | 0, j => j
  | k + 1, j => if j < s.size ∧ byt s j ≠ 10 then toLine s k (j + 1) else j
def lineNext (s : ByteArray) (i : Nat) : Nat := if toLine s s.size i < s.size then toLine s s.size i + 1 else toLine s s.size i
def slashGo (s : ByteArray) : Nat → Nat → List Tok
  | 0, _ => []
  | k + 1, i => if i < s.size then
      (if byt s i = 32 ∨ byt s i = 10 then slashGo s k (i + 1)
       else if byt s i = 49 then ⟨i, (ones s s.size i : Nat), kNumber, s.extract i (ones s s.size i)⟩ :: slashGo s k (ones s s.size i)
       else if i + 1 < s.size ∧ byt s (i + 1) = 47 then slashGo s k (lineNext s (i + 2))
       else ⟨i, (i + 1 : Nat), kOperator, ⟨#[47]⟩⟩ :: slashGo s k (i + 1)) else []
theorem ones_spec (s : ByteArray) : ∀ (k j : Nat), s.size ≤ j + k → j ≤ s.size → j ≤ ones s k j ∧ ones s k j ≤ s.size ∧ (∀ x, j ≤ x → x < ones s k j → byt s x = 49) ∧ (ones s k j < s.size → byt s (ones s k j) ≠ 49) := by
  intro k
  induction k with
  | zero => intro j h1 h2; exact ⟨Nat.le_refl _, h2, fun x h3 h4 => by unfold ones at h4; omega, fun h => by unfold ones at h; omega⟩
  | succ k ih =>
    intro j h1 h2
    unfold ones
    by_cases hc : j < s.size ∧ byt s j = 49
    · rw [if_pos hc]
      obtain ⟨a, b, c, e⟩ := ih (j + 1) (by omega) (by omega)
      exact ⟨by omega, b, fun x h3 h4 => by
        by_cases hx : x = j
        · rw [hx]; exact hc.2
        · exact c x (by omega) h4, e⟩
    · rw [if_neg hc]
      exact ⟨Nat.le_refl _, h2, fun x h3 h4 => by omega, fun h e => hc ⟨h, e⟩⟩
theorem toLine_spec (s : ByteArray) : ∀ (k j : Nat), s.size ≤ j + k → j ≤ s.size → j ≤ toLine s k j ∧ toLine s k j ≤ s.size ∧ (∀ x, j ≤ x → x < toLine s k j → byt s x ≠ 10) ∧ (toLine s k j < s.size → byt s (toLine s k j) = 10) := by
  intro k
  induction k with
  | zero => intro j h1 h2; exact ⟨Nat.le_refl _, h2, fun x h3 h4 => by unfold toLine at h4; omega, fun h => by unfold toLine at h; omega⟩
  | succ k ih =>
    intro j h1 h2
    unfold toLine
    by_cases hc : j < s.size ∧ byt s j ≠ 10
    · rw [if_pos hc]
      obtain ⟨a, b, c, e⟩ := ih (j + 1) (by omega) (by omega)
      exact ⟨by omega, b, fun x h3 h4 => by
        by_cases hx : x = j
        · rw [hx]; exact hc.2
        · exact c x (by omega) h4, e⟩
    · rw [if_neg hc]
      exact ⟨Nat.le_refl _, h2, fun x h3 h4 => by omega, fun h => by
        by_cases e : byt s j = 10
        · exact e
        · exact absurd ⟨h, e⟩ hc⟩
theorem bd_all {s : ByteArray} (h : ∀ k, k < s.size → byt s k < 128) : ∀ k, k ≤ s.size → Bd s k k := by
  intro k
  induction k with
  | zero => intro _; exact .zero
  | succ k ih =>
    intro hk
    have := (ih (by omega)).step (by omega : k < s.size)
    rw [(dec1 (h k (by omega))).2] at this
    exact this
theorem drop_at {s : ByteArray} {i : Nat} (h : i < s.size) : s.data.toList.drop i = s.get! i :: s.data.toList.drop (i + 1) := by
  have hl : i < s.data.toList.length := by have := Lib.size_eq s; omega
  rw [List.drop_eq_getElem_cons hl]
  congr 1
  have h' : i < s.data.size := h
  simp only [ByteArray.get!, Array.getElem!_eq_getD, Array.getD]
  rw [dif_pos h']
  rfl
theorem extract_one {s : ByteArray} {i : Nat} (h : i < s.size) : s.extract i (i + 1) = ⟨#[s.get! i]⟩ := by
  apply ByteArray.ext
  apply Array.ext'
  rw [Lib.extract_data, drop_at h, show i + 1 - i = 1 by omega]
  rfl
theorem get_byt {s : ByteArray} {i : Nat} {c : UInt8} (h : byt s i = c.toNat) : s.get! i = c := UInt8.toNat_inj.1 h
/-- A stretch of s as a list. -/
theorem drop_run {s : ByteArray} {i e : Nat} (h : i ≤ e) (he : e ≤ s.size) : s.data.toList.drop i = (s.extract i e).data.toList ++ s.data.toList.drop e := by
  rw [Lib.extract_data]
  have := List.take_append_drop (e - i) (s.data.toList.drop i)
  rw [List.drop_drop, show i + (e - i) = e by omega] at this
  exact this.symm
theorem extract_len {s : ByteArray} {i e : Nat} (he : e ≤ s.size) : (s.extract i e).data.toList.length = e - i := by
  rw [Lib.extract_data, List.length_take, List.length_drop]
  have := Lib.size_eq s
  omega
theorem extract_mem {s : ByteArray} {i e : Nat} (he : e ≤ s.size) {b : UInt8} (hb : b ∈ (s.extract i e).data.toList) : ∃ x, i ≤ x ∧ x < e ∧ byt s x = b.toNat := by
  obtain ⟨k, hk, e1⟩ := List.getElem_of_mem hb
  rw [extract_len he] at hk
  refine ⟨i + k, by omega, by omega, ?_⟩
  rw [byt_of (by omega), ← e1]
  congr 1
  simp [Lib.extract_data]
  rfl

theorem slash_out {s : ByteArray} (h : ∀ k, k < s.size → byt s k = 47 ∨ byt s k = 32 ∨ byt s k = 10 ∨ byt s k = 49) : ∀ (k i : Nat) (f : Bool), s.size ≤ i + k → i ≤ s.size → Out s (R i i f false) (slashGo s k i ++ [eofTok s.size]) ⟨none, s.size, s.size, s.size, s.size, true, false, none, []⟩ := by
  have hasc : ∀ k, k < s.size → byt s k < 128 := fun k hk => by have := h k hk; omega
  have hbd := bd_all hasc
  intro k
  induction k with
  | zero =>
    intro i f h1 h2
    obtain rfl : i = s.size := by omega
    exact out_eof rfl
  | succ k ih =>
    intro i f h1 h2
    unfold slashGo
    by_cases hi : i < s.size
    · rw [if_pos hi]
      have hb := h i hi
      by_cases h32 : byt s i = 32 ∨ byt s i = 10
      · rw [if_pos h32]
        exact out_space hi (by omega) (ih (i + 1) f (by omega) (by omega))
      rw [if_neg h32]
      by_cases h49 : byt s i = 49
      · rw [if_pos h49]
        obtain ⟨a, b, c, e⟩ := ones_spec s s.size i (by omega) (by omega)
        obtain ⟨j, hj⟩ : ∃ j, ones s s.size i = j := ⟨_, rfl⟩
        rw [hj] at a b c e ⊢
        have hij : i < j := by
          by_cases hij : i = j
          · subst hij; exact absurd h49 (e hi)
          · omega
        have hlen := extract_len (s := s) (i := i) b
        have hon := out_num (s := s) (i := i) (n := i) (f := f) (d := false) (p := (s.extract i j).data.toList) (rest := s.data.toList.drop j) (drop_run a b)
          (by intro e2; rw [e2] at hlen; simp at hlen; omega)
          (fun x hx => by obtain ⟨y, y1, y2, y3⟩ := extract_mem b hx; have := c y y1 y2; omega)
          (.inr (by
            intro e2
            have hm : (48 : UInt8) ∈ (s.extract i j).data.toList := List.mem_of_mem_head? (by rw [e2]; rfl)
            obtain ⟨y, y1, y2, y3⟩ := extract_mem b hm
            have := c y y1 y2
            have h48 : (48 : UInt8).toNat = 48 := rfl
            omega))
          (by
            by_cases hjs : j < s.size
            · refine .inr ⟨s.get! j, _, drop_at hjs, ?_⟩
              have h3 := h j hjs
              have h4 := e hjs
              rcases h3 with h3 | h3 | h3 | h3
              · exact .inr (.inr (get_byt (c := 47) h3))
              · exact .inl (get_byt (c := 32) h3)
              · exact .inr (.inl (get_byt (c := 10) h3))
              · exact absurd h3 h4
            · exact .inl (List.drop_eq_nil_of_le (by have := Lib.size_eq s; omega)))
          (by rw [hlen, show i + (j - i) = j by omega]; exact ih j f (by omega) b)
        rw [hlen, show i + (j - i) = j by omega] at hon
        exact hon
      rw [if_neg h49]
      have h47 : byt s i = 47 := by omega
      by_cases hc : i + 1 < s.size ∧ byt s (i + 1) = 47
      · rw [if_pos hc]
        obtain ⟨a, b, c, e⟩ := toLine_spec s s.size (i + 2) (by omega) (by omega)
        unfold lineNext
        obtain ⟨j, hj⟩ : ∃ j, toLine s s.size (i + 2) = j := ⟨_, rfl⟩
        rw [hj] at a b c e ⊢
        refine out_line0 hc.1 h47 hc.2 ?_
        by_cases hjs : j < s.size
        · rw [if_pos hjs]
          exact out_line (hbd _ (by omega)) a hjs (e hjs) c (hbd _ b) (ih (j + 1) f (by omega) (by omega))
        · rw [if_neg hjs]
          obtain rfl : j = s.size := by omega
          exact out_line_end (hbd _ (by omega)) c (hbd _ (Nat.le_refl _)) (ih s.size true (by omega) (Nat.le_refl _))
      · rw [if_neg hc]
        have hx : s.extract i (i + 1) = ⟨#[47]⟩ := by rw [extract_one hi, get_byt (c := 47) h47]
        have ho := out_slash (s := s) (i := i) (n := i) (f := f) (d := false) hi h47 (fun hl => ⟨fun e => hc ⟨hl, e⟩, fun e => by have := h (i + 1) hl; omega⟩) (ih (i + 1) f (by omega) (by omega))
        rw [hx] at ho
        exact ho
    · rw [if_neg hi]
      obtain rfl : i = s.size := by omega
      exact out_eof rfl

end Go.Proofs.YtdgpholpdaelhaaGreatFmt
