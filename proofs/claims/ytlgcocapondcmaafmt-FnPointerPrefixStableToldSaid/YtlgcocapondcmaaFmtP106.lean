/-
  n003_106's laws on '#' in plain Lean: a run of hashes and the word behind it. No program stands in this text.
-/
import Derived.Test.YtlgcocapondcmaaFmtJB
namespace Go.Proofs.YtlgcocapondcmaaFmt
open Go Go.Lib

theorem alnum_run {s : ByteArray} : ∀ (m : Nat) (t : St), (∀ x, t.eb ≤ x → x < t.eb + m → x < s.size ∧ byt s x < 128 ∧ alnum (byt s x : Int) = true) → (t.eb + m < s.size → byt s (t.eb + m) < 128 ∧ alnum (byt s (t.eb + m) : Int) = false) → alnumSkip s t = adv m t
  | 0, t, _, h2 => by
    rw [alnumSkip_eq]
    by_cases hl : t.eb < s.size
    · have h3 := h2 hl
      rw [Nat.add_zero] at h3
      rw [peek_b hl h3.1, h3.2, if_neg (by decide)]
      rfl
    · rw [peek_e hl, if_neg (by rw [alnum_end]; decide)]
      rfl
  | m + 1, t, h1, h2 => by
    obtain ⟨a, b, c⟩ := h1 t.eb (Nat.le_refl _) (by omega)
    rw [alnumSkip_eq, peek_b a b, if_pos c, next_b a b]
    have ih := alnum_run m (adv 1 t) (fun x h3 h4 => h1 x (by change t.eb + 1 ≤ x at h3; omega) (by change x < t.eb + 1 + m at h4; omega)) (fun h => by
      change t.eb + 1 + m < s.size at h
      have := h2 (by omega)
      show byt s (t.eb + 1 + m) < 128 ∧ alnum (byt s (t.eb + 1 + m) : Int) = false
      rw [show t.eb + 1 + m = t.eb + (m + 1) by omega]
      exact this)
    rw [ih, adv_add, Nat.add_comm]

/-- The tokens of the hashes from i to k. -/
def hashGo (k i : Nat) : List Tok :=
  if _h : i + 2 ≤ k then ⟨i, (i + 2 : Nat), kOperator, ⟨#[35, 35]⟩⟩ :: hashGo k (i + 2)
  else if i < k then [⟨i, (k : Nat), kOperator, ⟨#[35]⟩⟩] else []
termination_by k - i
/-- The word behind them. -/
def hashWord (s : ByteArray) (k m : Nat) : List Tok := if m = 0 then [] else [⟨k, (k + m : Nat), kIdentifier, s.extract k (k + m)⟩]

/-- A text that begins with k hashes and a word of m bytes, a space or nothing behind. -/
structure Hashed (s : ByteArray) (k m : Nat) : Prop where
  hash : ∀ x, x < k → byt s x = 35
  word : ∀ x, k ≤ x → x < k + m → byt s x < 128 ∧ alnum (byt s x : Int) = true
  le : k + m ≤ s.size
  stop : k + m < s.size → byt s (k + m) = 32

theorem alnum35 : alnum ((35 : Nat) : Int) = false := by rw [alnum_ascii 35 (by decide)]; decide
theorem alnum32 : alnum ((32 : Nat) : Int) = false := by rw [alnum_ascii 32 (by decide)]; decide
theorem extract_hash {s : ByteArray} {i j : Nat} (l : List UInt8) (hj : j ≤ s.size) (hl : i + l.length = j) (h : ∀ x, i ≤ x → x < j → byt s x = 35) (hall : ∀ b ∈ l, b = 35) : s.extract i j = ⟨l.toArray⟩ := by
  apply ByteArray.ext
  apply Array.ext'
  rw [Lib.extract_data]
  have hs := Lib.size_eq s
  apply List.ext_getElem
  · rw [List.length_take, List.length_drop]; simp; omega
  · intro n h1 h2
    have h3 : n < l.length := by simpa using h2
    rw [List.getElem_take, List.getElem_drop]
    have e1 := h (i + n) (by omega) (by omega)
    rw [byt_of (by omega)] at e1
    have e2 : s.data.toList[i + n]'(by omega) = s[i + n]'(by omega) := rfl
    rw [e2]
    have e3 : (⟨l.toArray⟩ : ByteArray).data.toList[n]'h2 = l[n]'h3 := by simp
    rw [e3, hall _ (List.getElem_mem h3)]
    exact UInt8.toNat_inj.1 e1

theorem hash_out {s : ByteArray} {k m : Nat} (H : Hashed s k m) (d : Bool) {l : List Tok} {u : St} (ho : Out s (R (k + m) (k + m) false d) l u) : ∀ (c i : Nat), k - i = c → i < k → Out s (R i i false d) (hashGo k i ++ (hashWord s k m ++ l)) u := by
  have hkl := H.le
  intro c
  induction c using Nat.strongRecOn with
  | _ c ih =>
  intro i hc hi
  have hil : i < s.size := by omega
  have b35 := H.hash i hi
  have hp : peek s (R i i false d) = 35 := by rw [peek_b (s := s) (t := R i i false d) hil (by show byt s i < 128; omega)]; show (byt s i : Int) = 35; omega
  have hn : next s (R i i false d) = At .root i i (i + 1) (i + 1) false d := by rw [next_b (s := s) (t := R i i false d) hil (by show byt s i < 128; omega)]; rfl
  refine step_to (q := .root) (q' := .pointer) (a := i + 1) (b := i + 1) (by
    show root s (R i i false d) = _
    rw [root_35 hp, hn]) ?_
  -- the word from the hashes' end on
  have hrun : ∀ t : St, t.eb = k → alnumSkip s t = adv m t := fun t ht => alnum_run m t (fun x h1 h2 => ⟨by omega, H.word x (by omega) (by omega)⟩) (fun h => by
    rw [ht] at h ⊢
    rw [H.stop h]
    exact ⟨by omega, alnum32⟩)
  -- where the operator ends at k
  have hlast : ∀ (j : Nat) (v : ByteArray), j < k → s.extract j k = v → accept cHash s (At .pointer j j (j + 1) (j + 1) false d) = At .pointer j j k k false d → Out s (At .pointer j j (j + 1) (j + 1) false d) (⟨j, (k : Nat), kOperator, v⟩ :: (hashWord s k m ++ l)) u := by
    intro j v hj hv ha
    have hpa : pointerAt s (At .pointer j j (j + 1) (j + 1) false d) = { At .pointer k k (k + m) (k + m) false d with toks := [⟨j, k, kOperator, v⟩] } := by
      unfold pointerAt
      rw [ha, hrun _ rfl]
      unfold emit word
      rw [show s.extract (At .pointer j j k k false d).sb (At .pointer j j k k false d).eb = v from hv]
      rfl
    have hw : word s (pointerAt s (At .pointer j j (j + 1) (j + 1) false d)) = s.extract k (k + m) := by rw [hpa]; rfl
    unfold hashWord
    by_cases hm : m = 0
    · rw [if_pos hm, List.nil_append]
      subst hm
      refine out_tok (t' := R k k false d) rfl ?_ rfl rfl ho
      have he : s.extract k (k + 0) = ⟨#[]⟩ := by
        apply ByteArray.ext; apply Array.ext'
        rw [Lib.extract_data, show k + 0 - k = 0 by omega]; rfl
      have hstt : state .pointer s (At .pointer j j (j + 1) (j + 1) false d) = (some .root, { At .pointer k k (k + 0) (k + 0) false d with toks := [⟨j, k, kOperator, v⟩] }) := by
        show pointer s _ = _
        unfold pointer
        rw [hw, if_pos he, hpa]
      rw [step_some (q := .pointer) rfl, hstt]
      rfl
    · rw [if_neg hm]
      refine out_two (t' := R (k + m) (k + m) false d) rfl ?_ rfl rfl ho
      have he : ¬ s.extract k (k + m) = ⟨#[]⟩ := by
        intro e
        have := congrArg ByteArray.size e
        rw [ByteArray.size_extract] at this
        change min (k + m) s.size - k = 0 at this
        omega
      have hstt : state .pointer s (At .pointer j j (j + 1) (j + 1) false d) = (some .root, emit kIdentifier s { At .pointer k k (k + m) (k + m) false d with toks := [⟨j, k, kOperator, v⟩] }) := by
        show pointer s _ = _
        unfold pointer
        rw [hw, if_neg he, hpa]
      rw [step_some (q := .pointer) rfl, hstt]
      rfl
  by_cases h2 : i + 2 ≤ k
  · have b35' := H.hash (i + 1) (by omega)
    have hacc : accept cHash s (At .pointer i i (i + 1) (i + 1) false d) = At .pointer i i (i + 2) (i + 2) false d := by
      have ha : acceptB cHash s (At .pointer i i (i + 1) (i + 1) false d) = true := (accept_b (v := [35]) (by decide)).2 ⟨by show i + 1 < s.size; omega, 35, by simp, by show _ = byt s (i + 1); rw [b35']; rfl⟩
      unfold accept
      rw [if_pos ha, next_b (s := s) (t := At .pointer i i (i + 1) (i + 1) false d) (by show i + 1 < s.size; omega) (by show byt s (i + 1) < 128; omega)]
      rfl
    have hx : s.extract i (i + 2) = ⟨#[35, 35]⟩ := extract_hash [35, 35] (by omega) rfl (fun x h3 h4 => H.hash x (by omega)) (by decide)
    rw [hashGo, dif_pos h2, List.cons_append]
    by_cases h3 : i + 2 = k
    · have := hlast i ⟨#[35, 35]⟩ hi (by rw [← h3]; exact hx) (by rw [hacc, h3])
      rw [hashGo, dif_neg (by omega), if_neg (by omega), h3]
      exact this
    · have hpa : pointerAt s (At .pointer i i (i + 1) (i + 1) false d) = { At .pointer (i + 2) (i + 2) (i + 2) (i + 2) false d with toks := [⟨i, (i + 2 : Nat), kOperator, ⟨#[35, 35]⟩⟩] } := by
        unfold pointerAt
        have b := H.hash (i + 2) (by omega)
        rw [hacc]
        have hr : alnumSkip s (emit kOperator s (At .pointer i i (i + 2) (i + 2) false d)) = adv 0 (emit kOperator s (At .pointer i i (i + 2) (i + 2) false d)) := alnum_run 0 _ (fun x h4 h5 => by omega) (fun h => by
          show byt s (i + 2) < 128 ∧ alnum (byt s (i + 2) : Int) = false
          rw [b]
          exact ⟨by omega, alnum35⟩)
        rw [hr, adv_zero]
        unfold emit word
        rw [show s.extract (At .pointer i i (i + 2) (i + 2) false d).sb (At .pointer i i (i + 2) (i + 2) false d).eb = ⟨#[35, 35]⟩ from hx]
        rfl
      have hw : word s (pointerAt s (At .pointer i i (i + 1) (i + 1) false d)) = ⟨#[]⟩ := by
        rw [hpa]
        show s.extract (i + 2) (i + 2) = _
        apply ByteArray.ext; apply Array.ext'
        rw [Lib.extract_data, Nat.sub_self]; rfl
      refine out_tok (t' := R (i + 2) (i + 2) false d) rfl ?_ rfl rfl (ih (k - (i + 2)) (by omega) (i + 2) rfl (by omega))
      have hstt : state .pointer s (At .pointer i i (i + 1) (i + 1) false d) = (some .root, { At .pointer (i + 2) (i + 2) (i + 2) (i + 2) false d with toks := [⟨i, (i + 2 : Nat), kOperator, ⟨#[35, 35]⟩⟩] }) := by
        show pointer s _ = _
        unfold pointer
        rw [if_pos hw, hpa]
      rw [step_some (q := .pointer) rfl, hstt]
      rfl
  · have hk1 : i + 1 = k := by omega
    have hacc : accept cHash s (At .pointer i i (i + 1) (i + 1) false d) = At .pointer i i (i + 1) (i + 1) false d := by
      have ha : acceptB cHash s (At .pointer i i (i + 1) (i + 1) false d) = false := accept_no (v := [35]) (by decide) (fun hl b hb => by
        simp only [List.mem_cons, List.not_mem_nil, or_false] at hb
        subst hb
        change i + 1 < s.size at hl
        show (35 : Nat) ≠ byt s (i + 1)
        rw [hk1] at hl ⊢
        intro e
        by_cases hm : m = 0
        · have := H.stop (by omega)
          rw [hm, Nat.add_zero] at this
          omega
        · have := (H.word k (Nat.le_refl _) (by omega)).2
          rw [← e, alnum35] at this
          exact absurd this (by decide))
      unfold accept
      rw [if_neg (by rw [ha]; decide)]
    have hx : s.extract i k = ⟨#[35]⟩ := extract_hash [35] (by omega) (by simp; omega) (fun x h3 h4 => H.hash x (by omega)) (by decide)
    rw [hashGo, dif_neg h2, if_pos hi]
    exact hlast i ⟨#[35]⟩ hi hx (by rw [hacc, hk1])

end Go.Proofs.YtlgcocapondcmaaFmt
