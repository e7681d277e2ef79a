/-
  n003_106's laws on '#' in plain Lean: the tokens of the hashes one by one, what follows a space. No program stands in this text.
-/
import Derived.Test.YtlgcocapondcmaaFmtP106
namespace Go.Proofs.YtlgcocapondcmaaFmt
open Go Go.Lib

/-- A byte of a name: a letter, a digit, '_'. -/
def Wordy (n : Nat) : Prop := (97 ≤ n ∧ n ≤ 122) ∨ (65 ≤ n ∧ n ≤ 90) ∨ (48 ≤ n ∧ n ≤ 57) ∨ n = 95
theorem wordy_lt {n : Nat} (h : Wordy n) : n < 128 := by unfold Wordy at h; omega
theorem wordy_alnum {n : Nat} (h : Wordy n) : alnum (n : Int) = true := by
  rw [alnum_ascii n (wordy_lt h)]
  unfold Wordy at h
  simp only [Bool.or_eq_true, Bool.and_eq_true, decide_eq_true_eq]
  omega

/-- The text of k hashes and a name. -/
def hashText (k : Nat) (ds : List UInt8) : List UInt8 := List.replicate k 35 ++ ds
theorem hashText_len (k : Nat) (ds : List UInt8) : (hashText k ds).length = k + ds.length := by unfold hashText; simp
theorem byt_list {l : List UInt8} {x : Nat} (h : x < l.length) : byt ⟨l.toArray⟩ x = (l[x]'h).toNat := by
  rw [byt_of (s := ⟨l.toArray⟩) (k := x) (by show x < l.toArray.size; simpa using h)]
  rfl
/-- With anything that begins with a space behind them, or nothing. -/
theorem hashed {k : Nat} {ds r : List UInt8} (hw : ∀ d ∈ ds, Wordy d.toNat) (hr : r = [] ∨ ∃ r', r = 32 :: r') : Hashed ⟨(hashText k ds ++ r).toArray⟩ k ds.length := by
  have hsz : (⟨(hashText k ds ++ r).toArray⟩ : ByteArray).size = k + ds.length + r.length := by
    show (hashText k ds ++ r).toArray.size = _
    simp [hashText_len]
  refine ⟨fun x hx => ?_, fun x h1 h2 => ?_, by omega, fun h => ?_⟩
  · rw [byt_list (by rw [List.length_append, hashText_len]; omega), List.getElem_append_left (by rw [hashText_len]; omega)]
    unfold hashText
    rw [List.getElem_append_left (by simpa using hx), List.getElem_replicate]
    rfl
  · rw [byt_list (by rw [List.length_append, hashText_len]; omega), List.getElem_append_left (by rw [hashText_len]; omega)]
    unfold hashText
    rw [List.getElem_append_right (by simpa using h1)]
    have := hw _ (List.getElem_mem (l := ds) (n := x - (List.replicate k (35 : UInt8)).length) (by simp; omega))
    exact ⟨wordy_lt this, wordy_alnum this⟩
  · rw [byt_list (by rw [List.length_append, hashText_len]; omega), List.getElem_append_right (by rw [hashText_len]; omega)]
    rcases hr with rfl | ⟨r', rfl⟩
    · exfalso
      rw [List.length_nil, Nat.add_zero] at hsz
      omega
    · simp [hashText_len]
theorem hash_word {k : Nat} {ds r : List UInt8} : (⟨(hashText k ds ++ r).toArray⟩ : ByteArray).extract k (k + ds.length) = ⟨ds.toArray⟩ := by
  apply ByteArray.ext
  apply Array.ext'
  rw [Lib.extract_data]
  show ((hashText k ds ++ r).drop k).take (k + ds.length - k) = ds
  unfold hashText
  rw [List.append_assoc, List.drop_left' (by simp), show k + ds.length - k = ds.length by omega, List.take_left' rfl]

theorem hashGo_len (k : Nat) : ∀ (c i : Nat), k - i = c → (hashGo k i).length = (c + 1) / 2 := by
  intro c
  induction c using Nat.strongRecOn with
  | _ c ih =>
  intro i hc
  rw [hashGo]
  by_cases h : i + 2 ≤ k
  · rw [dif_pos h, List.length_cons, ih (k - (i + 2)) (by omega) (i + 2) rfl]
    omega
  · rw [dif_neg h]
    by_cases h2 : i < k
    · rw [if_pos h2]
      simp
      omega
    · rw [if_neg h2]
      simp
      omega
/-- The j-th token of the hashes. -/
def hashTok (k j : Nat) : Tok := if 2 * j + 2 ≤ k then ⟨(2 * j : Nat), (2 * j + 2 : Nat), kOperator, ⟨#[35, 35]⟩⟩ else ⟨(2 * j : Nat), (k : Nat), kOperator, ⟨#[35]⟩⟩
theorem hashGo_get (k : Nat) : ∀ (j i0 : Nat), (hashGo k (2 * i0))[j]? = if 2 * (i0 + j) < k then some (hashTok k (i0 + j)) else none := by
  intro j
  induction j with
  | zero =>
    intro i0
    rw [Nat.add_zero, hashGo]
    by_cases h : 2 * i0 + 2 ≤ k
    · rw [dif_pos h, if_pos (by omega)]
      unfold hashTok
      rw [if_pos h]
      rfl
    · rw [dif_neg h]
      by_cases h2 : 2 * i0 < k
      · rw [if_pos h2, if_pos h2]
        unfold hashTok
        rw [if_neg h]
        rfl
      · rw [if_neg h2, if_neg h2]
        rfl
  | succ j ih =>
    intro i0
    rw [hashGo]
    by_cases h : 2 * i0 + 2 ≤ k
    · rw [dif_pos h, List.getElem?_cons_succ, show 2 * i0 + 2 = 2 * (i0 + 1) by omega, ih (i0 + 1), show i0 + 1 + j = i0 + (j + 1) by omega]
    · rw [dif_neg h, if_neg (by omega : ¬ 2 * (i0 + (j + 1)) < k)]
      by_cases h2 : 2 * i0 < k
      · rw [if_pos h2]; rfl
      · rw [if_neg h2]; rfl

/-! ### what follows -/
theorem bd_low {s : ByteArray} : ∀ (n : Nat), (∀ x, x < n → byt s x < 128) → n ≤ s.size → Bd s n n
  | 0, _, _ => .zero
  | n + 1, h, hn => by
    have ih := bd_low n (fun x hx => h x (by omega)) (by omega)
    have := ih.step (by omega)
    rw [(dec1 (h n (by omega))).2] at this
    exact this
theorem inv_R {s : ByteArray} {n : Nat} {d : Bool} (h : Bd s n n) : Inv s (R n n false d) := fun _ q hq => by
  have e : q = .root := by change some Q.root = some q at hq; cases hq; rfl
  subst e
  exact ⟨h, h, Nat.le_refl _, (fun h => by cases h), fun _ => ⟨rfl, rfl⟩, (fun h => by cases h), (fun h => by cases h), (fun h => by cases h), (fun h => by rcases h with h | h | h | h <;> cases h)⟩
/-- Whatever follows a space: the hashes' tokens, the word, and what the rest gives. -/
theorem hash_rest {s : ByteArray} {k m : Nat} (hk : 1 ≤ k) (H : Hashed s k m) : ∃ l u, Out s (R 0 0 false false) (hashGo k 0 ++ (hashWord s k m ++ l)) u ∧ l.length ≤ s.size + 1 ∧ (u.err = none → ∃ l' n, l = l' ++ [⟨((n - 1 : Nat) : Int), (n : Nat), kEOF, ⟨#[]⟩⟩]) := by
  have hb : Bd s (k + m) (k + m) := bd_low (k + m) (fun x hx => by
    by_cases h : x < k
    · have := H.hash x h; omega
    · exact (H.word x (by omega) hx).1) H.le
  obtain ⟨l, u, ho, he⟩ := out_exists s _ _ (R (k + m) (k + m) false false) rfl rfl (inv_R hb) rfl
  refine ⟨l, u, hash_out H false ho k 0 rfl (by omega), ?_, fun h => ?_⟩
  · by_cases hu : u.err = none
    · obtain ⟨_, _, _, hb, _, _, _, l', rfl, ht⟩ := he.ok hu
      have h1 := tiled_len ht
      have h2 := hb.n_le
      rw [List.length_append]
      simp
      omega
    · obtain ⟨m, hm, ht⟩ := he.bad hu
      have h1 := tiled_len ht
      omega
  · obtain ⟨_, _, _, _, _, _, _, l', h1, _⟩ := he.ok h
    exact ⟨l', u.er, h1⟩
/-- Nothing follows. -/
theorem hash_alone {s : ByteArray} {k m : Nat} (hk : 1 ≤ k) (H : Hashed s k m) (hs : s.size = k + m) : ∃ u, u.err = none ∧ Out s (R 0 0 false false) (hashGo k 0 ++ (hashWord s k m ++ [eofTok (k + m)])) u := by
  refine ⟨⟨none, s.size, s.size, s.size, s.size, true, false, none, []⟩, rfl, hash_out H false ?_ k 0 rfl (by omega)⟩
  rw [← hs]
  exact out_eof rfl

end Go.Proofs.YtlgcocapondcmaaFmt
