/-
  Raw strings: the law's own models against the lexer's scan. No program stands in this text.
-/
import Derived.Test.YtdpdgppjeekcmaaFmtJB
import Derived.Test.YtdpdgppjeekcmaaFmtJA
namespace Go.Proofs.YtdpdgppjeekcmaaFmt
open Go Go.Lib

theorem rawGo_st (s : ByteArray) (q : Int) (n e : Nat) (ch : Int) (t : St) : rawGo s q n e ch t =
    if ch = q ∧ peek s t = q ∧ ch ≠ -1 then rawGo s q n (e + 1) (peek s (next s t)) (next s (next s t))
    else if ch = q then (n, e, true, t) else if ch = -1 then (n, e, false, error t) else rawGo s q (n + 1) e (peek s t) (next s t) := by
  rw [rawGo]
  split
  · rfl
  · split
    · rfl
    · split <;> rfl

/-- The law's model of a raw string's body: ended?, runes, the place of the closing quote, pairs. -/
def rawM (s : ByteArray) (i n p : Nat) : Bool × Nat × Nat × Nat :=
  if _h : i < s.size then
    (if byt s i = 96 then (if i + 1 < s.size ∧ byt s (i + 1) = 96 then rawM s (i + 2) n (p + 1) else (true, n, i, p))
     else rawM s (i + wAt s i) (n + 1) p)
  else (false, 0, 0, 0)
termination_by s.size - i
decreasing_by
  · omega
  · have := wAt_pos s i _h; omega
theorem rawM_end {s : ByteArray} {i n p : Nat} (h : ¬ i < s.size) : rawM s i n p = (false, 0, 0, 0) := by rw [rawM, dif_neg h]
theorem rawM_pair {s : ByteArray} {i n p : Nat} (h : i + 1 < s.size) (h1 : byt s i = 96) (h2 : byt s (i + 1) = 96) : rawM s i n p = rawM s (i + 2) n (p + 1) := by rw [rawM, dif_pos (by omega), if_pos h1, if_pos ⟨h, h2⟩]
theorem rawM_stop {s : ByteArray} {i n p : Nat} (h : i < s.size) (h1 : byt s i = 96) (h2 : ¬ (i + 1 < s.size ∧ byt s (i + 1) = 96)) : rawM s i n p = (true, n, i, p) := by rw [rawM, dif_pos h, if_pos h1, if_neg h2]
theorem rawM_step {s : ByteArray} {i n p : Nat} (h : i < s.size) (h1 : byt s i ≠ 96) : rawM s i n p = rawM s (i + wAt s i) (n + 1) p := by rw [rawM, dif_pos h, if_neg h1]

theorem peek96 {s : ByteArray} {t : St} (h : t.eb < s.size) : peek s t = 96 ↔ byt s t.eb = 96 := by
  unfold peek
  rw [if_pos h]
  by_cases h8 : byt s t.eb < 128
  · rw [(dec1 h8).1]; omega
  · have := rAt_high h (by rw [← byt_of h]; omega); omega

/-- THE SCAN IS THE MODEL: s is a quote and a body; the lexer stands at byte i of the body. -/
theorem raw_scan {body s : ByteArray} (Q : ByteArray) (hs : s = Q ++ body) (hQ : Q.size = 1) :
    ∀ (k i n p : Nat) (t : St), body.size - i = k → t.eb = i + 1 → Bd s t.eb t.er → i ≤ body.size →
      (∀ n' j p', rawM body i n p = (true, n', j, p') → ∃ N, Bd s (j + 2) N ∧ rawGo s 96 n p (peek s t) (next s t) = (n', p', true, { t with eb := j + 2, er := N })) ∧
      ((rawM body i n p).1 = false → (rawGo s 96 n p (peek s t) (next s t)).2.2.1 = false) := by
  intro k
  induction k using Nat.strongRecOn with
  | _ k ih =>
  intro i n p t hk ht hb hle
  have hsz : s.size = body.size + 1 := by rw [hs, ByteArray.size_append]; omega
  have hbs : ∀ x, x < body.size → byt s (x + 1) = byt body x := fun x hx => by rw [hs, show x + 1 = Q.size + x by omega, byt_r hx]
  have hws : ∀ x, wAt s (x + 1) = wAt body x := fun x => by rw [hs, show x + 1 = Q.size + x by omega, dec_right.1]
  by_cases hl : i < body.size
  · have hls : t.eb < s.size := by omega
    have hbi : byt s t.eb = byt body i := by rw [ht, hbs i hl]
    have hwi : wAt s t.eb = wAt body i := by rw [ht, hws]
    by_cases h96 : byt body i = 96
    · have hp : peek s t = 96 := (peek96 hls).2 (by omega)
      have hw1 : wAt s t.eb = 1 := (dec1 (by omega)).2
      have hn : next s t = { t with er := t.er + 1, eb := i + 2 } := by rw [next_in hls, hw1, ht]
      have hb1 : Bd s (i + 2) (t.er + 1) := by have := hb.step hls; rw [hw1, ht] at this; exact this
      by_cases h2 : i + 1 < body.size ∧ byt body (i + 1) = 96
      · rw [rawM_pair h2.1 h96 h2.2]
        have hl2 : (next s t).eb < s.size := by rw [hn]; show i + 2 < s.size; omega
        have hb2' : byt s (next s t).eb = 96 := by rw [hn]; show byt s (i + 1 + 1) = 96; rw [hbs (i + 1) h2.1]; exact h2.2
        have hp2 : peek s (next s t) = 96 := (peek96 hl2).2 hb2'
        have hw2 : wAt s (next s t).eb = 1 := (dec1 (by omega)).2
        have hn2 : next s (next s t) = { t with er := t.er + 2, eb := i + 3 } := by
          rw [next_in hl2, hw2, hn]
        have hb2 : Bd s (i + 3) (t.er + 2) := by
          have e : (next s t).eb = i + 2 := by rw [hn]
          rw [e] at hl2 hw2
          have := hb1.step hl2
          rw [hw2] at this
          exact this
        have hst := rawGo_st s 96 n p (peek s t) (next s t)
        rw [if_pos ⟨hp, hp2, by rw [hp]; decide⟩] at hst
        rw [hst, hn2]
        obtain ⟨i1, i2⟩ := ih (body.size - (i + 2)) (by omega) (i + 2) n (p + 1) { t with er := t.er + 2, eb := i + 3 } rfl rfl hb2 (by omega)
        exact ⟨fun n' j p' h => i1 n' j p' h, i2⟩
      · rw [rawM_stop hl h96 h2]
        have hp2 : peek s (next s t) ≠ 96 := by
          intro hh
          have hl2 : (next s t).eb < s.size := peek_lt (by rw [hh]; decide)
          have := (peek96 hl2).1 hh
          rw [hn] at hl2 this
          change i + 2 < s.size at hl2
          change byt s (i + 1 + 1) = 96 at this
          rw [hbs (i + 1) (by omega)] at this
          exact h2 ⟨by omega, this⟩
        have hst := rawGo_st s 96 n p (peek s t) (next s t)
        rw [if_neg (fun h => hp2 h.2.1), if_pos hp] at hst
        refine ⟨fun n' j p' h => ?_, fun h => by cases h⟩
        injection h with _ h
        injection h with h1 h
        injection h with h3 h4
        subst h1; subst h3; subst h4
        exact ⟨t.er + 1, hb1, by rw [hst, hn]⟩
    · rw [rawM_step hl h96]
      have hp : peek s t ≠ 96 := fun hh => h96 (by have := (peek96 hls).1 hh; omega)
      have hpm : peek s t ≠ -1 := by have := peek_nonneg hls; omega
      have hwp := wAt_pos body i hl
      have hwl := wAt_le body i hl
      have hn : next s t = { t with er := t.er + 1, eb := i + wAt body i + 1 } := by rw [next_in hls, hwi, ht, show i + 1 + wAt body i = i + wAt body i + 1 by omega]
      have hb1 : Bd s (i + wAt body i + 1) (t.er + 1) := by have := hb.step hls; rw [hwi, ht, show i + 1 + wAt body i = i + wAt body i + 1 by omega] at this; exact this
      have hst := rawGo_st s 96 n p (peek s t) (next s t)
      rw [if_neg (fun h => hp h.1), if_neg hp, if_neg hpm] at hst
      rw [hst, hn]
      obtain ⟨i1, i2⟩ := ih (body.size - (i + wAt body i)) (by omega) (i + wAt body i) (n + 1) p { t with er := t.er + 1, eb := i + wAt body i + 1 } rfl rfl hb1 hwl
      exact ⟨fun n' j p' h => i1 n' j p' h, i2⟩
  · rw [rawM_end hl]
    refine ⟨fun n' j p' h => (by cases h), fun _ => ?_⟩
    have hls : ¬ t.eb < s.size := by omega
    have hp : peek s t = -1 := by unfold peek; rw [if_neg hls]
    rw [rawGo_st, hp, if_neg (fun h => absurd h.1 (by decide)), if_neg (by decide), if_pos rfl]

/-! ### the value -/
/-- zzUnpair. -/
def unpGo (c : ByteArray) (i : Nat) : List UInt8 :=
  if _h : i < c.size then (if byt c i = 96 then 96 :: unpGo c (i + 2) else oneOut c i ++ unpGo c (i + wAt c i)) else []
termination_by c.size - i
decreasing_by
  · omega
  · have := wAt_pos c i _h; omega
theorem unpGo_end {c : ByteArray} {i : Nat} (h : ¬ i < c.size) : unpGo c i = [] := by rw [unpGo, dif_neg h]
theorem unpGo_q {c : ByteArray} {i : Nat} (h : i < c.size) (h1 : byt c i = 96) : unpGo c i = 96 :: unpGo c (i + 2) := by rw [unpGo, dif_pos h, if_pos h1]
theorem unpGo_step {c : ByteArray} {i : Nat} (h : i < c.size) (h1 : byt c i ≠ 96) : unpGo c i = oneOut c i ++ unpGo c (i + wAt c i) := by rw [unpGo, dif_pos h, if_neg h1]

theorem runesFrom_fuel (v : ByteArray) : ∀ (f g i : Nat), v.size ≤ i + f → v.size ≤ i + g → runesFrom v f i = runesFrom v g i := by
  intro f
  induction f with
  | zero =>
    intro g i h1 h2
    cases g with
    | zero => rfl
    | succ g => rw [runesFrom, runesFrom, if_neg (by omega)]
  | succ f ih =>
    intro g i h1 h2
    by_cases hl : i < v.size
    · have hw := wAt_pos v i hl
      obtain ⟨g, rfl⟩ : ∃ m, g = m + 1 := ⟨g - 1, by omega⟩
      rw [runesFrom, runesFrom, if_pos hl, if_pos hl, ih g (i + wAt v i) (by omega) (by omega)]
    · rw [runesFrom, if_neg hl]
      cases g with
      | zero => rfl
      | succ g => rw [runesFrom, if_neg hl]
/-- All runes from byte i on. -/
def rl (v : ByteArray) (i : Nat) : List Int := runesFrom v v.size i
theorem rl_end {v : ByteArray} {i : Nat} (h : ¬ i < v.size) : rl v i = [] := by
  unfold rl
  cases hs : v.size with
  | zero => rfl
  | succ f => rw [runesFrom, if_neg h]
theorem rl_step {v : ByteArray} {i : Nat} (h : i < v.size) : rl v i = rAt v i :: rl v (i + wAt v i) := by
  unfold rl
  have hw := wAt_pos v i h
  obtain ⟨f, hf⟩ : ∃ f, v.size = f + 1 := ⟨v.size - 1, by omega⟩
  rw [runesFrom_fuel v v.size (f + 1) i (by omega) (by omega), runesFrom, if_pos h, runesFrom_fuel v f v.size (i + wAt v i) (by omega) (by omega)]

/-- What the lexer keeps of a paired content is the law's model. -/
theorem unpair_model {body : ByteArray} : ∀ (k i n p : Nat), body.size - i = k → i ≤ body.size → ∀ n' j p', rawM body i n p = (true, n', j, p') →
    i ≤ j ∧ j < body.size ∧ byt body j = 96 ∧ ((body.extract 0 j).size = j) ∧ encodeAll (unpair 96 false (rl (body.extract 0 j) i)) = unpGo (body.extract 0 j) i := by
  intro k
  induction k using Nat.strongRecOn with
  | _ k ih =>
  intro i n p hk hle n' j p' h
  by_cases hl : i < body.size
  · -- the content and what follows it
    have hcs : ∀ j, j < body.size → (body.extract 0 j).size = j := fun j hj => by rw [ByteArray.size_extract]; omega
    have hcb : ∀ j x, j < body.size → x < j → byt (body.extract 0 j) x = byt body x := fun j x hj hx => byt_take hx (by omega)
    have hcd : ∀ j x, j < body.size → byt body j = 96 → x < j → wAt (body.extract 0 j) x = wAt body x := fun j x hj hq hx => by
      have e : body = body.extract 0 j ++ body.extract j body.size := by
        apply ByteArray.ext
        apply Array.ext'
        rw [toList_app, Lib.extract_to_end, Lib.extract_data, List.drop_zero, Nat.sub_zero, List.take_append_drop]
      have hx2 : x < (body.extract 0 j).size := by rw [hcs j hj]; exact hx
      have := (dec_prefix (A := body.extract 0 j) (B := body.extract j body.size) (fun h0 => by
        rw [byt_of h0, ByteArray.getElem_extract]
        rw [byt_of hj] at hq
        show (body[j + 0]'_).toNat < 128
        simp only [Nat.add_zero]
        omega) hx2).1
      rw [← e] at this
      exact this.symm
    by_cases h96 : byt body i = 96
    · by_cases h2 : i + 1 < body.size ∧ byt body (i + 1) = 96
      · rw [rawM_pair h2.1 h96 h2.2] at h
        obtain ⟨a, b, c, d, e⟩ := ih (body.size - (i + 2)) (by omega) (i + 2) n (p + 1) rfl (by omega) n' j p' h
        refine ⟨by omega, b, c, d, ?_⟩
        have b1 : byt (body.extract 0 j) i = 96 := by rw [hcb j i b (by omega)]; exact h96
        have b2 : byt (body.extract 0 j) (i + 1) = 96 := by rw [hcb j (i + 1) b (by omega)]; exact h2.2
        have r1 := dec1 (s := body.extract 0 j) (i := i) (by omega)
        have r2 := dec1 (s := body.extract 0 j) (i := i + 1) (by omega)
        rw [rl_step (by omega), r1.1, r1.2, b1, rl_step (by omega), r2.1, r2.2, b2, unpGo_q (by omega) b1]
        show encodeAll (unpair 96 false (96 :: 96 :: rl (body.extract 0 j) (i + 1 + 1))) = _
        rw [show unpair 96 false (96 :: 96 :: rl (body.extract 0 j) (i + 1 + 1)) = 96 :: unpair 96 false (rl (body.extract 0 j) (i + 2)) from by
          rw [unpair, if_pos rfl, if_neg (by decide), unpair, if_pos rfl, if_pos rfl]]
        show encodeRune 96 ++ encodeAll _ = _
        rw [e]
        rfl
      · rw [rawM_stop hl h96 h2] at h
        injection h with _ h
        injection h with h1 h
        injection h with h3 h4
        subst h3
        have hsz := hcs i hl
        refine ⟨Nat.le_refl _, hl, h96, hsz, ?_⟩
        rw [rl_end (by omega), unpGo_end (by omega)]
        rfl
    · rw [rawM_step hl h96] at h
      have hw := wAt_pos body i hl
      have hwl := wAt_le body i hl
      obtain ⟨a, b, c, d, e⟩ := ih (body.size - (i + wAt body i)) (by omega) (i + wAt body i) (n + 1) p rfl hwl n' j p' h
      refine ⟨by omega, b, c, d, ?_⟩
      have hij : i < j := by omega
      have b1 : byt (body.extract 0 j) i ≠ 96 := by rw [hcb j i b hij]; exact h96
      have hwe := hcd j i b c hij
      have hlc : i < (body.extract 0 j).size := by omega
      have hr : rAt (body.extract 0 j) i ≠ 96 := fun hh => by
        by_cases h8 : byt (body.extract 0 j) i < 128
        · rw [(dec1 h8).1] at hh; omega
        · have := rAt_high hlc (by rw [← byt_of hlc]; omega); omega
      rw [rl_step hlc, unpGo_step hlc b1, hwe]
      rw [unpair, if_neg hr]
      show encodeRune _ ++ encodeAll _ = _
      rw [e, encode_at hlc]
  · rw [rawM_end hl] at h
    cases h

/-! ### a text doubled -/
/-- zzDouble. -/
def dbl : List UInt8 → List UInt8
  | [] => []
  | b :: l => if b = 96 then 96 :: 96 :: dbl l else b :: dbl l
theorem dbl_append (a b : List UInt8) : dbl (a ++ b) = dbl a ++ dbl b := by
  induction a with
  | nil => rfl
  | cons c a ih =>
    rw [List.cons_append, dbl, dbl, ih]
    split <;> rfl
theorem dbl_none {l : List UInt8} (h : ∀ b ∈ l, b ≠ 96) : dbl l = l := by
  induction l with
  | nil => rfl
  | cons c l ih => rw [dbl, if_neg (h c (List.mem_cons_self ..)), ih (fun b hb => h b (List.mem_cons_of_mem _ hb))]

end Go.Proofs.YtdpdgppjeekcmaaFmt
