/-
  n003_69's laws on raw strings and on escapes, put together in plain Lean. No program stands in this text.
-/
import Derived.Test.YtdpdgppjeekcmaaFmtP69D
import Derived.Test.YtdpdgppjeekcmaaFmtP69E
import Derived.Test.YtdpdgppjeekcmaaFmtSteps
namespace Go.Proofs.YtdpdgppjeekcmaaFmt
open Go Go.Lib

theorem cut_wid {s : ByteArray} {e i : Nat} (he : e ≤ s.size) (hi : i < e) (h : i + wAt s i ≤ e) : wAt (s.extract 0 e) i = wAt s i := by
  have hsz : (s.extract 0 e).size = e := by rw [ByteArray.size_extract]; omega
  by_cases h2 : 2 ≤ wAt s i
  · exact (wide_same (A := s) (B := s.extract 0 e) (j := i) h2 (fun k hk => byt_take (by omega) he) (by omega)).1
  · have h1 := wAt_pos s i (by omega)
    by_cases h3 : 2 ≤ wAt (s.extract 0 e) i
    · have h4 := wide_in h3
      have h5 := (wide_same (A := s.extract 0 e) (B := s) (j := i) h3 (fun k hk => (byt_take (by omega) he).symm) (by omega)).1
      omega
    · have h5 := wAt_pos (s.extract 0 e) i (by omega)
      omega
/-- A boundary, in the text up to another one. -/
theorem bd_cut {s : ByteArray} {e : Nat} (he : e ≤ s.size) {i n : Nat} (h : Bd s i n) (hi : i ≤ e) : Bd (s.extract 0 e) i n := by
  induction h with
  | zero => exact .zero
  | @step i n hb hl ih =>
    have hp := wAt_pos s i hl
    have h2 := (ih (by omega)).step (by rw [ByteArray.size_extract]; omega)
    rw [cut_wid he (by omega) hi] at h2
    exact h2

/-- The lexer behind a scan that is taken. -/
def taken (E N : Nat) : St := ⟨some .root, 0, 0, E, N, false, false, none, []⟩
theorem next_quote {A : ByteArray} (h : 0 < A.size) (hb : byt A 0 < 128) : next A start = taken 1 1 ∧ Bd A 1 1 := by
  have hd := (dec1 (s := A) (i := 0) hb).2
  refine ⟨?_, ?_⟩
  · rw [next_in (by exact h)]
    show ({ start with er := 0 + 1, eb := 0 + wAt A 0 } : St) = _
    rw [hd]
    rfl
  · have := (Bd.zero (s := A)).step h
    rw [hd] at this
    exact this
/-- What the scan keeps. -/
def rawKeep (body : ByteArray) (j p : Nat) : ByteArray := if p = 0 then body.extract 0 j else ⟨(unpGo (body.extract 0 j) 0).toArray⟩
theorem raw_model {body A Q : ByteArray} (hA : A = Q ++ body) (hQ : Q.size = 1) (hQb : byt Q 0 < 128) :
    (∀ n j p, rawM body 0 0 0 = (true, n, j, p) → ∃ N, Bd (A.extract 0 (j + 2)) (A.extract 0 (j + 2)).size N ∧ rawGo A 96 0 0 (peek A (next A start)) (next A (next A start)) = (n, p, true, taken (j + 2) N) ∧ rawValue 96 p (A.extract 1 (j + 2 - 1)) = rawKeep body j p ∧ j + 2 ≤ A.size ∧ n ≤ body.size) ∧
    ((rawM body 0 0 0).1 = false → ∃ n e t1, rawGo A 96 0 0 (peek A (next A start)) (next A (next A start)) = (n, e, false, t1)) := by
  have hAs : A.size = body.size + 1 := by rw [hA, ByteArray.size_append]; omega
  have hb0 : byt A 0 = byt Q 0 := by rw [hA, byt_l (by omega)]
  obtain ⟨hn1, hbd⟩ := next_quote (A := A) (by omega) (by omega)
  rw [hn1]
  have hsc := raw_scan Q hA hQ body.size 0 0 0 (taken 1 1) rfl rfl hbd (Nat.zero_le _)
  refine ⟨fun n j p hm => ?_, fun hm => ?_⟩
  · obtain ⟨N, hN, hG⟩ := hsc.1 n j p hm
    obtain ⟨_, hj, _, hsz, hu⟩ := unpair_model body.size 0 0 0 rfl (Nat.zero_le _) n j p hm
    have hle := hN.le
    have hex : A.extract 1 (j + 2 - 1) = body.extract 0 j := by
      rw [hA]
      apply ByteArray.ext
      apply Array.ext'
      rw [Lib.extract_data, Lib.extract_data, toList_app, List.drop_left' (by have := Lib.size_eq Q; omega), List.drop_zero]
      congr 1
    refine ⟨N, ?_, hG, ?_, hle, ?_⟩
    · have h1 := bd_cut hle hN (Nat.le_refl _)
      rw [ByteArray.size_extract, show min (j + 2) A.size - 0 = j + 2 by omega]
      exact h1
    · rw [hex]
      unfold rawValue rawKeep
      split
      · rfl
      · rw [show runesOf (body.extract 0 j) = rl (body.extract 0 j) 0 from rfl, hu]
    · have key : ∀ (k i n p : Nat), body.size - i = k → n ≤ i → (rawM body i n p).2.1 ≤ body.size := by
        intro k
        induction k using Nat.strongRecOn with
        | _ k ih =>
        intro i n p hk hni
        by_cases hi : i < body.size
        · by_cases h96 : byt body i = 96
          · by_cases h2 : i + 1 < body.size ∧ byt body (i + 1) = 96
            · rw [rawM_pair h2.1 h96 h2.2]
              exact ih (body.size - (i + 2)) (by omega) (i + 2) n (p + 1) rfl (by omega)
            · rw [rawM_stop hi h96 h2]
              show n ≤ _
              omega
          · rw [rawM_step hi h96]
            have := wAt_pos body i hi
            exact ih (body.size - (i + wAt body i)) (by omega) _ _ _ rfl (by omega)
        · rw [rawM_end hi]
          exact Nat.zero_le _
      have := key body.size 0 0 0 rfl (Nat.le_refl _)
      rw [hm] at this
      exact this
  · have h := hsc.2 hm
    generalize rawGo A 96 0 0 (peek A (taken 1 1)) (next A (taken 1 1)) = G at h
    obtain ⟨n, e, b, t1⟩ := G
    exact ⟨n, e, t1, by rw [show b = false from h]⟩

/-- A quote and a body. -/
theorem quoted {body A Q : ByteArray} (hA : A = Q ++ body) (hQ : Q.size = 1) : Quoted A body := by
  refine ⟨by rw [hA, ByteArray.size_append]; omega, fun x hx => ?_, fun x => ?_⟩
  · rw [hA, show x + 1 = Q.size + x by omega, byt_r hx]
  · rw [hA, show x + 1 = Q.size + x by omega, dec_right.1]
theorem str_law {body A Q : ByteArray} {q : Nat} (hA : A = Q ++ body) (hQ : Q.size = 1) (hQb : byt Q 0 = q) (hq8 : q < 128) (hq : (q : Int) ≠ -1) (hqn : q ≠ 10 ∧ q ≠ 92) :
    (∀ n e, modelStr body q (body.size + 1) 0 0 = some (n, e) → ∃ N, Bd (A.extract 0 e) (A.extract 0 e).size N ∧ e ≤ A.size ∧ scanString A q hq (next A start) = (n, taken e N)) ∧
    (modelStr body q (body.size + 1) 0 0 = none → ∃ n t1, scanString A q hq (next A start) = (n, t1) ∧ t1.err ≠ none) := by
  have hAs : A.size = body.size + 1 := by rw [hA, ByteArray.size_append]; omega
  have hb0 : byt A 0 = byt Q 0 := by rw [hA, byt_l (by omega)]
  obtain ⟨hn1, hbd⟩ := next_quote (A := A) (by omega) (by omega)
  rw [hn1]
  have h := str_model (quoted hA hQ) hq8 hq hqn (body.size + 1) 0 0 (taken 1 1) (by omega) rfl hbd
  refine ⟨fun n e hm => ?_, fun hm => ⟨_, _, rfl, h.2 hm⟩⟩
  obtain ⟨N, hN, hG⟩ := h.1 n e hm
  refine ⟨N, ?_, hN.le, hG⟩
  have h1 := bd_cut hN.le hN (Nat.le_refl _)
  rw [ByteArray.size_extract, show min e A.size - 0 = e by have := hN.le; omega]
  exact h1

/-- A text with its backticks doubled, between two: what the scan makes of it. -/
theorem round_law {t D body rest Q : ByteArray} (hQ : Q = ⟨#[96]⟩) (hD : D = ⟨(dbl t.data.toList).toArray⟩) (hbody : body = D ++ (Q ++ rest)) (hr : ¬ (0 < rest.size ∧ byt rest 0 = 96)) (h : ValidU t ∨ ∀ x, x < t.size → byt t x ≠ 96) :
    ∃ n p, rawM body 0 0 0 = (true, n, D.size, p) ∧ rawKeep body D.size p = t ∧ n + t.data.toList.count 96 = runesTo t 0 := by
  have hts := Lib.size_eq t
  have hDl : D.data.toList = dbl t.data.toList := by rw [hD]
  have hDs : D.size = (dbl t.data.toList).length := by rw [Lib.size_eq D, hDl]
  have hbl : body.data.toList = dbl t.data.toList ++ 96 :: rest.data.toList := by rw [hbody, toList_app, toList_app, hDl, hQ]; rfl
  have hrh : rest.data.toList.head? ≠ some 96 := by
    intro e
    apply hr
    have hrs := Lib.size_eq rest
    cases hl : rest.data.toList with
    | nil => rw [hl] at e; cases e
    | cons c l =>
      rw [hl] at e
      cases e
      have h0 : 0 < rest.size := by rw [hrs, hl]; simp
      refine ⟨h0, ?_⟩
      rw [byt_of h0]
      have : rest[0]'h0 = rest.data.toList[0]'(by rw [hl]; simp) := rfl
      rw [this]
      simp [hl]
  have hpre : body.extract 0 D.size = D := by
    apply ByteArray.ext
    apply Array.ext'
    rw [Lib.extract_data, hbl, List.drop_zero, hDs, show (dbl t.data.toList).length - 0 = (dbl t.data.toList).length by omega, List.take_left' rfl, hDl]
  have hncq := nonq_cq t t.size 0 rfl
  have hcq := cq_count t t.size 0 rfl
  rw [List.drop_zero] at hcq
  rcases h with hv | hn
  · have hsc := dbl_scan (body := body) hv hrh t.size 0 0 rfl .zero 0 0 0 (by rw [List.drop_zero, List.drop_zero]; exact hbl)
    rw [List.drop_zero] at hsc
    refine ⟨nonq t 0, cq t 0, by rw [hsc, hDs]; simp, ?_, by omega⟩
    unfold rawKeep
    rw [hpre]
    split
    · rename_i h0
      rw [h0] at hcq
      have hno : ∀ b ∈ t.data.toList, b ≠ 96 := fun b hb e => by
        have := List.count_eq_zero.1 hcq.symm
        exact this (e ▸ hb)
      apply ByteArray.ext
      apply Array.ext'
      rw [hDl, dbl_none hno]
    · have := dbl_value (C := D) hv t.size 0 0 rfl .zero 0 (by rw [List.drop_zero, List.drop_zero]; exact hDl)
      rw [this, List.drop_zero]
  · have hno : ∀ b ∈ t.data.toList, b ≠ 96 := fun b hb e => by
      obtain ⟨x, hx, he⟩ := List.mem_iff_getElem.1 hb
      have hx' : x < t.size := by omega
      apply hn x hx'
      rw [byt_of hx']
      have : t[x]'hx' = t.data.toList[x]'hx := rfl
      rw [this, he, e]
      rfl
    have hdt : D = t := by
      apply ByteArray.ext
      apply Array.ext'
      rw [hDl, dbl_none hno]
    have hsc := plain_scan (body := body) (rest := rest.data.toList) hn hrh (by rw [hbl, dbl_none hno]) t.size 0 0 0 rfl (Nat.zero_le _)
    rw [Nat.zero_add] at hsc
    have hc0 : t.data.toList.count 96 = 0 := List.count_eq_zero.2 (fun h => hno 96 h rfl)
    refine ⟨runesTo t 0, 0, by rw [hsc, hdt], ?_, by omega⟩
    unfold rawKeep
    rw [if_pos rfl, hpre, hdt]

end Go.Proofs.YtdpdgppjeekcmaaFmt
