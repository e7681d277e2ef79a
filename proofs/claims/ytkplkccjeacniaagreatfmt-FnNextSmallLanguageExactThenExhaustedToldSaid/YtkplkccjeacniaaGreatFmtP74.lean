/-
  The small language of n003_74 in plain Lean: letters, spaces, brackets and operators of one sign. No program stands in this text.
-/
import Derived.Test.YtkplkccjeacniaaGreatFmtJB
namespace Go.Proofs.YtkplkccjeacniaaGreatFmt
open Go Go.Lib

def isLet (b : Nat) : Bool := (decide (97 ≤ b) && decide (b ≤ 122)) || (decide (65 ≤ b) && decide (b ≤ 90))
def isBra (b : Nat) : Bool := b == 40 || b == 41 || b == 91 || b == 93 || b == 123 || b == 125
def isSgn (b : Nat) : Bool := b == 44 || b == 59 || b == 37 || b == 43 || b == 45 || b == 94
theorem let_iff {b : Nat} : isLet b = true ↔ (97 ≤ b ∧ b ≤ 122) ∨ (65 ≤ b ∧ b ≤ 90) := by simp [isLet]
theorem bra_iff {b : Nat} : isBra b = true ↔ b = 40 ∨ b = 41 ∨ b = 91 ∨ b = 93 ∨ b = 123 ∨ b = 125 := by simp [isBra, or_assoc]
theorem sgn_iff {b : Nat} : isSgn b = true ↔ b = 44 ∨ b = 59 ∨ b = 37 ∨ b = 43 ∨ b = 45 ∨ b = 94 := by simp [isSgn, or_assoc]
/-- The small language. -/
def Small (s : ByteArray) : Prop := ∀ k, k < s.size → byt s k = 32 ∨ isLet (byt s k) = true ∨ isBra (byt s k) = true ∨ isSgn (byt s k) = true

def lettersEnd (s : ByteArray) (j : Nat) : Nat := if _h : j < s.size ∧ isLet (byt s j) = true then lettersEnd s (j + 1) else j
termination_by s.size - j
def spEnd (s : ByteArray) (j : Nat) : Nat := if _h : j < s.size ∧ byt s j = 32 then spEnd s (j + 1) else j
termination_by s.size - j
theorem lettersEnd_ge (s : ByteArray) (j : Nat) : j ≤ lettersEnd s j := by
  fun_induction lettersEnd s j with
  | case1 j h ih => omega
  | case2 j h => exact Nat.le_refl _
theorem lettersEnd_le (s : ByteArray) (j : Nat) (hj : j ≤ s.size) : lettersEnd s j ≤ s.size := by
  fun_induction lettersEnd s j with
  | case1 j h ih => exact ih (by omega)
  | case2 j h => exact hj
theorem lettersEnd_let {s : ByteArray} {j : Nat} (h : j < s.size) (hl : isLet (byt s j) = true) : lettersEnd s j = lettersEnd s (j + 1) := by rw [lettersEnd, dif_pos ⟨h, hl⟩]
theorem lettersEnd_no {s : ByteArray} {j : Nat} (h : ¬ (j < s.size ∧ isLet (byt s j) = true)) : lettersEnd s j = j := by rw [lettersEnd, dif_neg h]
theorem spEnd_ge (s : ByteArray) (j : Nat) : j ≤ spEnd s j := by
  fun_induction spEnd s j with
  | case1 j h ih => omega
  | case2 j h => exact Nat.le_refl _
theorem spEnd_le (s : ByteArray) (j : Nat) (hj : j ≤ s.size) : spEnd s j ≤ s.size := by
  fun_induction spEnd s j with
  | case1 j h ih => exact ih (by omega)
  | case2 j h => exact hj

/-- Is a word a keyword? -/
def isKw (dis : Bool) (w : ByteArray) : Bool := match kwOf w with
  | .kNot => true
  | .op => true
  | .cond => !dis
  | .other => false
def kindW (dis : Bool) (w : ByteArray) : ByteArray := if isKw dis w then kOperator else kIdentifier
def kindP (b : Nat) : ByteArray := if isBra b then kBracket else kOperator
/-- The law's own model, from byte i on. -/
def modelGo (s : ByteArray) (dis : Bool) (i : Nat) : List Tok :=
  if _h : i < s.size then
    (if byt s i = 32 then modelGo s dis (i + 1)
     else if isLet (byt s i) then ⟨i, (lettersEnd s (i + 1) : Nat), kindW dis (s.extract i (lettersEnd s (i + 1))), s.extract i (lettersEnd s (i + 1))⟩ :: modelGo s dis (lettersEnd s (i + 1))
     else ⟨i, (i + 1 : Nat), kindP (byt s i), s.extract i (i + 1)⟩ :: modelGo s dis (i + 1))
  else []
termination_by s.size - i
decreasing_by
  · omega
  · have := lettersEnd_ge s (i + 1); omega
  · omega
theorem model_end {s : ByteArray} {dis : Bool} {i : Nat} (h : ¬ i < s.size) : modelGo s dis i = [] := by rw [modelGo, dif_neg h]
theorem model_sp {s : ByteArray} {dis : Bool} {i : Nat} (h : i < s.size) (hb : byt s i = 32) : modelGo s dis i = modelGo s dis (i + 1) := by rw [modelGo, dif_pos h, if_pos hb]
theorem model_let {s : ByteArray} {dis : Bool} {i : Nat} (h : i < s.size) (hb : isLet (byt s i) = true) : modelGo s dis i = ⟨i, (lettersEnd s (i + 1) : Nat), kindW dis (s.extract i (lettersEnd s (i + 1))), s.extract i (lettersEnd s (i + 1))⟩ :: modelGo s dis (lettersEnd s (i + 1)) := by
  rw [modelGo, dif_pos h, if_neg (by have := let_iff.1 hb; omega), if_pos hb]
theorem model_one {s : ByteArray} {dis : Bool} {i : Nat} (h : i < s.size) (h0 : byt s i ≠ 32) (hb : isLet (byt s i) = false) : modelGo s dis i = ⟨i, (i + 1 : Nat), kindP (byt s i), s.extract i (i + 1)⟩ :: modelGo s dis (i + 1) := by
  rw [modelGo, dif_pos h, if_neg h0, if_neg (by rw [hb]; decide)]
theorem model_spEnd (s : ByteArray) (dis : Bool) (i : Nat) : modelGo s dis i = modelGo s dis (spEnd s i) := by
  fun_induction spEnd s i with
  | case1 j h ih => rw [model_sp h.1 h.2]; exact ih
  | case2 j h => rfl

theorem small_ascii {s : ByteArray} (hs : Small s) {k : Nat} (hk : k < s.size) : byt s k < 128 := by
  rcases hs k hk with h | h | h | h
  · omega
  · have := let_iff.1 h; omega
  · have := bra_iff.1 h; omega
  · have := sgn_iff.1 h; omega
/-- In the small language a letter or digit is a letter. -/
theorem alnum_small {s : ByteArray} (hs : Small s) {k : Nat} (hk : k < s.size) : alnum (byt s k : Int) = isLet (byt s k) := by
  rw [alnum_ascii _ (small_ascii hs hk), Bool.eq_iff_iff, let_iff]
  simp only [Bool.or_eq_true, Bool.and_eq_true, decide_eq_true_eq]
  rcases hs k hk with h | h | h | h
  · omega
  · have := let_iff.1 h; omega
  · have := bra_iff.1 h; omega
  · have := sgn_iff.1 h; omega
theorem alnumSkip_small {s : ByteArray} (hs : Small s) : ∀ (k : Nat) (t : St), s.size - t.eb = k → alnumSkip s t = adv (lettersEnd s t.eb - t.eb) t := by
  intro k
  induction k using Nat.strongRecOn with
  | _ k ih =>
  intro t hk
  rw [alnumSkip_eq]
  by_cases hl : t.eb < s.size
  · have hp := peek_b hl (small_ascii hs hl)
    rw [hp, alnum_small hs hl]
    by_cases hb : isLet (byt s t.eb) = true
    · rw [if_pos hb, next_b hl (small_ascii hs hl), ih (s.size - (t.eb + 1)) (by omega) (adv 1 t) rfl, adv_add]
      have h1 := lettersEnd_ge s (t.eb + 1)
      rw [lettersEnd_let hl hb]
      show adv (1 + (lettersEnd s (t.eb + 1) - (t.eb + 1))) t = _
      congr 1
      omega
    · rw [if_neg hb, lettersEnd_no (fun h => hb h.2), Nat.sub_self, adv_zero]
  · rw [peek_e hl, if_neg (by rw [alnum_end]; decide), lettersEnd_no (fun h => hl h.1), Nat.sub_self, adv_zero]
theorem spaces_run {s : ByteArray} : ∀ (k : Nat) (t : St), s.size - t.eb = k → acceptRun ⟨#[32]⟩ s t = adv (spEnd s t.eb - t.eb) t := by
  intro k
  induction k using Nat.strongRecOn with
  | _ k ih =>
  intro t hk
  by_cases hl : t.eb < s.size ∧ byt s t.eb = 32
  · have ha : acceptB ⟨#[32]⟩ s t = true := (accept_b (v := [32]) (by decide)).2 ⟨hl.1, 32, by simp, by rw [hl.2]; rfl⟩
    have hh : has ⟨#[32]⟩ (peek s t) = true := ha
    rw [acceptRun, dif_pos hh, next_b hl.1 (by omega), ih (s.size - (t.eb + 1)) (by omega) (adv 1 t) rfl, adv_add]
    have h1 := spEnd_ge s (t.eb + 1)
    have h2 : spEnd s t.eb = spEnd s (t.eb + 1) := by rw [spEnd, dif_pos hl]
    rw [h2]
    show adv (1 + (spEnd s (t.eb + 1) - (t.eb + 1))) t = _
    congr 1
    omega
  · have ha : acceptB ⟨#[32]⟩ s t = false := accept_no (v := [32]) (by decide) (fun h b hb => by
      simp only [List.mem_cons, List.not_mem_nil, or_false] at hb
      subst hb
      intro e
      exact hl ⟨h, e.symm⟩)
    have h2 : spEnd s t.eb = t.eb := by rw [spEnd, dif_neg hl]
    rw [acceptRun_of _ _ _ ha, h2, Nat.sub_self, adv_zero]

theorem joins_op {v : ByteArray} (h : notJoins v = true) : kwOf v = .op := by
  unfold notJoins at h
  repeat' split at h
  all_goals first
    | (rename_i e; subst e; decide)
    | exact absurd h (by decide)
theorem root_bra {s : ByteArray} {t : St} {c : Nat} (h : peek s t = (c : Int)) (hc : isBra c = true) : root s t = (some .root, emit kBracket s (next s t)) := by
  rcases bra_iff.1 hc with rfl | rfl | rfl | rfl | rfl | rfl
  all_goals
    unfold root
    rw [h, pOpen, pShut]
    repeat (first | rw [if_neg (by decide)] | rw [if_neg (fun h => absurd h.1 (by decide))])
    rw [if_pos (by decide)]
theorem root_sgn {s : ByteArray} {t : St} {c : Nat} (h : peek s t = (c : Int)) (hc : isSgn c = true) : root s t = (some .root, emit kOperator s (next s t)) := by
  rcases sgn_iff.1 hc with rfl | rfl | rfl | rfl | rfl | rfl
  all_goals
    unfold root
    rw [h, pOpen, pShut, pOne]
    repeat (first | rw [if_neg (by decide)] | rw [if_neg (fun h => absurd h.1 (by decide))])
    rw [if_pos (by decide)]

/-- What the lexer hands out over the small language is the model. -/
theorem small_out {s : ByteArray} (hs : Small s) (d : Bool) : ∀ (k i : Nat), s.size - i = k → i ≤ s.size → Out s (R i i false d) (modelGo s d i ++ [eofTok s.size]) ⟨none, s.size, s.size, s.size, s.size, true, d, none, []⟩ := by
  intro k
  induction k using Nat.strongRecOn with
  | _ k ih =>
  intro i hk hle
  by_cases hi : i < s.size
  · have ha := small_ascii hs hi
    have hp : ∀ q f, peek s (At q i i i i f d) = (byt s i : Int) := fun q f => peek_b (s := s) (t := At q i i i i f d) hi ha
    have hn : ∀ q f, next s (At q i i i i f d) = At q i i (i + 1) (i + 1) f d := fun q f => next_b (s := s) (t := At q i i i i f d) hi ha
    by_cases h32 : byt s i = 32
    · rw [model_sp hi h32]
      exact out_space hi (.inl h32) (ih (s.size - (i + 1)) (by omega) (i + 1) rfl (by omega))
    by_cases hlt : isLet (byt s i) = true
    · rw [model_let hi hlt]
      obtain ⟨e, he⟩ : ∃ e, lettersEnd s (i + 1) = e := ⟨_, rfl⟩
      have e1 := lettersEnd_ge s (i + 1)
      have e2 := lettersEnd_le s (i + 1) (by omega)
      rw [he] at e1 e2 ⊢
      have hsk : alnumSkip s (At .identifier i i i i false d) = At .identifier i i e e false d := by
        rw [alnumSkip_small hs _ _ rfl]
        show adv (lettersEnd s i - i) _ = _
        rw [lettersEnd_let hi hlt, he, adv_R, show i + (e - i) = e by omega]
      have hq : ∀ c : Nat, (c = 39 ∨ c = 34) → peek s (next s (R i i false d)) ≠ (c : Int) := fun c hc => by
        rw [R_at, hn]
        refine peek_ne (by omega) (fun h2 => ?_)
        change i + 1 < s.size at h2
        show byt s (i + 1) ≠ c
        rcases hs (i + 1) h2 with h | h | h | h
        · omega
        · have := let_iff.1 h; omega
        · have := bra_iff.1 h; omega
        · have := sgn_iff.1 h; omega
      have hto : ∀ l u, Out s (At .identifier i i i i false d) l u → Out s (R i i false d) l u := fun l u ho => by
        refine step_to (q := .root) (q' := .identifier) (a := i) (b := i) ?_ ho
        show root s (R i i false d) = _
        rw [root_let (c := byt s i) (by rw [R_at, hp]) (by have := let_iff.1 hlt; omega) (hq 39 (.inl rfl)) (hq 34 (.inr rfl))]
        rfl
      have hw : word s (At .identifier i i e e false d) = s.extract i e := rfl
      have hrec := ih (s.size - e) (by omega) e rfl e2
      refine hto _ _ ?_
      have hid : identifier s (At .identifier i i i i false d) = identEnd s d (At .identifier i i e e false d) (kwOf (s.extract i e)) := by
        unfold identifier
        rw [hsk, hw]
        rfl
      cases hkw : kwOf (s.extract i e) with
      | op =>
        have hkd : kindW d (s.extract i e) = kOperator := by unfold kindW isKw; rw [hkw]; rfl
        rw [hkd, List.cons_append]
        refine out_emit (q := .identifier) (a := e) (b := e) ?_ hrec
        show identifier s _ = _
        rw [hid, hkw]
        rfl
      | cond =>
        have hkd : kindW d (s.extract i e) = if d then kIdentifier else kOperator := by unfold kindW isKw; rw [hkw]; cases d <;> rfl
        rw [hkd, List.cons_append]
        refine out_emit (q := .identifier) (a := e) (b := e) ?_ hrec
        show identifier s _ = _
        rw [hid, hkw]
        rfl
      | other =>
        have hkd : kindW d (s.extract i e) = kIdentifier := by unfold kindW isKw; rw [hkw]; rfl
        rw [hkd, List.cons_append]
        refine out_emit (q := .identifier) (a := e) (b := e) ?_ hrec
        show identifier s _ = _
        rw [hid, hkw]
        rfl
      | kNot =>
        have hkd : kindW d (s.extract i e) = kOperator := by unfold kindW isKw; rw [hkw]; rfl
        rw [hkd, List.cons_append]
        refine step_to (q := .identifier) (q' := .not) (a := e) (b := e) (by
          show identifier s _ = _
          rw [hid, hkw]
          rfl) ?_
        obtain ⟨p, hpp⟩ : ∃ p, spEnd s e = p := ⟨_, rfl⟩
        have p1 := spEnd_ge s e
        have p2 := spEnd_le s e e2
        rw [hpp] at p1 p2
        rw [model_spEnd s d e, hpp]
        have hna : notAt s (At .not i i e e false d) = { R p p false d with q := some .not, toks := [⟨i, e, kOperator, s.extract i e⟩] } := by
          unfold notAt skipSpaces
          rw [spaces_run _ _ rfl]
          show commit (adv (spEnd s e - e) (emit kOperator s (At .not i i e e false d))) = _
          rw [hpp]
          unfold commit adv emit emitV commit At R word
          dsimp only
          rw [show e + (p - e) = p by omega]
          rfl
        obtain ⟨p3, hp3⟩ : ∃ p3, lettersEnd s p = p3 := ⟨_, rfl⟩
        have q1 := lettersEnd_ge s p
        have q2 := lettersEnd_le s p p2
        rw [hp3] at q1 q2
        have hsk2 : alnumSkip s (notAt s (At .not i i e e false d)) = { At .not p p p3 p3 false d with toks := [⟨i, e, kOperator, s.extract i e⟩] } := by
          rw [hna, alnumSkip_small hs _ _ rfl]
          show adv (lettersEnd s p - p) _ = _
          rw [hp3]
          unfold adv R At
          dsimp only
          rw [show p + (p3 - p) = p3 by omega]
        have hw2 : word s (alnumSkip s (notAt s (At .not i i e e false d))) = s.extract p p3 := by rw [hsk2]; rfl
        by_cases hj : notJoins (s.extract p p3) = true
        · have hlt2 : p < p3 := by
            by_cases h : p = p3
            · exfalso
              rw [← h] at hj
              have : s.extract p p = ⟨#[]⟩ := by apply ByteArray.ext; apply Array.ext'; rw [Lib.extract_data, Nat.sub_self]; rfl
              exact joins_ne hj this
            · omega
          have hpl : p < s.size ∧ isLet (byt s p) = true := by
            by_cases h : p < s.size ∧ isLet (byt s p) = true
            · exact h
            · rw [lettersEnd_no h] at hp3; omega
          have hkd2 : kindW d (s.extract p p3) = kOperator := by unfold kindW isKw; rw [joins_op hj]; rfl
          rw [model_let hpl.1 hpl.2, ← lettersEnd_let hpl.1 hpl.2, hp3, hkd2, List.cons_append]
          refine out_two (t' := R p3 p3 false d) rfl ?_ rfl rfl (ih (s.size - p3) (by omega) p3 rfl q2)
          have hstt : state .not s (At .not i i e e false d) = (some .root, emit kOperator s { At .not p p p3 p3 false d with toks := [⟨i, e, kOperator, s.extract i e⟩] }) := by
            show not s _ = _
            unfold not
            rw [hw2, if_pos hj, hsk2]
          rw [step_some (q := .not) rfl, hstt]
          rfl
        · refine out_tok (t' := R p p false d) rfl ?_ rfl rfl (ih (s.size - p) (by omega) p rfl p2)
          have hstt : state .not s (At .not i i e e false d) = (some .root, { R p p false d with q := some .not, toks := [⟨i, e, kOperator, s.extract i e⟩] }) := by
            show not s _ = _
            unfold not
            rw [hw2, if_neg hj, hna]
          rw [step_some (q := .not) rfl, hstt]
          rfl
    · have hlf : isLet (byt s i) = false := by simpa using hlt
      rw [model_one hi h32 hlf, List.cons_append]
      have hrec := ih (s.size - (i + 1)) (by omega) (i + 1) rfl (by omega)
      rcases hs i hi with h | h | h | h
      · exact absurd h h32
      · exact absurd h hlt
      · have hk1 : kindP (byt s i) = kBracket := by unfold kindP; rw [if_pos h]
        rw [hk1]
        refine out_emit (q := .root) (a := i + 1) (b := i + 1) ?_ hrec
        show root s (R i i false d) = _
        rw [root_bra (c := byt s i) (by rw [R_at, hp]) h, R_at, hn]
      · have hk1 : kindP (byt s i) = kOperator := by
          unfold kindP
          rw [if_neg (by intro hb; have := bra_iff.1 hb; have := sgn_iff.1 h; omega)]
        rw [hk1]
        refine out_emit (q := .root) (a := i + 1) (b := i + 1) ?_ hrec
        show root s (R i i false d) = _
        rw [root_sgn (c := byt s i) (by rw [R_at, hp]) h, R_at, hn]
  · obtain rfl : i = s.size := by omega
    rw [model_end hi]
    exact out_eof rfl

theorem model_len (s : ByteArray) (d : Bool) (i : Nat) : (modelGo s d i).length ≤ s.size - i := by
  fun_induction modelGo s d i with
  | case1 i h h32 ih => omega
  | case2 i h h32 hl ih => have := lettersEnd_ge s (i + 1); simp only [List.length_cons]; omega
  | case3 i h h32 hl ih => simp only [List.length_cons]; omega
  | case4 i h => simp

end Go.Proofs.YtkplkccjeacniaaGreatFmt
