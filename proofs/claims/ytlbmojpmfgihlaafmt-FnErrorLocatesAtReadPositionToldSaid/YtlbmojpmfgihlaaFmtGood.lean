/-
  WHAT A LEXER's STEP KEEPS: where it stands at each state, what it emits. No program stands in this text.
-/
import Derived.Test.YtlbmojpmfgihlaaFmtUnesc
import Derived.Test.YtlbmojpmfgihlaaFmtBack
import Derived.Test.YtlbmojpmfgihlaaFmtPure
namespace Go.Proofs.YtlbmojpmfgihlaaFmt
open Go Go.Lib

/-- A token of s from rune a to rune b. -/
structure TokAt (s : ByteArray) (k : Tok) (a b : Nat) : Prop where
  frm : k.frm = a
  to : k.to = b
  lt : a < b
  kind : k.kind ≠ kEOF
  bytes : ∃ i j, Bd s i a ∧ Bd s j b ∧ (k.kind = kString ∨ k.kind = kBytes ∨ k.value = s.extract i j)
/-- Tokens one behind the other between two places (in runes). -/
inductive Tiled (s : ByteArray) : Nat → List Tok → Nat → Prop where
  | nil {m n : Nat} : m ≤ n → Tiled s m [] n
  | cons {m a b n : Nat} {k : Tok} {l : List Tok} : m ≤ a → TokAt s k a b → Tiled s b l n → Tiled s m (k :: l) n
theorem Tiled.le {s : ByteArray} {m n : Nat} {l : List Tok} (h : Tiled s m l n) : m ≤ n := by
  induction h with
  | nil h => exact h
  | cons h1 h2 _ ih => have := h2.lt; omega
theorem Tiled.append {s : ByteArray} {m n o : Nat} {l l' : List Tok} (h : Tiled s m l n) (k : Tiled s n l' o) : Tiled s m (l ++ l') o := by
  induction h with
  | nil h =>
    cases k with
    | nil h2 => exact .nil (by omega)
    | cons a b c => exact .cons (by omega) b c
  | cons h1 h2 _ ih => exact .cons h1 h2 (ih k)
theorem Tiled.one {s : ByteArray} {k : Tok} {a b : Nat} (h : TokAt s k a b) : Tiled s a [k] b := .cons (Nat.le_refl _) h (.nil (Nat.le_refl _))
theorem Tiled.weak {s : ByteArray} {m m' n n' : Nat} {l : List Tok} (h : Tiled s m l n) (h1 : m' ≤ m) (h2 : n ≤ n') : Tiled s m' l n' := by
  induction h generalizing m' with
  | nil h => exact .nil (by omega)
  | cons a b _ ih => exact .cons (by omega) b (ih (Nat.le_refl _) h2)

theorem Bd.inj {s : ByteArray} {i j n : Nat} (h : Bd s i n) (k : Bd s j n) : i = j := by
  induction h generalizing j with
  | zero => cases k; rfl
  | step h hi ih =>
    cases k with
    | step k hk => have := ih k; subst this; rfl

/-- Where the lexer stands at a state. -/
structure Good (s : ByteArray) (q : Q) (t : St) : Prop where
  bd : Bd s t.eb t.er
  bs : Bd s t.sb t.sr
  le : t.sr ≤ t.er
  eof : t.eof = true → q = .root ∧ t.eb = s.size
  root : q = .root → t.sb = t.eb ∧ t.sr = t.er
  number : q = .number → 48 ≤ peek s t ∧ peek s t ≤ 57
  dot : q = .dot → peek s t = 46 ∧ t.sr = t.er
  identifier : q = .identifier → alnum (peek s t) = true ∧ t.sr = t.er
  later : q = .not ∨ q = .questionMark ∨ q = .slash ∨ q = .pointer → t.sr < t.er

theorem Good.back {s : ByteArray} {q : Q} {t : St} (h : Good s q t) (hq : q ≠ .root) : Back s t := ⟨h.bd, by
  cases he : t.eof with
  | false => rfl
  | true => exact absurd (h.eof he).1 hq⟩
theorem Good.backRoot {s : ByteArray} {t : St} (h : Good s .root t) (hl : t.eb < s.size) : Back s t := ⟨h.bd, by
  cases he : t.eof with
  | false => rfl
  | true => have := (h.eof he).2; omega⟩

/-- What one step comes to: an error; the end; or another state. -/
inductive Steps (s : ByteArray) (t : St) : Option Q → St → Prop where
  | err {q : Option Q} {t' : St} : t'.err ≠ none → Steps s t q t'
  | fin {t' : St} : t'.err = none → t'.toks = t.toks ++ [⟨((t.er - 1 : Nat) : Int), t.er, kEOF, ⟨#[]⟩⟩] → t.eb = s.size → t'.eb = t.eb → t'.er = t.er → t'.sb = t.eb → t'.sr = t.er → t'.dis = t.dis → Steps s t none t'
  | go {q : Q} {t' : St} (l : List Tok) : t'.err = none → t'.toks = t.toks ++ l → l.length ≤ 2 → Tiled s t.sr l t'.sr → Good s q t' → t'.dis = t.dis → t.eb ≤ t'.eb → Steps s t (some q) t'

theorem emit_tok {s k : ByteArray} {t t1 : St} (hk : k ≠ kEOF) (h0 : Bd s t.sb t.sr) (h1 : Bd s t1.eb t1.er) (hs : t1.sb = t.sb) (hr : t1.sr = t.sr) (hlt : t.sr < t1.er) : TokAt s ⟨t1.sr, t1.er, k, word s t1⟩ t.sr t1.er :=
  ⟨by rw [hr], rfl, hlt, hk, ⟨t.sb, t1.eb, h0, h1, .inr (.inr (by unfold word; rw [hs]))⟩⟩

theorem kop_ne : kOperator ≠ kEOF := by decide
theorem kbr_ne : kBracket ≠ kEOF := by decide
theorem kid_ne : kIdentifier ≠ kEOF := by decide
theorem knum_ne : kNumber ≠ kEOF := by decide
theorem kstr_ne : kString ≠ kEOF := by decide
theorem kbytes_ne : kBytes ≠ kEOF := by decide

/-- A token emitted, back to root. -/
theorem steps_emit {s k : ByteArray} {t t1 : St} (hk : k ≠ kEOF) (h0 : Bd s t.sb t.sr) (h1 : Back s t1) (hs : t1.sb = t.sb) (hr : t1.sr = t.sr) (htk : t1.toks = t.toks) (he : t1.err = none) (hd : t1.dis = t.dis) (hlt : t.sr < t1.er) (hge : t.eb ≤ t1.eb) : Steps s t (some .root) (emit k s t1) := by
  refine .go [⟨t1.sr, t1.er, k, word s t1⟩] he (by show t1.toks ++ [_] = _; rw [htk]) (by simp) (Tiled.one (emit_tok hk h0 h1.bd hs hr hlt)) ?_ hd hge
  exact ⟨h1.bd, h1.bd, Nat.le_refl _, (fun h => by have := h1.eof; change t1.eof = true at h; rw [this] at h; cases h), fun _ => ⟨rfl, rfl⟩, (fun h => by cases h), (fun h => by cases h), (fun h => by cases h), (fun h => by rcases h with h | h | h | h <;> cases h)⟩

theorem reads_er {s : ByteArray} {t : St} : t.er ≤ (next s t).er := by
  unfold next; split
  · show t.er ≤ t.er + 1; omega
  · exact Nat.le_refl _
theorem next_er {s : ByteArray} {t : St} (h : t.eb < s.size) : (next s t).er = t.er + 1 := by rw [next_in h]
theorem accept_er (v s : ByteArray) (t : St) : t.er ≤ (accept v s t).er := by
  unfold accept; split
  · exact reads_er
  · exact Nat.le_refl _
theorem acceptRun_er_ge (v s : ByteArray) (t : St) : t.er ≤ (acceptRun v s t).er := by
  fun_induction acceptRun v s t with
  | case1 t h ih => exact Nat.le_trans reads_er ih
  | case2 t h => exact Nat.le_refl _
theorem alnumSkip_er (s : ByteArray) (t : St) : t.er ≤ (alnumSkip s t).er := by
  fun_induction alnumSkip s t with
  | case1 t h ih => exact Nat.le_trans reads_er ih
  | case2 t h => exact Nat.le_refl _
theorem alnumSkip_gt {s : ByteArray} {t : St} (h : alnum (peek s t) = true) : t.er < (alnumSkip s t).er := by
  rw [alnumSkip_eq, if_pos h]
  have h1 := next_er (alnum_in h)
  have h2 := alnumSkip_er s (next s t)
  omega

theorem good_questionMark {s : ByteArray} {t : St} (h : Good s .questionMark t) (he : t.err = none) : Steps s t (questionMark s t).1 (questionMark s t).2 := by
  have hr := reads_accept cQd s t
  have := h.later (.inr (.inl rfl))
  exact steps_emit kop_ne h.bs (back_accept (h.back (by decide))) hr.sb hr.sr hr.toks (hr.err.trans he) hr.dis (Nat.lt_of_lt_of_le this (accept_er _ _ _)) hr.ge

theorem good_plain {s : ByteArray} {q : Q} {t1 : St} (hq : q = .singleLine ∨ q = .multiLine) (h1 : Back s t1) (h0 : Bd s t1.sb t1.sr) (hle : t1.sr ≤ t1.er) : Good s q t1 := by
  have he : t1.eof = true → False := fun h => by rw [h1.eof] at h; cases h
  rcases hq with rfl | rfl
  · exact ⟨h1.bd, h0, hle, fun h => (he h).elim, (fun h => by cases h), (fun h => by cases h), (fun h => by cases h), (fun h => by cases h), (fun h => by rcases h with h | h | h | h <;> cases h)⟩
  · exact ⟨h1.bd, h0, hle, fun h => (he h).elim, (fun h => by cases h), (fun h => by cases h), (fun h => by cases h), (fun h => by cases h), (fun h => by rcases h with h | h | h | h <;> cases h)⟩

theorem good_slash {s : ByteArray} {t : St} (h : Good s .slash t) (he : t.err = none) : Steps s t (slash s t).1 (slash s t).2 := by
  have hb := h.back (by decide)
  have hlt := h.later (.inr (.inr (.inl rfl)))
  have hr := reads_next s t
  unfold slash
  split
  · rename_i ha
    have hl := peek_lt (has_ne ha)
    dsimp only
    exact .go [] (hr.err.trans he) (by rw [hr.toks]; simp) (by simp) (.nil (by rw [hr.sr]; exact Nat.le_refl _)) (good_plain (.inl rfl) (hb.next hl) (by rw [hr.sb, hr.sr]; exact h.bs) (by rw [hr.sr, next_er hl]; omega)) hr.dis hr.ge
  · split
    · rename_i ha
      have hl := peek_lt (has_ne ha)
      dsimp only
      exact .go [] (hr.err.trans he) (by rw [hr.toks]; simp) (by simp) (.nil (by rw [hr.sr]; exact Nat.le_refl _)) (good_plain (.inr rfl) (hb.next hl) (by rw [hr.sb, hr.sr]; exact h.bs) (by rw [hr.sr, next_er hl]; omega)) hr.dis hr.ge
    · dsimp only
      exact steps_emit kop_ne h.bs hb rfl rfl rfl he rfl hlt (Nat.le_refl _)

/-- At a boundary; where the end is met, at the end. -/
structure Edge (s : ByteArray) (t : St) : Prop where
  bd : Bd s t.eb t.er
  eof : t.eof = true → t.eb = s.size
theorem Back.edge {s : ByteArray} {t : St} (h : Back s t) : Edge s t := ⟨h.bd, (fun e => by rw [h.eof] at e; cases e)⟩
theorem Edge.next {s : ByteArray} {t : St} (h : Edge s t) : Edge s (Go.Proofs.YtlbmojpmfgihlaaFmt.next s t) := by
  by_cases hl : t.eb < s.size
  · rw [next_in hl]
    exact ⟨h.bd.step hl, fun e => by have := h.eof e; omega⟩
  · rw [next_end hl]
    exact ⟨h.bd, fun _ => by have := h.bd.le; show t.eb = s.size; omega⟩
theorem edge_lineRun {s : ByteArray} {t : St} (h : Edge s t) : Edge s (lineRun s t) := by
  fun_induction lineRun s t with
  | case1 t hh => exact h.next
  | case2 t hh ih => exact ih h.next
theorem edge_multiRun {s : ByteArray} {t : St} (h : Edge s t) : Edge s (multiRun s t).2 := by
  fun_induction multiRun s t with
  | case1 t hh => exact h.next
  | case2 t hh h2 => exact h.next.next
  | case3 t hh h2 ih => exact ih h.next
theorem er_lineRun (s : ByteArray) (t : St) : t.er ≤ (lineRun s t).er := by
  fun_induction lineRun s t with
  | case1 t hh => exact reads_er
  | case2 t hh ih => exact Nat.le_trans reads_er ih
theorem er_multiRun (s : ByteArray) (t : St) : t.er ≤ (multiRun s t).2.er := by
  fun_induction multiRun s t with
  | case1 t hh => exact reads_er
  | case2 t hh h2 => exact Nat.le_trans reads_er reads_er
  | case3 t hh h2 ih => exact Nat.le_trans reads_er ih
/-- Text passed over, back to root. -/
theorem steps_skip {s : ByteArray} {t t1 : St} (h1 : Edge s t1) (hr : Reads s t t1) (he : t.err = none) (hle : t.sr ≤ t1.er) : Steps s t (some .root) (commit t1) := by
  refine .go [] (hr.err.trans he) (by show t1.toks = _; rw [hr.toks]; simp) (by simp) (.nil hle) ?_ hr.dis hr.ge
  exact ⟨h1.bd, h1.bd, Nat.le_refl _, fun h => ⟨rfl, h1.eof h⟩, fun _ => ⟨rfl, rfl⟩, (fun h => by cases h), (fun h => by cases h), (fun h => by cases h), (fun h => by rcases h with h | h | h | h <;> cases h)⟩
theorem good_singleLine {s : ByteArray} {t : St} (h : Good s .singleLine t) (he : t.err = none) : Steps s t (singleLine s t).1 (singleLine s t).2 :=
  steps_skip (edge_lineRun (h.back (by decide)).edge) (reads_lineRun s t) he (Nat.le_trans h.le (er_lineRun s t))
theorem error_ne (t : St) : (error t).err ≠ none := by
  unfold error
  split
  · rename_i h
    intro e
    rw [e] at h
    cases h
  · intro e; cases e
theorem good_multiLine {s : ByteArray} {t : St} (h : Good s .multiLine t) (he : t.err = none) : Steps s t (multiLine s t).1 (multiLine s t).2 := by
  unfold multiLine
  split
  · exact steps_skip (edge_multiRun (h.back (by decide)).edge) (reads_multiRun s t) he (Nat.le_trans h.le (er_multiRun s t))
  · exact .err (error_ne _)

theorem good_dot {s : ByteArray} {t : St} (h : Good s .dot t) (he : t.err = none) : Steps s t (dot s t).1 (dot s t).2 := by
  have hb := h.back (by decide)
  obtain ⟨hp, hse⟩ := h.dot rfl
  have hl : t.eb < s.size := peek_lt (by rw [hp]; decide)
  have hr := reads_next s t
  have hb1 := hb.next hl
  unfold dot
  split
  · rename_i ha
    have hd : 48 ≤ peek s (next s t) ∧ peek s (next s t) ≤ 57 := by
      have h1 : has cDig (peek s (next s t)) = true := ha
      have h2 := has_bs [48, 49, 50, 51, 52, 53, 54, 55, 56, 57] (by decide) (peek s (next s t))
      have e : bs [48, 49, 50, 51, 52, 53, 54, 55, 56, 57] = cDig := rfl
      rw [e, h1] at h2
      have h3 := h2.symm
      simp at h3
      omega
    dsimp only
    refine .go [] (hr.err.trans he) (by rw [hr.toks]; simp) (by simp) (.nil (by rw [hr.sr]; exact Nat.le_refl _)) ?_ hr.dis hr.ge
    exact ⟨hb1.bd, by rw [hr.sb, hr.sr]; exact h.bs, by rw [hr.sr, next_er hl]; omega, (fun e => by rw [hb1.eof] at e; cases e), (fun h => by cases h), fun _ => hd, (fun h => by cases h), (fun h => by cases h), (fun h => by rcases h with h | h | h | h <;> cases h)⟩
  · have hr2 := hr.trans (reads_accept cDot s (next s t))
    have h3 := next_er hl
    have h4 := accept_er cDot s (next s t)
    exact steps_emit kop_ne h.bs (back_accept hb1) hr2.sb hr2.sr hr2.toks (hr2.err.trans he) hr2.dis (by omega) hr2.ge

theorem good_identifier {s : ByteArray} {t : St} (h : Good s .identifier t) (he : t.err = none) : Steps s t (identifier s t).1 (identifier s t).2 := by
  have hb := h.back (by decide)
  obtain ⟨hp, hse⟩ := h.identifier rfl
  have hr := reads_alnumSkip s t
  have hgt := alnumSkip_gt hp
  have hb1 := back_alnumSkip hb
  have key : ∀ k, k ≠ kEOF → Steps s t (some .root) (emit k s (alnumSkip s t)) := fun k hk => steps_emit hk h.bs hb1 hr.sb hr.sr hr.toks (hr.err.trans he) hr.dis (by omega) hr.ge
  unfold identifier identEnd
  split
  · dsimp only
    refine .go [] (hr.err.trans he) (by rw [hr.toks]; simp) (by simp) (.nil (by rw [hr.sr]; exact Nat.le_refl _)) ?_ hr.dis hr.ge
    exact ⟨hb1.bd, by rw [hr.sb, hr.sr]; exact h.bs, by rw [hr.sr]; omega, (fun e => by rw [hb1.eof] at e; cases e), (fun h => by cases h), (fun h => by cases h), (fun h => by cases h), (fun h => by cases h), fun _ => by rw [hr.sr]; omega⟩
  · exact key _ kop_ne
  · split
    · exact key _ kid_ne
    · exact key _ kop_ne
  · exact key _ kid_ne

theorem word_sr {s : ByteArray} {t : St} (h0 : t.eb ≤ s.size) (h1 : t.sb < t.eb) : word s t ≠ ⟨#[]⟩ := by
  intro e
  have := congrArg ByteArray.size e
  unfold word at this
  rw [ByteArray.size_extract] at this
  change min t.eb s.size - t.sb = 0 at this
  omega
theorem Bd.lt_of {s : ByteArray} {i n j m : Nat} (h : Bd s i n) (k : Bd s j m) (hlt : n < m) : i < j := by
  induction k with
  | zero => omega
  | @step j m k hj ih =>
    have := wAt_pos s j hj
    by_cases e : n = m
    · subst e; have := h.inj k; omega
    · have := ih (by omega); omega

theorem good_pointer {s : ByteArray} {t : St} (h : Good s .pointer t) (he : t.err = none) : Steps s t (pointer s t).1 (pointer s t).2 := by
  have hb := h.back (by decide)
  have hlt := h.later (.inr (.inr (.inr rfl)))
  have hra := reads_accept cHash s t
  have hea := accept_er cHash s t
  have hba := back_accept (v := cHash) hb
  obtain ⟨ta, hta⟩ : ∃ x, emit kOperator s (accept cHash s t) = x := ⟨_, rfl⟩
  have hbt : Back s ta := by rw [← hta]; exact back_emit hba
  have hr := reads_alnumSkip s ta
  have hb1 := back_alnumSkip hbt
  have h1 := emit_tok (k := kOperator) kop_ne h.bs hba.bd hra.sb hra.sr (by omega)
  have e1 : ta.sb = (accept cHash s t).eb ∧ ta.sr = (accept cHash s t).er ∧ ta.eb = (accept cHash s t).eb ∧ ta.er = (accept cHash s t).er := by rw [← hta]; exact ⟨rfl, rfl, rfl, rfl⟩
  have e2 : ta.toks = t.toks ++ [⟨(accept cHash s t).sr, (accept cHash s t).er, kOperator, word s (accept cHash s t)⟩] := by rw [← hta, ← hra.toks]; rfl
  have e3 : ta.err = none := by rw [← hta]; exact hra.err.trans he
  have e4 : ta.dis = t.dis := by rw [← hta]; exact hra.dis
  have hge : t.eb ≤ (alnumSkip s ta).eb := by have := hr.ge; have := hra.ge; omega
  have her := alnumSkip_er s ta
  have hpa : pointerAt s t = alnumSkip s ta := by unfold pointerAt; rw [hta]
  unfold pointer
  rw [hpa]
  split
  · rename_i hw
    have hz : (alnumSkip s ta).sb = (alnumSkip s ta).eb ∧ (alnumSkip s ta).sr = (alnumSkip s ta).er := by
      by_cases hh : (alnumSkip s ta).sr < (alnumSkip s ta).er
      · exfalso
        have hbs : Bd s (alnumSkip s ta).sb (alnumSkip s ta).sr := by rw [hr.sb, hr.sr, e1.1, e1.2.1]; exact hba.bd
        exact word_sr hb1.le (hbs.lt_of hb1.bd hh) hw
      · have h2 : (alnumSkip s ta).sr = (alnumSkip s ta).er := by have := hr.sr; omega
        refine ⟨?_, h2⟩
        have hbs : Bd s (alnumSkip s ta).sb (alnumSkip s ta).sr := by rw [hr.sb, hr.sr, e1.1, e1.2.1]; exact hba.bd
        rw [h2] at hbs
        exact hbs.inj hb1.bd
    dsimp only
    refine .go _ (hr.err.trans e3) (by rw [hr.toks, e2]) (by simp) ((Tiled.one h1).weak (Nat.le_refl _) (by have := hr.sr; omega)) ?_ (hr.dis.trans e4) hge
    exact ⟨hb1.bd, by rw [hz.1, hz.2]; exact hb1.bd, by omega, (fun e => by rw [hb1.eof] at e; cases e), fun _ => hz, (fun h => by cases h), (fun h => by cases h), (fun h => by cases h), (fun h => by rcases h with h | h | h | h <;> cases h)⟩
  · rename_i hw
    have hlt2 : (alnumSkip s ta).sr < (alnumSkip s ta).er := by
      by_cases hh : (alnumSkip s ta).sr < (alnumSkip s ta).er
      · exact hh
      · exfalso
        have h2 : (alnumSkip s ta).sr = (alnumSkip s ta).er := by have := hr.sr; omega
        have hbs : Bd s (alnumSkip s ta).sb (alnumSkip s ta).sr := by rw [hr.sb, hr.sr, e1.1, e1.2.1]; exact hba.bd
        rw [h2] at hbs
        have h3 := hbs.inj hb1.bd
        apply hw
        unfold word
        rw [h3]
        apply ByteArray.ext
        simp
    have h0 : Bd s ta.sb ta.sr := by rw [e1.1, e1.2.1]; exact hba.bd
    have h2 := emit_tok (t := ta) (t1 := alnumSkip s ta) (k := kIdentifier) kid_ne h0 hb1.bd hr.sb hr.sr (by have := hr.sr; omega)
    have h3 := (Tiled.one h1).append (m := t.sr) (by rw [← e1.2.1]; exact Tiled.one h2)
    dsimp only
    refine .go _ (hr.err.trans e3) (by show (alnumSkip s ta).toks ++ [_] = _; rw [hr.toks, e2, List.append_assoc]) (by simp) h3 ?_ (hr.dis.trans e4) hge
    exact ⟨hb1.bd, hb1.bd, Nat.le_refl _, (fun e => by have := hb1.eof; change (alnumSkip s ta).eof = true at e; rw [this] at e; cases e), fun _ => ⟨rfl, rfl⟩, (fun h => by cases h), (fun h => by cases h), (fun h => by cases h), (fun h => by rcases h with h | h | h | h <;> cases h)⟩

end Go.Proofs.YtlbmojpmfgihlaaFmt
