/-
  Plain texts, joined: Good Good2 Pull Ascii NumLit Out Sim Bd Signs.
-/
import Derived.Test.YtdpdgppjeekcmaaFmtJA
import Derived.Lib.MapLaws
import Derived.Lib.IndexBytes
/-
  WHAT A LEXER's STEP KEEPS: where it stands at each state, what it emits. No program stands in this text.
-/
namespace Go.Proofs.YtdpdgppjeekcmaaFmt
open Go Go.Lib

/-- A token of s from rune a to rune b. -/
structure TokAt (s : ByteArray) (k : Tok) (a b : Nat) : Prop where
  frm : k.frm = a
  to : k.to = b
  lt : a < b
  kind : k.kind ≠ kEOF
  bytes : ∃ i j, Bd s i a ∧ Bd s j b ∧ (k.kind = kString ∨ k.kind = kBytes ∨ k.value = s.extract i j)
/-- Tokens one behind the other between two places (in runes). -/
inductive Tiled (s : ByteArray) : Nat → List Tok → Nat → Prop where
  | nil {m n : Nat} : m ≤ n → Tiled s m [] n
  | cons {m a b n : Nat} {k : Tok} {l : List Tok} : m ≤ a → TokAt s k a b → Tiled s b l n → Tiled s m (k :: l) n
theorem Tiled.le {s : ByteArray} {m n : Nat} {l : List Tok} (h : Tiled s m l n) : m ≤ n := by
  induction h with
  | nil h => exact h
  | cons h1 h2 _ ih => have := h2.lt; omega
theorem Tiled.append {s : ByteArray} {m n o : Nat} {l l' : List Tok} (h : Tiled s m l n) (k : Tiled s n l' o) : Tiled s m (l ++ l') o := by
  induction h with
  | nil h =>
    cases k with
    | nil h2 => exact .nil (by omega)
    | cons a b c => exact .cons (by omega) b c
  | cons h1 h2 _ ih => exact .cons h1 h2 (ih k)
theorem Tiled.one {s : ByteArray} {k : Tok} {a b : Nat} (h : TokAt s k a b) : Tiled s a [k] b := .cons (Nat.le_refl _) h (.nil (Nat.le_refl _))
theorem Tiled.weak {s : ByteArray} {m m' n n' : Nat} {l : List Tok} (h : Tiled s m l n) (h1 : m' ≤ m) (h2 : n ≤ n') : Tiled s m' l n' := by
  induction h generalizing m' with
  | nil h => exact .nil (by omega)
  | cons a b _ ih => exact .cons (by omega) b (ih (Nat.le_refl _) h2)

theorem Bd.inj {s : ByteArray} {i j n : Nat} (h : Bd s i n) (k : Bd s j n) : i = j := by
  induction h generalizing j with
  | zero => cases k; rfl
  | step h hi ih =>
    cases k with
    | step k hk => have := ih k; subst this; rfl

/-- Where the lexer stands at a state. -/
structure Good (s : ByteArray) (q : Q) (t : St) : Prop where
  bd : Bd s t.eb t.er
  bs : Bd s t.sb t.sr
  le : t.sr ≤ t.er
  eof : t.eof = true → q = .root ∧ t.eb = s.size
  root : q = .root → t.sb = t.eb ∧ t.sr = t.er
  number : q = .number → 48 ≤ peek s t ∧ peek s t ≤ 57
  dot : q = .dot → peek s t = 46 ∧ t.sr = t.er
  identifier : q = .identifier → alnum (peek s t) = true ∧ t.sr = t.er
  later : q = .not ∨ q = .questionMark ∨ q = .slash ∨ q = .pointer → t.sr < t.er

theorem Good.back {s : ByteArray} {q : Q} {t : St} (h : Good s q t) (hq : q ≠ .root) : Back s t := ⟨h.bd, by
  cases he : t.eof with
  | false => rfl
  | true => exact absurd (h.eof he).1 hq⟩
theorem Good.backRoot {s : ByteArray} {t : St} (h : Good s .root t) (hl : t.eb < s.size) : Back s t := ⟨h.bd, by
  cases he : t.eof with
  | false => rfl
  | true => have := (h.eof he).2; omega⟩

/-- What one step comes to: an error; the end; or another state. -/
inductive Steps (s : ByteArray) (t : St) : Option Q → St → Prop where
  | err {q : Option Q} {t' : St} : t'.err ≠ none → Steps s t q t'
  | fin {t' : St} : t'.err = none → t'.toks = t.toks ++ [⟨((t.er - 1 : Nat) : Int), t.er, kEOF, ⟨#[]⟩⟩] → t.eb = s.size → t'.eb = t.eb → t'.er = t.er → t'.sb = t.eb → t'.sr = t.er → t'.dis = t.dis → Steps s t none t'
  | go {q : Q} {t' : St} (l : List Tok) : t'.err = none → t'.toks = t.toks ++ l → l.length ≤ 2 → Tiled s t.sr l t'.sr → Good s q t' → t'.dis = t.dis → t.eb ≤ t'.eb → Steps s t (some q) t'

theorem emit_tok {s k : ByteArray} {t t1 : St} (hk : k ≠ kEOF) (h0 : Bd s t.sb t.sr) (h1 : Bd s t1.eb t1.er) (hs : t1.sb = t.sb) (hr : t1.sr = t.sr) (hlt : t.sr < t1.er) : TokAt s ⟨t1.sr, t1.er, k, word s t1⟩ t.sr t1.er :=
  ⟨by rw [hr], rfl, hlt, hk, ⟨t.sb, t1.eb, h0, h1, .inr (.inr (by unfold word; rw [hs]))⟩⟩

theorem kop_ne : kOperator ≠ kEOF := by decide
theorem kbr_ne : kBracket ≠ kEOF := by decide
theorem kid_ne : kIdentifier ≠ kEOF := by decide
theorem knum_ne : kNumber ≠ kEOF := by decide
theorem kstr_ne : kString ≠ kEOF := by decide
theorem kbytes_ne : kBytes ≠ kEOF := by decide

/-- A token emitted, back to root. -/
theorem steps_emit {s k : ByteArray} {t t1 : St} (hk : k ≠ kEOF) (h0 : Bd s t.sb t.sr) (h1 : Back s t1) (hs : t1.sb = t.sb) (hr : t1.sr = t.sr) (htk : t1.toks = t.toks) (he : t1.err = none) (hd : t1.dis = t.dis) (hlt : t.sr < t1.er) (hge : t.eb ≤ t1.eb) : Steps s t (some .root) (emit k s t1) := by
  refine .go [⟨t1.sr, t1.er, k, word s t1⟩] he (by show t1.toks ++ [_] = _; rw [htk]) (by simp) (Tiled.one (emit_tok hk h0 h1.bd hs hr hlt)) ?_ hd hge
  exact ⟨h1.bd, h1.bd, Nat.le_refl _, (fun h => by have := h1.eof; change t1.eof = true at h; rw [this] at h; cases h), fun _ => ⟨rfl, rfl⟩, (fun h => by cases h), (fun h => by cases h), (fun h => by cases h), (fun h => by rcases h with h | h | h | h <;> cases h)⟩

theorem reads_er {s : ByteArray} {t : St} : t.er ≤ (next s t).er := by
  unfold next; split
  · show t.er ≤ t.er + 1; omega
  · exact Nat.le_refl _
theorem next_er {s : ByteArray} {t : St} (h : t.eb < s.size) : (next s t).er = t.er + 1 := by rw [next_in h]
theorem accept_er (v s : ByteArray) (t : St) : t.er ≤ (accept v s t).er := by
  unfold accept; split
  · exact reads_er
  · exact Nat.le_refl _
theorem acceptRun_er_ge (v s : ByteArray) (t : St) : t.er ≤ (acceptRun v s t).er := by
  fun_induction acceptRun v s t with
  | case1 t h ih => exact Nat.le_trans reads_er ih
  | case2 t h => exact Nat.le_refl _
theorem alnumSkip_er (s : ByteArray) (t : St) : t.er ≤ (alnumSkip s t).er := by
  fun_induction alnumSkip s t with
  | case1 t h ih => exact Nat.le_trans reads_er ih
  | case2 t h => exact Nat.le_refl _
theorem alnumSkip_gt {s : ByteArray} {t : St} (h : alnum (peek s t) = true) : t.er < (alnumSkip s t).er := by
  rw [alnumSkip_eq, if_pos h]
  have h1 := next_er (alnum_in h)
  have h2 := alnumSkip_er s (next s t)
  omega

theorem good_questionMark {s : ByteArray} {t : St} (h : Good s .questionMark t) (he : t.err = none) : Steps s t (questionMark s t).1 (questionMark s t).2 := by
  have hr := reads_accept cQd s t
  have := h.later (.inr (.inl rfl))
  exact steps_emit kop_ne h.bs (back_accept (h.back (by decide))) hr.sb hr.sr hr.toks (hr.err.trans he) hr.dis (Nat.lt_of_lt_of_le this (accept_er _ _ _)) hr.ge

theorem good_plain {s : ByteArray} {q : Q} {t1 : St} (hq : q = .singleLine ∨ q = .multiLine) (h1 : Back s t1) (h0 : Bd s t1.sb t1.sr) (hle : t1.sr ≤ t1.er) : Good s q t1 := by
  have he : t1.eof = true → False := fun h => by rw [h1.eof] at h; cases h
  rcases hq with rfl | rfl
  · exact ⟨h1.bd, h0, hle, fun h => (he h).elim, (fun h => by cases h), (fun h => by cases h), (fun h => by cases h), (fun h => by cases h), (fun h => by rcases h with h | h | h | h <;> cases h)⟩
  · exact ⟨h1.bd, h0, hle, fun h => (he h).elim, (fun h => by cases h), (fun h => by cases h), (fun h => by cases h), (fun h => by cases h), (fun h => by rcases h with h | h | h | h <;> cases h)⟩

theorem good_slash {s : ByteArray} {t : St} (h : Good s .slash t) (he : t.err = none) : Steps s t (slash s t).1 (slash s t).2 := by
  have hb := h.back (by decide)
  have hlt := h.later (.inr (.inr (.inl rfl)))
  have hr := reads_next s t
  unfold slash
  split
  · rename_i ha
    have hl := peek_lt (has_ne ha)
    dsimp only
    exact .go [] (hr.err.trans he) (by rw [hr.toks]; simp) (by simp) (.nil (by rw [hr.sr]; exact Nat.le_refl _)) (good_plain (.inl rfl) (hb.next hl) (by rw [hr.sb, hr.sr]; exact h.bs) (by rw [hr.sr, next_er hl]; omega)) hr.dis hr.ge
  · split
    · rename_i ha
      have hl := peek_lt (has_ne ha)
      dsimp only
      exact .go [] (hr.err.trans he) (by rw [hr.toks]; simp) (by simp) (.nil (by rw [hr.sr]; exact Nat.le_refl _)) (good_plain (.inr rfl) (hb.next hl) (by rw [hr.sb, hr.sr]; exact h.bs) (by rw [hr.sr, next_er hl]; omega)) hr.dis hr.ge
    · dsimp only
      exact steps_emit kop_ne h.bs hb rfl rfl rfl he rfl hlt (Nat.le_refl _)

/-- At a boundary; where the end is met, at the end. -/
structure Edge (s : ByteArray) (t : St) : Prop where
  bd : Bd s t.eb t.er
  eof : t.eof = true → t.eb = s.size
theorem Back.edge {s : ByteArray} {t : St} (h : Back s t) : Edge s t := ⟨h.bd, (fun e => by rw [h.eof] at e; cases e)⟩
theorem Edge.next {s : ByteArray} {t : St} (h : Edge s t) : Edge s (Go.Proofs.YtdpdgppjeekcmaaFmt.next s t) := by
  by_cases hl : t.eb < s.size
  · rw [next_in hl]
    exact ⟨h.bd.step hl, fun e => by have := h.eof e; omega⟩
  · rw [next_end hl]
    exact ⟨h.bd, fun _ => by have := h.bd.le; show t.eb = s.size; omega⟩
theorem edge_lineRun {s : ByteArray} {t : St} (h : Edge s t) : Edge s (lineRun s t) := by
  fun_induction lineRun s t with
  | case1 t hh => exact h.next
  | case2 t hh ih => exact ih h.next
theorem edge_multiRun {s : ByteArray} {t : St} (h : Edge s t) : Edge s (multiRun s t).2 := by
  fun_induction multiRun s t with
  | case1 t hh => exact h.next
  | case2 t hh h2 => exact h.next.next
  | case3 t hh h2 ih => exact ih h.next
theorem er_lineRun (s : ByteArray) (t : St) : t.er ≤ (lineRun s t).er := by
  fun_induction lineRun s t with
  | case1 t hh => exact reads_er
  | case2 t hh ih => exact Nat.le_trans reads_er ih
theorem er_multiRun (s : ByteArray) (t : St) : t.er ≤ (multiRun s t).2.er := by
  fun_induction multiRun s t with
  | case1 t hh => exact reads_er
  | case2 t hh h2 => exact Nat.le_trans reads_er reads_er
  | case3 t hh h2 ih => exact Nat.le_trans reads_er ih
/-- Text passed over, back to root. -/
theorem steps_skip {s : ByteArray} {t t1 : St} (h1 : Edge s t1) (hr : Reads s t t1) (he : t.err = none) (hle : t.sr ≤ t1.er) : Steps s t (some .root) (commit t1) := by
  refine .go [] (hr.err.trans he) (by show t1.toks = _; rw [hr.toks]; simp) (by simp) (.nil hle) ?_ hr.dis hr.ge
  exact ⟨h1.bd, h1.bd, Nat.le_refl _, fun h => ⟨rfl, h1.eof h⟩, fun _ => ⟨rfl, rfl⟩, (fun h => by cases h), (fun h => by cases h), (fun h => by cases h), (fun h => by rcases h with h | h | h | h <;> cases h)⟩
theorem good_singleLine {s : ByteArray} {t : St} (h : Good s .singleLine t) (he : t.err = none) : Steps s t (singleLine s t).1 (singleLine s t).2 :=
  steps_skip (edge_lineRun (h.back (by decide)).edge) (reads_lineRun s t) he (Nat.le_trans h.le (er_lineRun s t))
theorem error_ne (t : St) : (error t).err ≠ none := by
  unfold error
  split
  · rename_i h
    intro e
    rw [e] at h
    cases h
  · intro e; cases e
theorem good_multiLine {s : ByteArray} {t : St} (h : Good s .multiLine t) (he : t.err = none) : Steps s t (multiLine s t).1 (multiLine s t).2 := by
  unfold multiLine
  split
  · exact steps_skip (edge_multiRun (h.back (by decide)).edge) (reads_multiRun s t) he (Nat.le_trans h.le (er_multiRun s t))
  · exact .err (error_ne _)

theorem good_dot {s : ByteArray} {t : St} (h : Good s .dot t) (he : t.err = none) : Steps s t (dot s t).1 (dot s t).2 := by
  have hb := h.back (by decide)
  obtain ⟨hp, hse⟩ := h.dot rfl
  have hl : t.eb < s.size := peek_lt (by rw [hp]; decide)
  have hr := reads_next s t
  have hb1 := hb.next hl
  unfold dot
  split
  · rename_i ha
    have hd : 48 ≤ peek s (next s t) ∧ peek s (next s t) ≤ 57 := by
      have h1 : has cDig (peek s (next s t)) = true := ha
      have h2 := has_bs [48, 49, 50, 51, 52, 53, 54, 55, 56, 57] (by decide) (peek s (next s t))
      have e : bs [48, 49, 50, 51, 52, 53, 54, 55, 56, 57] = cDig := rfl
      rw [e, h1] at h2
      have h3 := h2.symm
      simp at h3
      omega
    dsimp only
    refine .go [] (hr.err.trans he) (by rw [hr.toks]; simp) (by simp) (.nil (by rw [hr.sr]; exact Nat.le_refl _)) ?_ hr.dis hr.ge
    exact ⟨hb1.bd, by rw [hr.sb, hr.sr]; exact h.bs, by rw [hr.sr, next_er hl]; omega, (fun e => by rw [hb1.eof] at e; cases e), (fun h => by cases h), fun _ => hd, (fun h => by cases h), (fun h => by cases h), (fun h => by rcases h with h | h | h | h <;> cases h)⟩
  · have hr2 := hr.trans (reads_accept cDot s (next s t))
    have h3 := next_er hl
    have h4 := accept_er cDot s (next s t)
    exact steps_emit kop_ne h.bs (back_accept hb1) hr2.sb hr2.sr hr2.toks (hr2.err.trans he) hr2.dis (by omega) hr2.ge

theorem good_identifier {s : ByteArray} {t : St} (h : Good s .identifier t) (he : t.err = none) : Steps s t (identifier s t).1 (identifier s t).2 := by
  have hb := h.back (by decide)
  obtain ⟨hp, hse⟩ := h.identifier rfl
  have hr := reads_alnumSkip s t
  have hgt := alnumSkip_gt hp
  have hb1 := back_alnumSkip hb
  have key : ∀ k, k ≠ kEOF → Steps s t (some .root) (emit k s (alnumSkip s t)) := fun k hk => steps_emit hk h.bs hb1 hr.sb hr.sr hr.toks (hr.err.trans he) hr.dis (by omega) hr.ge
  unfold identifier identEnd
  split
  · dsimp only
    refine .go [] (hr.err.trans he) (by rw [hr.toks]; simp) (by simp) (.nil (by rw [hr.sr]; exact Nat.le_refl _)) ?_ hr.dis hr.ge
    exact ⟨hb1.bd, by rw [hr.sb, hr.sr]; exact h.bs, by rw [hr.sr]; omega, (fun e => by rw [hb1.eof] at e; cases e), (fun h => by cases h), (fun h => by cases h), (fun h => by cases h), (fun h => by cases h), fun _ => by rw [hr.sr]; omega⟩
  · exact key _ kop_ne
  · split
    · exact key _ kid_ne
    · exact key _ kop_ne
  · exact key _ kid_ne

theorem word_sr {s : ByteArray} {t : St} (h0 : t.eb ≤ s.size) (h1 : t.sb < t.eb) : word s t ≠ ⟨#[]⟩ := by
  intro e
  have := congrArg ByteArray.size e
  unfold word at this
  rw [ByteArray.size_extract] at this
  change min t.eb s.size - t.sb = 0 at this
  omega
theorem Bd.lt_of {s : ByteArray} {i n j m : Nat} (h : Bd s i n) (k : Bd s j m) (hlt : n < m) : i < j := by
  induction k with
  | zero => omega
  | @step j m k hj ih =>
    have := wAt_pos s j hj
    by_cases e : n = m
    · subst e; have := h.inj k; omega
    · have := ih (by omega); omega

theorem good_pointer {s : ByteArray} {t : St} (h : Good s .pointer t) (he : t.err = none) : Steps s t (pointer s t).1 (pointer s t).2 := by
  have hb := h.back (by decide)
  have hlt := h.later (.inr (.inr (.inr rfl)))
  have hra := reads_accept cHash s t
  have hea := accept_er cHash s t
  have hba := back_accept (v := cHash) hb
  obtain ⟨ta, hta⟩ : ∃ x, emit kOperator s (accept cHash s t) = x := ⟨_, rfl⟩
  have hbt : Back s ta := by rw [← hta]; exact back_emit hba
  have hr := reads_alnumSkip s ta
  have hb1 := back_alnumSkip hbt
  have h1 := emit_tok (k := kOperator) kop_ne h.bs hba.bd hra.sb hra.sr (by omega)
  have e1 : ta.sb = (accept cHash s t).eb ∧ ta.sr = (accept cHash s t).er ∧ ta.eb = (accept cHash s t).eb ∧ ta.er = (accept cHash s t).er := by rw [← hta]; exact ⟨rfl, rfl, rfl, rfl⟩
  have e2 : ta.toks = t.toks ++ [⟨(accept cHash s t).sr, (accept cHash s t).er, kOperator, word s (accept cHash s t)⟩] := by rw [← hta, ← hra.toks]; rfl
  have e3 : ta.err = none := by rw [← hta]; exact hra.err.trans he
  have e4 : ta.dis = t.dis := by rw [← hta]; exact hra.dis
  have hge : t.eb ≤ (alnumSkip s ta).eb := by have := hr.ge; have := hra.ge; omega
  have her := alnumSkip_er s ta
  have hpa : pointerAt s t = alnumSkip s ta := by unfold pointerAt; rw [hta]
  unfold pointer
  rw [hpa]
  split
  · rename_i hw
    have hz : (alnumSkip s ta).sb = (alnumSkip s ta).eb ∧ (alnumSkip s ta).sr = (alnumSkip s ta).er := by
      by_cases hh : (alnumSkip s ta).sr < (alnumSkip s ta).er
      · exfalso
        have hbs : Bd s (alnumSkip s ta).sb (alnumSkip s ta).sr := by rw [hr.sb, hr.sr, e1.1, e1.2.1]; exact hba.bd
        exact word_sr hb1.le (hbs.lt_of hb1.bd hh) hw
      · have h2 : (alnumSkip s ta).sr = (alnumSkip s ta).er := by have := hr.sr; omega
        refine ⟨?_, h2⟩
        have hbs : Bd s (alnumSkip s ta).sb (alnumSkip s ta).sr := by rw [hr.sb, hr.sr, e1.1, e1.2.1]; exact hba.bd
        rw [h2] at hbs
        exact hbs.inj hb1.bd
    dsimp only
    refine .go _ (hr.err.trans e3) (by rw [hr.toks, e2]) (by simp) ((Tiled.one h1).weak (Nat.le_refl _) (by have := hr.sr; omega)) ?_ (hr.dis.trans e4) hge
    exact ⟨hb1.bd, by rw [hz.1, hz.2]; exact hb1.bd, by omega, (fun e => by rw [hb1.eof] at e; cases e), fun _ => hz, (fun h => by cases h), (fun h => by cases h), (fun h => by cases h), (fun h => by rcases h with h | h | h | h <;> cases h)⟩
  · rename_i hw
    have hlt2 : (alnumSkip s ta).sr < (alnumSkip s ta).er := by
      by_cases hh : (alnumSkip s ta).sr < (alnumSkip s ta).er
      · exact hh
      · exfalso
        have h2 : (alnumSkip s ta).sr = (alnumSkip s ta).er := by have := hr.sr; omega
        have hbs : Bd s (alnumSkip s ta).sb (alnumSkip s ta).sr := by rw [hr.sb, hr.sr, e1.1, e1.2.1]; exact hba.bd
        rw [h2] at hbs
        have h3 := hbs.inj hb1.bd
        apply hw
        unfold word
        rw [h3]
        apply ByteArray.ext
        simp
    have h0 : Bd s ta.sb ta.sr := by rw [e1.1, e1.2.1]; exact hba.bd
    have h2 := emit_tok (t := ta) (t1 := alnumSkip s ta) (k := kIdentifier) kid_ne h0 hb1.bd hr.sb hr.sr (by have := hr.sr; omega)
    have h3 := (Tiled.one h1).append (m := t.sr) (by rw [← e1.2.1]; exact Tiled.one h2)
    dsimp only
    refine .go _ (hr.err.trans e3) (by show (alnumSkip s ta).toks ++ [_] = _; rw [hr.toks, e2, List.append_assoc]) (by simp) h3 ?_ (hr.dis.trans e4) hge
    exact ⟨hb1.bd, hb1.bd, Nat.le_refl _, (fun e => by have := hb1.eof; change (alnumSkip s ta).eof = true at e; rw [this] at e; cases e), fun _ => ⟨rfl, rfl⟩, (fun h => by cases h), (fun h => by cases h), (fun h => by cases h), (fun h => by rcases h with h | h | h | h <;> cases h)⟩

end Go.Proofs.YtdpdgppjeekcmaaFmt

/-
  What a lexer's step keeps: number, not, the scanners of quoted texts, root; every step. No program stands in this text.
-/
namespace Go.Proofs.YtdpdgppjeekcmaaFmt
open Go Go.Lib

/-! ### number -/
theorem back_numPre {s : ByteArray} {t : St} (h : Back s t) : Back s (numPre s t).2 := by
  unfold numPre
  split
  · rename_i h0
    have b1 := h.next (peek_lt (has_ne h0))
    split
    · rename_i h1; exact b1.next (peek_lt (has_ne h1))
    · split
      · rename_i h1; exact b1.next (peek_lt (has_ne h1))
      · split
        · rename_i h1; exact b1.next (peek_lt (has_ne h1))
        · exact b1
  · exact h
theorem er_numPre {s : ByteArray} {t : St} : t.er ≤ (numPre s t).2.er := by
  unfold numPre
  repeat' split
  all_goals first | exact Nat.le_trans reads_er reads_er | exact reads_er | exact Nat.le_refl _
theorem back_numEnd {d s : ByteArray} {t : St} (h : Back s t) (hb : (numEnd d s t).1 = true) : Back s (numEnd d s t).2 := by
  have key : ∀ x, Back s x → (if alnum (peek s x) = true then (false, next s x) else (true, x)).1 = true → Back s (if alnum (peek s x) = true then (false, next s x) else (true, x)).2 := by
    intro x hx hb
    split at hb
    · cases hb
    · rename_i h2
      rw [if_neg h2]
      exact hx
  refine key _ ?_ hb
  split
  · rename_i h1
    exact back_acceptRun (back_accept (h.next (peek_lt (has_ne h1))))
  · exact h
theorem er_numEnd {d s : ByteArray} {t : St} : t.er ≤ (numEnd d s t).2.er := by
  have key : ∀ x : St, t.er ≤ x.er → t.er ≤ (if alnum (peek s x) = true then (false, next s x) else (true, x)).2.er := by
    intro x hx
    split
    · exact Nat.le_trans hx reads_er
    · exact hx
  refine key _ ?_
  split
  · exact Nat.le_trans reads_er (Nat.le_trans (accept_er _ _ _) (acceptRun_er_ge _ _ _))
  · exact Nat.le_refl _
theorem back_numFrac {d s : ByteArray} {t : St} (h : Back s t) (hb : (numFrac d s t).1 = true) : Back s (numFrac d s t).2 := by
  unfold numFrac at hb ⊢
  split
  · rename_i h1
    rw [if_pos h1] at hb
    have b1 := h.next (peek_lt (has_ne h1))
    split
    · exact ⟨h.bd, b1.eof⟩
    · rename_i h2
      rw [if_neg h2] at hb
      exact back_numEnd (back_acceptRun b1) hb
  · rename_i h1
    rw [if_neg h1] at hb
    exact back_numEnd h hb
theorem er_numFrac {d s : ByteArray} {t : St} : t.er ≤ (numFrac d s t).2.er := by
  unfold numFrac
  split
  · split
    · exact Nat.le_refl _
    · exact Nat.le_trans reads_er (Nat.le_trans (acceptRun_er_ge _ _ _) er_numEnd)
  · exact er_numEnd
theorem er_number {s : ByteArray} {t : St} (h1 : 48 ≤ peek s t) (h2 : peek s t ≤ 57) : t.er < (scanNumber s t).2.er := by
  have hl : t.eb < s.size := peek_lt (by omega)
  unfold scanNumber
  refine Nat.lt_of_lt_of_le ?_ er_numFrac
  by_cases h0 : acceptB c0 s t = true
  · refine Nat.lt_of_lt_of_le ?_ (acceptRun_er_ge _ _ _)
    have hn := next_er hl
    have hn2 : (next s t).er ≤ (next s (next s t)).er := reads_er
    unfold numPre
    rw [if_pos h0]
    repeat' split
    all_goals (show t.er < _; dsimp only; omega)
  · have hpre : numPre s t = (dDec, t) := by unfold numPre; rw [if_neg h0]
    rw [hpre]
    show t.er < (acceptRun dDec s t).er
    have ha : acceptB dDec s t = true := by
      have h3 := has_bs [48, 49, 50, 51, 52, 53, 54, 55, 56, 57, 95] (by decide) (peek s t)
      have e : bs [48, 49, 50, 51, 52, 53, 54, 55, 56, 57, 95] = dDec := rfl
      rw [e] at h3
      unfold acceptB
      rw [h3]
      simp
      omega
    rw [acceptRun]
    have ha' : has dDec (peek s t) = true := ha
    rw [dif_pos ha']
    have hn := next_er hl
    have := acceptRun_er_ge dDec s (next s t)
    omega
theorem good_number {s : ByteArray} {t : St} (h : Good s .number t) (he : t.err = none) : Steps s t (number s t).1 (number s t).2 := by
  have hb := h.back (by decide)
  obtain ⟨h1, h2⟩ := h.number rfl
  have hr := reads_scanNumber s t
  have hg := er_number h1 h2
  unfold number
  split
  · rename_i hh
    have hb1 : Back s (scanNumber s t).2 := back_numFrac (back_acceptRun (back_numPre hb)) hh
    exact steps_emit knum_ne h.bs hb1 hr.sb hr.sr hr.toks (hr.err.trans he) hr.dis (Nat.lt_of_le_of_lt h.le hg) hr.ge
  · exact .err (error_ne _)

/-! ### not -/
theorem joins_ne {v : ByteArray} (h : notJoins v = true) : v ≠ ⟨#[]⟩ := by
  intro e
  subst e
  exact absurd h (by decide)
theorem good_not {s : ByteArray} {t : St} (h : Good s .not t) (he : t.err = none) : Steps s t (not s t).1 (not s t).2 := by
  have hb := h.back (by decide)
  have hlt := h.later (.inl rfl)
  obtain ⟨tn, htn⟩ : ∃ x, notAt s t = x := ⟨_, rfl⟩
  have hra := acceptRun_rest ⟨#[32]⟩ s (emit kOperator s t)
  have hgs := acceptRun_er_ge ⟨#[32]⟩ s (emit kOperator s t)
  have hge0 := (reads_acceptRun ⟨#[32]⟩ s (emit kOperator s t)).ge
  have hbn : Back s tn := by rw [← htn]; exact back_commit (back_acceptRun (back_emit hb))
  have e1 : tn.toks = t.toks ++ [⟨t.sr, t.er, kOperator, word s t⟩] := by rw [← htn]; exact hra.2.2.1
  have e2 : tn.sb = tn.eb ∧ tn.sr = tn.er := by rw [← htn]; exact ⟨rfl, rfl⟩
  have e3 : tn.err = none := by rw [← htn]; exact hra.2.2.2.1.trans he
  have e4 : tn.dis = t.dis := by rw [← htn]; exact hra.2.2.2.2.2.1
  have e5 : t.er ≤ tn.er := by rw [← htn]; exact hgs
  have e6 : t.eb ≤ tn.eb := by rw [← htn]; exact hge0
  have h1 := emit_tok (t := t) (t1 := t) (k := kOperator) kop_ne h.bs h.bd rfl rfl hlt
  have hr := reads_alnumSkip s tn
  have hb1 := back_alnumSkip hbn
  unfold not
  rw [htn]
  split
  · rename_i hj
    have hlt2 : tn.er < (alnumSkip s tn).er := by
      by_cases hh : tn.er < (alnumSkip s tn).er
      · exact hh
      · exfalso
        have h2 : (alnumSkip s tn).er = tn.er := by have := alnumSkip_er s tn; omega
        have hbd := hb1.bd
        rw [h2] at hbd
        have h3 := hbd.inj hbn.bd
        apply joins_ne hj
        unfold word
        rw [h3, hr.sb, e2.1]
        apply ByteArray.ext
        simp
    have h2 := emit_tok (t := tn) (t1 := alnumSkip s tn) (k := kOperator) kop_ne (by rw [e2.1, e2.2]; exact hbn.bd) hb1.bd hr.sb hr.sr (by omega)
    refine .go _ (hr.err.trans e3) (by show (alnumSkip s tn).toks ++ [_] = _; rw [hr.toks, e1, List.append_assoc]) (by simp) (((Tiled.one h1).weak (Nat.le_refl _) (show t.er ≤ tn.sr by omega)).append (Tiled.one h2)) ?_ (hr.dis.trans e4) (by have := hr.ge; show t.eb ≤ (alnumSkip s tn).eb; omega)
    exact ⟨hb1.bd, hb1.bd, Nat.le_refl _, (fun e => by have := hb1.eof; change (alnumSkip s tn).eof = true at e; rw [this] at e; cases e), fun _ => ⟨rfl, rfl⟩, (fun h => by cases h), (fun h => by cases h), (fun h => by cases h), (fun h => by rcases h with h | h | h | h <;> cases h)⟩
  · dsimp only
    refine .go _ e3 e1 (by simp) ((Tiled.one h1).weak (Nat.le_refl _) (by omega)) ?_ e4 e6
    exact ⟨hbn.bd, by rw [e2.1, e2.2]; exact hbn.bd, by omega, (fun e => by rw [hbn.eof] at e; cases e), fun _ => e2, (fun h => by cases h), (fun h => by cases h), (fun h => by cases h), (fun h => by rcases h with h | h | h | h <;> cases h)⟩

/-! ### the scanners of quoted texts -/
/-- Reads from t on; ch is the last that was read. -/
structure Scan (s : ByteArray) (t : St) (ch : Int) (t' : St) : Prop where
  q : t'.q = t.q
  dis : t'.dis = t.dis
  toks : t'.toks = t.toks
  sb : t'.sb = t.sb
  sr : t'.sr = t.sr
  er : t.er ≤ t'.er
  ge : t.eb ≤ t'.eb
  edge : Edge s t → Edge s t'
  le : t.eb ≤ s.size → t'.eb ≤ s.size
  live : t'.err = none → t.err = none ∧ (t.eof = false → ch ≠ -1 → t'.eof = false)
theorem scan_next (s : ByteArray) (t : St) : Scan s t (peek s t) (next s t) := by
  have h := reads_next s t
  refine ⟨h.q, h.dis, h.toks, h.sb, h.sr, reads_er, h.ge, Edge.next, h.le, fun e => ⟨by rw [← h.err]; exact e, fun he hp => ?_⟩⟩
  rw [next_in (peek_lt hp)]
  exact he
theorem error_same (t : St) : (error t).q = t.q ∧ (error t).dis = t.dis ∧ (error t).toks = t.toks ∧ (error t).sb = t.sb ∧ (error t).sr = t.sr ∧ (error t).er = t.er ∧ (error t).eb = t.eb ∧ (error t).eof = t.eof := by
  unfold error
  split <;> exact ⟨rfl, rfl, rfl, rfl, rfl, rfl, rfl, rfl⟩
theorem Scan.error {s : ByteArray} {t t1 : St} {c : Int} (h : Scan s t c t1) (c' : Int) : Scan s t c' (Go.Proofs.YtdpdgppjeekcmaaFmt.error t1) := by
  obtain ⟨a1, a2, a3, a4, a5, a6, a7, a8⟩ := error_same t1
  exact ⟨a1.trans h.q, a2.trans h.dis, a3.trans h.toks, a4.trans h.sb, a5.trans h.sr, by rw [a6]; exact h.er, by rw [a7]; exact h.ge, fun e => ⟨by rw [a6, a7]; exact (h.edge e).bd, fun x => by rw [a7]; exact (h.edge e).eof (by rw [← a8]; exact x)⟩, fun e => by rw [a7]; exact h.le e, fun e => absurd e (error_ne t1)⟩
theorem Scan.next {s : ByteArray} {t t1 : St} {c : Int} (h : Scan s t c t1) (hc : c ≠ -1) : Scan s t (peek s t1) (Go.Proofs.YtdpdgppjeekcmaaFmt.next s t1) := by
  have k := scan_next s t1
  exact ⟨k.q.trans h.q, k.dis.trans h.dis, k.toks.trans h.toks, k.sb.trans h.sb, k.sr.trans h.sr, Nat.le_trans h.er k.er, Nat.le_trans h.ge k.ge, fun e => k.edge (h.edge e), fun e => k.le (h.le e), fun e => ⟨(h.live (k.live e).1).1, fun he hp => (k.live e).2 ((h.live (k.live e).1).2 he hc) hp⟩⟩
theorem digitVal_end : digitVal (-1) = 16 := by decide
theorem scan_digits (s : ByteArray) (base : Int) (hb : base ≤ 16) {t0 : St} : ∀ (n : Nat) (ch : Int) (t : St), Scan s t0 ch t → Scan s t0 (scanDigits s base n ch t).1 (scanDigits s base n ch t).2
  | 0, _, _, h => h
  | n + 1, ch, t, h => by
    unfold scanDigits
    split
    · rename_i hd
      exact scan_digits s base hb n _ _ (h.next (by intro e; rw [e, digitVal_end] at hd; omega))
    · exact h.error _
theorem scan_braces (s : ByteArray) {t0 : St} : ∀ (f d : Nat) (t : St) (c : Int), c ≠ -1 → Scan s t0 c t → 7 ≤ f + d → Scan s t0 (braces s f d t).1 (braces s f d t).2
  | 0, d, t, c, hc, h, hd => by
    unfold braces
    exact ⟨h.q, h.dis, h.toks, h.sb, h.sr, h.er, h.ge, h.edge, h.le, fun e => ⟨(h.live e).1, fun _ x => absurd rfl x⟩⟩
  | f + 1, d, t, c, hc, h, hd => by
    unfold braces
    split
    · rename_i hp
      split
      · exact h.error _
      · exact (h.next hc).next (by rw [hp]; decide)
    · split
      · exact h.error _
      · rename_i hd16
        split
        · exact h.error _
        · exact scan_braces s f (d + 1) _ (peek s t) (by intro e; rw [e, digitVal_end] at hd16; exact hd16 (Int.le_refl _)) (h.next hc) (by omega)
theorem scan_escape (s : ByteArray) (quote : Int) (hq : quote ≠ -1) {t0 t : St} {c : Int} (hc : c ≠ -1) (h : Scan s t0 c t) : Scan s t0 (scanEscape s quote t).1 (scanEscape s quote t).2 := by
  have h1 := h.next hc
  unfold scanEscape
  dsimp only
  split
  · rename_i hh
    refine h1.next ?_
    intro e
    rw [e] at hh
    have : ¬ (-1 = quote) := fun e => hq e.symm
    simp [isSimple, this] at hh
  · split
    · rename_i hh
      exact scan_digits s 8 (by decide) 3 _ _ h1
    · split
      · rename_i hh
        exact scan_digits s 16 (by decide) 2 _ _ (h1.next (by rw [hh]; decide))
      · split
        · rename_i hh
          split
          · rename_i hp
            exact scan_braces s 7 0 _ (peek s (next s t)) (by rw [hp]; decide) (h1.next (by rw [hh]; decide)) (by omega)
          · exact scan_digits s 16 (by decide) 4 _ _ (h1.next (by rw [hh]; decide))
        · split
          · rename_i hh
            exact scan_digits s 16 (by decide) 8 _ _ (h1.next (by rw [hh]; decide))
          · exact h1.error _
theorem scan_str (s : ByteArray) (quote : Int) (hq : quote ≠ -1) {t0 : St} (n : Nat) (ch : Int) (t : St) (h : Scan s t0 ch t) : Scan s t0 quote (scanStr s quote hq n ch t).2 := by
  rw [scanStr]
  split
  · rename_i e
    rw [← e]
    exact h
  · split
    · exact h.error _
    · rename_i hne
      have hc : ch ≠ -1 := fun e => hne (.inr e)
      split
      · exact scan_str s quote hq _ _ _ (scan_escape s quote hq hc h)
      · exact scan_str s quote hq _ _ _ (h.next hc)
termination_by togo s ch t
decreasing_by
  all_goals first
    | exact togo_escape s quote ch t hq hc
    | exact togo_next s ch t hc
theorem scan_string (s : ByteArray) (quote : Int) (hq : quote ≠ -1) (t : St) : Scan s t quote (scanString s quote hq t).2 := scan_str s quote hq 0 _ _ (scan_next s t)
theorem scan_rawGo (s : ByteArray) (quote : Int) (hq : quote ≠ -1) {t0 : St} (n e : Nat) (ch : Int) (t : St) (h : Scan s t0 ch t) : Scan s t0 quote (rawGo s quote n e ch t).2.2.2 ∧ ((rawGo s quote n e ch t).2.2.1 = false → (rawGo s quote n e ch t).2.2.2.err ≠ none) := by
  rw [rawGo]
  split
  · rename_i hh
    exact scan_rawGo s quote hq _ _ _ _ ((h.next hh.2.2).next (by rw [hh.2.1]; exact hq))
  · split
    · rename_i e
      rw [← e]
      exact ⟨h, (fun x => by cases x)⟩
    · split
      · exact ⟨h.error _, fun _ => error_ne _⟩
      · rename_i hne
        exact scan_rawGo s quote hq _ _ _ _ (h.next hne)
termination_by togo s ch t
decreasing_by
  all_goals first
    | (have hh : ch = quote ∧ peek s t = quote ∧ ch ≠ -1 := by assumption
       exact Nat.lt_trans (togo_next s _ _ (by rw [hh.2.1, ← hh.1]; exact hh.2.2)) (togo_next s ch t hh.2.2))
    | exact togo_next s ch t (by assumption)

/-! ### root -/
/-- A token of a value, back to root. -/
theorem steps_emitV {s k v : ByteArray} {t t1 : St} (hk : k = kString ∨ k = kBytes) (h0 : Bd s t.sb t.sr) (h1 : Back s t1) (_hs : t1.sb = t.sb) (hr : t1.sr = t.sr) (htk : t1.toks = t.toks) (he : t1.err = none) (hd : t1.dis = t.dis) (hlt : t.sr < t1.er) (hge : t.eb ≤ t1.eb) : Steps s t (some .root) (emitV k v t1) := by
  have hk2 : k ≠ kEOF := by rcases hk with rfl | rfl <;> decide
  refine .go [⟨t1.sr, t1.er, k, v⟩] he (by show t1.toks ++ [_] = _; rw [htk]) (by simp) (Tiled.one ⟨by rw [hr], rfl, hlt, hk2, ⟨t.sb, t1.eb, h0, h1.bd, by rcases hk with h | h; exact .inl h; exact .inr (.inl h)⟩⟩) ?_ hd hge
  exact ⟨h1.bd, h1.bd, Nat.le_refl _, (fun h => by have := h1.eof; change t1.eof = true at h; rw [this] at h; cases h), fun _ => ⟨rfl, rfl⟩, (fun h => by cases h), (fun h => by cases h), (fun h => by cases h), (fun h => by rcases h with h | h | h | h <;> cases h)⟩
theorem good_str {one : ByteArray → Option (Int × Bool × Nat)} {s k : ByteArray} {o : Nat} {quote : Int} {hq : quote ≠ -1} {t t1 : St} (hk : k = kString ∨ k = kBytes) (h0 : Bd s t.sb t.sr) (hb : Back s t1) (hs : t1.sb = t.sb) (hr : t1.sr = t.sr) (htk : t1.toks = t.toks) (hd : t1.dis = t.dis) (hlt : t.sr < t1.er) (hge : t.eb ≤ t1.eb) : Steps s t (some .root) (rootStr one k o s quote hq t1) := by
  have hsc := scan_string s quote hq t1
  unfold rootStr
  dsimp only
  by_cases hu : (unesc one ((word s (scanString s quote hq t1).2).extract o (word s (scanString s quote hq t1).2).size)).1 = true
  · rw [if_pos hu]
    by_cases he : (scanString s quote hq t1).2.err = none
    · have hb2 : Back s (scanString s quote hq t1).2 := ⟨(hsc.edge hb.edge).bd, (hsc.live he).2 hb.eof hq⟩
      exact steps_emitV hk h0 hb2 (hsc.sb.trans hs) (hsc.sr.trans hr) (hsc.toks.trans htk) he (hsc.dis.trans hd) (Nat.lt_of_lt_of_le hlt hsc.er) (Nat.le_trans hge hsc.ge)
    · exact .err he
  · rw [if_neg hu]
    exact .err (error_ne _)

theorem good_to {s : ByteArray} {q : Q} {t : St} (h : Good s .root t) (hl : t.eb < s.size) (he : t.err = none) (hq : q = .number ∨ q = .dot ∨ q = .identifier) (h1 : q = .number → 48 ≤ peek s t ∧ peek s t ≤ 57) (h2 : q = .dot → peek s t = 46) (h3 : q = .identifier → alnum (peek s t) = true) : Steps s t (some q) t := by
  have hb := h.backRoot hl
  have hr := h.root rfl
  refine .go [] he (by simp) (by simp) (.nil (Nat.le_refl _)) ?_ rfl (Nat.le_refl _)
  refine ⟨h.bd, h.bs, h.le, fun e => by (rw [hb.eof] at e; cases e), fun e => by (subst e; rcases hq with h | h | h <;> cases h), h1, fun e => ⟨h2 e, hr.2⟩, fun e => ⟨h3 e, hr.2⟩, fun e => ?_⟩
  rcases hq with rfl | rfl | rfl <;> rcases e with h | h | h | h <;> cases h
theorem good_after {s : ByteArray} {q : Q} {t : St} (h : Good s .root t) (hl : t.eb < s.size) (he : t.err = none) (hq : q = .questionMark ∨ q = .slash ∨ q = .pointer) : Steps s t (some q) (next s t) := by
  have hb := (h.backRoot hl).next hl
  have hr := reads_next s t
  have hn := next_er hl
  have h0 := h.le
  refine .go [] (hr.err.trans he) (by rw [hr.toks]; simp) (by simp) (.nil (by rw [hr.sr]; exact Nat.le_refl _)) ?_ hr.dis hr.ge
  refine ⟨hb.bd, by rw [hr.sb, hr.sr]; exact h.bs, by rw [hr.sr]; omega, fun e => by (rw [hb.eof] at e; cases e), fun e => ?_, fun e => ?_, fun e => ?_, fun e => ?_, fun _ => by rw [hr.sr]; omega⟩
  all_goals (subst e; rcases hq with h | h | h <;> cases h)
theorem good_root {s : ByteArray} {t : St} (h : Good s .root t) (he : t.err = none) : Steps s t (root s t).1 (root s t).2 := by
  have hse := h.root rfl
  by_cases c0 : peek s t = -1
  · have hl : ¬ t.eb < s.size := fun hl => by have := peek_nonneg hl; omega
    have hsz : t.eb = s.size := by have := h.bd.le; omega
    have hroot : root s t = (none, emitEOF (next s t)) := by unfold root; rw [if_pos c0]
    rw [hroot]
    dsimp only
    rw [next_end hl]
    exact .fin he rfl hsz rfl rfl rfl rfl rfl
  have hw := root_way s t
  generalize root s t = p at hw
  have hl : t.eb < s.size := peek_lt c0
  have hb := h.backRoot hl
  have hb1 := hb.next hl
  have hr := reads_next s t
  have hn := next_er hl
  have hem : ∀ k, k ≠ kEOF → Steps s t (some .root) (emit k s (next s t)) := fun k hk => steps_emit hk h.bs hb1 hr.sb hr.sr hr.toks (hr.err.trans he) hr.dis (by omega) hr.ge
  have hea : ∀ k v, k ≠ kEOF → Steps s t (some .root) (emit k s (accept v s (next s t))) := fun k v hk => by
    have hr2 := hr.trans (reads_accept v s (next s t))
    have := accept_er v s (next s t)
    exact steps_emit hk h.bs (back_accept hb1) hr2.sb hr2.sr hr2.toks (hr2.err.trans he) hr2.dis (by omega) hr2.ge
  cases hw with
  | eof c => exact absurd c c0
  | space _ _ => exact steps_skip hb1.edge hr he (by omega)
  | str1 _ _ => exact good_str (.inl rfl) h.bs hb1 hr.sb hr.sr hr.toks hr.dis (by omega) hr.ge
  | str2 _ _ => exact good_str (.inl rfl) h.bs hb1 hr.sb hr.sr hr.toks hr.dis (by omega) hr.ge
  | raw _ _ =>
    have hg := scan_rawGo s 96 (by decide) 0 0 _ _ (scan_next s (next s t))
    unfold scanRaw
    generalize rawGo s 96 0 0 (peek s (next s t)) (next s (next s t)) = g at hg
    obtain ⟨n, e, b, t2⟩ := g
    dsimp only at hg
    cases b with
    | false => exact .err (hg.2 rfl)
    | true =>
      have hsc := hg.1
      dsimp only
      by_cases he2 : t2.err = none
      · have hb2 : Back s t2 := ⟨(hsc.edge hb1.edge).bd, (hsc.live he2).2 hb1.eof (by decide)⟩
        have := hsc.er
        exact steps_emitV (.inl rfl) h.bs hb2 (hsc.sb.trans hr.sb) (hsc.sr.trans hr.sr) (hsc.toks.trans hr.toks) he2 (hsc.dis.trans hr.dis) (by omega) (Nat.le_trans hr.ge hsc.ge)
      · exact .err he2
  | byt1 _ hq =>
    have hl1 : (next s t).eb < s.size := peek_lt (by rw [hq.2]; decide)
    have hr2 := hr.trans (reads_next s (next s t))
    have hn2 := next_er hl1
    exact good_str (.inr rfl) h.bs (hb1.next hl1) hr2.sb hr2.sr hr2.toks hr2.dis (by omega) hr2.ge
  | byt2 _ hq =>
    have hl1 : (next s t).eb < s.size := peek_lt (by rw [hq.2]; decide)
    have hr2 := hr.trans (reads_next s (next s t))
    have hn2 := next_er hl1
    exact good_str (.inr rfl) h.bs (hb1.next hl1) hr2.sb hr2.sr hr2.toks hr2.dis (by omega) hr2.ge
  | digit _ hd => exact good_to h hl he (.inl rfl) (fun _ => hd) (fun e => by cases e) (fun e => by cases e)
  | quest _ _ => exact good_after h hl he (.inl rfl)
  | slash _ _ => exact good_after h hl he (.inr (.inl rfl))
  | hash _ _ => exact good_after h hl he (.inr (.inr rfl))
  | bar _ _ => exact hea _ _ kop_ne
  | colon _ _ => exact hea _ _ kop_ne
  | open_ _ _ => exact hem _ kbr_ne
  | shut _ _ => exact hem _ kbr_ne
  | one _ _ => exact hem _ kop_ne
  | two _ _ => exact hea _ _ kop_ne
  | dot _ hd => exact good_to h hl he (.inr (.inl rfl)) (fun e => by cases e) (fun _ => hd) (fun e => by cases e)
  | ident _ hd => exact good_to h hl he (.inr (.inr rfl)) (fun e => by cases e) (fun e => by cases e) (fun _ => hd)
  | bad _ => exact .err (error_ne _)

theorem good_state {s : ByteArray} {q : Q} {t : St} (h : Good s q t) (he : t.err = none) : Steps s t (state q s t).1 (state q s t).2 := by
  cases q with
  | root => exact good_root h he
  | number => exact good_number h he
  | questionMark => exact good_questionMark h he
  | slash => exact good_slash h he
  | pointer => exact good_pointer h he
  | dot => exact good_dot h he
  | identifier => exact good_identifier h he
  | not => exact good_not h he
  | singleLine => exact good_singleLine h he
  | multiLine => exact good_multiLine h he

end Go.Proofs.YtdpdgppjeekcmaaFmt

/-
  Next and Lex said in plain Lean: how often the states are stepped, what a call of Next comes to, what Lex gathers. No program stands in this text.
-/
namespace Go.Proofs.YtdpdgppjeekcmaaFmt
open Go Go.Lib

/-- The lexer between two calls. -/
def Inv (s : ByteArray) (t : St) : Prop := t.err = none → ∀ q, t.q = some q → Good s q t

theorem step_some {s : ByteArray} {t : St} {q : Q} (h : t.q = some q) : step s t = { (state q s t).2 with q := (state q s t).1 } := by unfold step; rw [h]
theorem going_iff {t : St} : going t = true ↔ (∃ q, t.q = some q) ∧ t.err = none ∧ t.toks = [] := by
  unfold going
  cases h1 : t.q with
  | none => simp
  | some q => cases h2 : t.err <;> cases h3 : t.toks <;> simp
theorem good_q {s : ByteArray} {q : Q} {t : St} {x : Option Q} (h : Good s q t) : Good s q { t with q := x } := ⟨h.bd, h.bs, h.le, h.eof, h.root, h.number, h.dot, h.identifier, h.later⟩
theorem inv_step {s : ByteArray} {t : St} (h : Inv s t) (hg : going t = true) : Inv s (step s t) := by
  obtain ⟨⟨q, hq⟩, he, _⟩ := going_iff.1 hg
  have hs := good_state (h he q hq) he
  rw [step_some hq]
  intro he2 q2 hq2
  change (state q s t).1 = some q2 at hq2
  change (state q s t).2.err = none at he2
  generalize hx : (state q s t).1 = x at *
  generalize hy : (state q s t).2 = y at *
  cases hs with
  | err h => exact absurd he2 h
  | fin => cases hq2
  | go l h1 h2 h3 h4 h5 h6 h7 =>
    cases hq2
    exact good_q h5

/-- A state that emits, or stops, at once: 0; root 1; a comment 2. -/
def rankQ : Q → Nat
  | .root => 1
  | .singleLine => 2
  | .multiLine => 2
  | .slash => 1
  | _ => 0
def mz (s : ByteArray) (t : St) : Nat := if going t then (match t.q with | none => 0 | some q => 3 * (s.size - t.eb) + rankQ q + 1) else 0

/-- Each step that Next goes on behind brings it nearer to its end. -/
theorem next_eb {s : ByteArray} {t : St} (h : t.eb < s.size) : (next s t).eb ≤ s.size ∧ t.eb < (next s t).eb := ⟨next_le (Nat.le_of_lt h), next_gt h⟩
theorem lineRun_ge (s : ByteArray) (t : St) : t.eb ≤ (lineRun s t).eb := (reads_lineRun s t).ge
theorem multiRun_ge (s : ByteArray) (t : St) : t.eb ≤ (multiRun s t).2.eb := (reads_multiRun s t).ge
theorem mz_some {s : ByteArray} {t : St} {q : Q} (hg : going t = true) (hq : t.q = some q) : mz s t = 3 * (s.size - t.eb) + rankQ q + 1 := by
  unfold mz
  rw [if_pos hg, hq]
theorem toks_emit {k s : ByteArray} {t : St} : (emit k s t).toks ≠ [] := by
  show t.toks ++ [_] ≠ []
  simp
theorem mz_step {s : ByteArray} {t : St} (h : Inv s t) (hg : going t = true) (hg2 : going (step s t) = true) : mz s (step s t) < mz s t := by
  obtain ⟨⟨q, hq⟩, he, htk⟩ := going_iff.1 hg
  obtain ⟨⟨q2, hq2⟩, he2, htk2⟩ := going_iff.1 hg2
  have hG := h he q hq
  have hle := hG.bd.le
  rw [mz_some hg hq, mz_some hg2 hq2]
  rw [step_some hq] at hq2 he2 htk2 ⊢
  change (state q s t).1 = some q2 at hq2
  change (state q s t).2.err = none at he2
  change (state q s t).2.toks = [] at htk2
  show 3 * (s.size - (state q s t).2.eb) + rankQ q2 + 1 < _
  have r2 : rankQ q2 ≤ 2 := by cases q2 <;> decide
  cases q with
  | root =>
    show _ < 3 * (s.size - t.eb) + 1 + 1
    change (root s t).1 = some q2 at hq2
    change (root s t).2.toks = [] at htk2
    change (root s t).2.err = none at he2
    show 3 * (s.size - (root s t).2.eb) + rankQ q2 + 1 < _
    have hs := good_root hG he
    by_cases c0 : peek s t = -1
    · exfalso
      unfold root at hq2
      rw [if_pos c0] at hq2
      cases hq2
    have hl : t.eb < s.size := peek_lt c0
    have hgt := next_eb hl
    have case1 : ∀ t', (root s t).2 = t' → (next s t).eb ≤ t'.eb → 3 * (s.size - (root s t).2.eb) + rankQ q2 + 1 < 3 * (s.size - t.eb) + 1 + 1 := by
      intro t' e h1
      rw [e]
      omega
    have case2 : ∀ q', (root s t).1 = some q' → rankQ q' = 0 → (root s t).2 = t → 3 * (s.size - (root s t).2.eb) + rankQ q2 + 1 < 3 * (s.size - t.eb) + 1 + 1 := by
      intro q' e1 e2 e3
      rw [e1] at hq2
      cases hq2
      rw [e3, e2]
      omega
    have no : ∀ k t', (root s t).2 = emit k s t' → 3 * (s.size - (root s t).2.eb) + rankQ q2 + 1 < 3 * (s.size - t.eb) + 1 + 1 := by
      intro k t' e
      rw [e] at htk2
      exact absurd htk2 toks_emit
    have noV : ∀ k v t', (root s t).2 = emitV k v t' → 3 * (s.size - (root s t).2.eb) + rankQ q2 + 1 < 3 * (s.size - t.eb) + 1 + 1 := by
      intro k v t' e
      rw [e] at htk2
      have : (emitV k v t').toks ≠ [] := by show t'.toks ++ [_] ≠ []; simp
      exact absurd htk2 this
    have noE : ∀ t', (root s t).2 = error t' → 3 * (s.size - (root s t).2.eb) + rankQ q2 + 1 < 3 * (s.size - t.eb) + 1 + 1 := by
      intro t' e
      rw [e] at he2
      exact absurd he2 (error_ne t')
    have hw := root_way s t
    generalize hpp : root s t = p at hw hq2 htk2 he2 case1 case2 no noV noE ⊢
    cases hw with
    | eof c => exact absurd c c0
    | space _ _ => exact case1 (commit (next s t)) rfl (Nat.le_refl _)
    | str1 _ _ => exact noV _ _ _ rfl
    | str2 _ _ => exact noV _ _ _ rfl
    | raw _ _ =>
      have hg := scan_rawGo s 96 (by decide) 0 0 _ _ (scan_next s (next s t))
      dsimp only at htk2 he2
      unfold scanRaw at htk2 he2
      generalize rawGo s 96 0 0 (peek s (next s t)) (next s (next s t)) = g at hg htk2 he2
      obtain ⟨n, e, b, t2⟩ := g
      dsimp only at hg
      cases b with
      | false => exact absurd he2 (hg.2 rfl)
      | true =>
        have : (emitV kString (rawValue 96 e (s.extract (t2.sb + 1) (t2.eb - 1))) t2).toks ≠ [] := by show t2.toks ++ [_] ≠ []; simp
        exact absurd htk2 this
    | byt1 _ _ => exact noV _ _ _ rfl
    | byt2 _ _ => exact noV _ _ _ rfl
    | digit _ _ => exact case2 .number rfl rfl rfl
    | quest _ _ => exact case1 (next s t) rfl (Nat.le_refl _)
    | slash _ _ => exact case1 (next s t) rfl (Nat.le_refl _)
    | hash _ _ => exact case1 (next s t) rfl (Nat.le_refl _)
    | bar _ _ => exact no _ _ rfl
    | colon _ _ => exact no _ _ rfl
    | open_ _ _ => exact no _ _ rfl
    | shut _ _ => exact no _ _ rfl
    | one _ _ => exact no _ _ rfl
    | two _ _ => exact no _ _ rfl
    | dot _ _ => exact case2 .dot rfl rfl rfl
    | ident _ _ => exact case2 .identifier rfl rfl rfl
    | bad _ => exact noE _ rfl
  | number =>
    exfalso
    change (number s t).2.toks = [] at htk2
    change (number s t).2.err = none at he2
    unfold number at htk2 he2
    split at htk2
    · exact toks_emit htk2
    · rename_i hh
      rw [if_neg hh] at he2
      exact error_ne _ he2
  | questionMark => exact absurd htk2 toks_emit
  | slash =>
    show _ < 3 * (s.size - t.eb) + 1 + 1
    change (slash s t).2.toks = [] at htk2
    show 3 * (s.size - (slash s t).2.eb) + rankQ q2 + 1 < _
    unfold slash at htk2 ⊢
    split
    · rename_i ha
      have := next_eb (peek_lt (has_ne ha))
      show 3 * (s.size - (next s t).eb) + rankQ q2 + 1 < _
      omega
    · rename_i ha
      rw [if_neg ha] at htk2
      split
      · rename_i hb
        have := next_eb (peek_lt (has_ne hb))
        show 3 * (s.size - (next s t).eb) + rankQ q2 + 1 < _
        omega
      · rename_i hb
        rw [if_neg hb] at htk2
        exact absurd htk2 toks_emit
  | pointer =>
    exfalso
    change (pointer s t).2.toks = [] at htk2
    unfold pointer at htk2
    split at htk2
    · have h1 := (reads_alnumSkip s (emit kOperator s (accept cHash s t))).toks
      change (pointerAt s t).toks = _ at h1
      change (pointerAt s t).toks = [] at htk2
      rw [h1] at htk2
      exact toks_emit htk2
    · exact toks_emit htk2
  | dot =>
    have hl : t.eb < s.size := peek_lt (by rw [(hG.dot rfl).1]; decide)
    have hgt := next_eb hl
    change (dot s t).1 = some q2 at hq2
    change (dot s t).2.toks = [] at htk2
    show 3 * (s.size - (dot s t).2.eb) + rankQ q2 + 1 < 3 * (s.size - t.eb) + 0 + 1
    unfold dot at htk2 hq2 ⊢
    split
    · rename_i ha
      rw [if_pos ha] at hq2
      cases hq2
      show 3 * (s.size - (next s t).eb) + 0 + 1 < _
      omega
    · rename_i ha
      rw [if_neg ha] at htk2
      exact absurd htk2 toks_emit
  | identifier =>
    change (identifier s t).1 = some q2 at hq2
    change (identifier s t).2.toks = [] at htk2
    show 3 * (s.size - (identifier s t).2.eb) + rankQ q2 + 1 < 3 * (s.size - t.eb) + 0 + 1
    have ha := (hG.identifier rfl).1
    have h1 := next_eb (alnum_in ha)
    have h2 := (reads_alnumSkip s (next s t)).ge
    have h3 : alnumSkip s t = alnumSkip s (next s t) := by rw [alnumSkip_eq, if_pos ha]
    unfold identifier identEnd at htk2 hq2 ⊢
    split
    · rename_i hk
      rw [hk] at hq2
      cases hq2
      show 3 * (s.size - (alnumSkip s t).eb) + 0 + 1 < _
      rw [h3]
      omega
    · rename_i hk
      rw [hk] at htk2
      exact absurd htk2 toks_emit
    · rename_i hk
      rw [hk] at htk2
      exact absurd htk2 toks_emit
    · rename_i hk
      rw [hk] at htk2
      exact absurd htk2 toks_emit
  | not =>
    exfalso
    change (not s t).2.toks = [] at htk2
    unfold not at htk2
    split at htk2
    · exact toks_emit htk2
    · have h1 : (notAt s t).toks = (emit kOperator s t).toks := (acceptRun_rest ⟨#[32]⟩ s (emit kOperator s t)).2.2.1
      change (notAt s t).toks = [] at htk2
      rw [h1] at htk2
      exact toks_emit htk2
  | singleLine =>
    change (singleLine s t).1 = some q2 at hq2
    cases hq2
    have h1 := lineRun_ge s t
    show 3 * (s.size - (lineRun s t).eb) + 1 + 1 < 3 * (s.size - t.eb) + 2 + 1
    omega
  | multiLine =>
    change (multiLine s t).1 = some q2 at hq2
    change (multiLine s t).2.err = none at he2
    have h1 := multiRun_ge s t
    show 3 * (s.size - (multiLine s t).2.eb) + rankQ q2 + 1 < 3 * (s.size - t.eb) + 2 + 1
    unfold multiLine at hq2 he2 ⊢
    split
    · rename_i hh
      rw [if_pos hh] at hq2
      cases hq2
      show 3 * (s.size - (multiRun s t).2.eb) + 1 + 1 < _
      omega
    · rename_i hh
      rw [if_neg hh] at he2
      exact absurd he2 (error_ne _)

/-- Next's loop. -/
def pulled (s : ByteArray) (t : St) : St := pull s (mz s t) t
theorem mz_zero {s : ByteArray} {t : St} (h : going t = false) : mz s t = 0 := by unfold mz; rw [h]; rfl
theorem mz_pos {s : ByteArray} {t : St} (h : going t = true) : 0 < mz s t := by
  obtain ⟨⟨q, hq⟩, _⟩ := going_iff.1 h
  rw [mz_some h hq]
  omega
theorem pull_stop {s : ByteArray} {t : St} (h : going t = false) (n : Nat) : pull s n t = t := by
  cases n with
  | zero => rfl
  | succ n => show (if going t = true then _ else t) = t; rw [h]; rfl
theorem pull_more {s : ByteArray} : ∀ (n : Nat) (t : St), Inv s t → mz s t ≤ n → pull s n t = pulled s t := by
  intro n
  induction n using Nat.strongRecOn with
  | _ n ih =>
    intro t h hn
    unfold pulled
    cases hg : going t with
    | false => rw [pull_stop hg, pull_stop hg]
    | true =>
      have hp := mz_pos (s := s) hg
      obtain ⟨m, hm⟩ : ∃ m, mz s t = m + 1 := ⟨mz s t - 1, by omega⟩
      obtain ⟨k, hk⟩ : ∃ k, n = k + 1 := ⟨n - 1, by omega⟩
      rw [hm, hk]
      show (if going t = true then pull s k (step s t) else t) = (if going t = true then pull s m (step s t) else t)
      rw [hg, if_pos rfl, if_pos rfl]
      have hi := inv_step h hg
      cases hg2 : going (step s t) with
      | false => rw [pull_stop hg2, pull_stop hg2]
      | true =>
        have h1 := mz_step h hg hg2
        rw [ih k (by omega) _ hi (by omega), ih m (by omega) _ hi (by omega)]
theorem pulled_stop {s : ByteArray} {t : St} (h : going t = false) : pulled s t = t := pull_stop h _
theorem pulled_step {s : ByteArray} {t : St} (h : Inv s t) (hg : going t = true) : pulled s t = pulled s (step s t) := by
  have hp := mz_pos (s := s) hg
  obtain ⟨m, hm⟩ : ∃ m, mz s t = m + 1 := ⟨mz s t - 1, by omega⟩
  have h1 : pulled s t = pull s m (step s t) := by
    unfold pulled
    rw [hm]
    show (if going t = true then pull s m (step s t) else t) = _
    rw [hg, if_pos rfl]
  rw [h1]
  cases hg2 : going (step s t) with
  | false => rw [pull_stop hg2, pulled_stop hg2]
  | true => have := mz_step h hg hg2; exact pull_more m _ (inv_step h hg) (by omega)
theorem mz_next {s : ByteArray} {t : St} (h : Inv s t) (hg : going t = true) : mz s (step s t) < mz s t := by
  cases hg2 : going (step s t) with
  | false => rw [mz_zero hg2]; exact mz_pos hg
  | true => exact mz_step h hg hg2

/-- What holds at the loop's end. -/
theorem pulled_ind {s : ByteArray} (P : St → Prop) (hs : ∀ t, Inv s t → going t = true → P t → P (step s t)) : ∀ (n : Nat) (t : St), mz s t ≤ n → Inv s t → P t → Inv s (pulled s t) ∧ going (pulled s t) = false ∧ P (pulled s t) := by
  intro n
  induction n with
  | zero =>
    intro t h hi hp
    have hg : going t = false := by
      cases hg : going t with
      | false => rfl
      | true => have := mz_pos (s := s) hg; omega
    rw [pulled_stop hg]
    exact ⟨hi, hg, hp⟩
  | succ n ih =>
    intro t h hi hp
    cases hg : going t with
    | false => rw [pulled_stop hg]; exact ⟨hi, hg, hp⟩
    | true =>
      rw [pulled_step hi hg]
      exact ih _ (by have := mz_next hi hg; omega) (inv_step hi hg) (hs t hi hg hp)

end Go.Proofs.YtdpdgppjeekcmaaFmt

/-
  What the lexer does where ASCII text lies ahead of it. No program stands in this text.
-/
namespace Go.Proofs.YtdpdgppjeekcmaaFmt
open Go Go.Lib

/-- The bytes that lie ahead. -/
def Ahead (s : ByteArray) (t : St) (l : List UInt8) : Prop := s.data.toList.drop t.eb = l
/-- k bytes, k runes on. -/
def adv (k : Nat) (t : St) : St := { t with eb := t.eb + k, er := t.er + k }
theorem adv_zero (t : St) : adv 0 t = t := rfl
theorem adv_add (j k : Nat) (t : St) : adv k (adv j t) = adv (j + k) t := by unfold adv; simp [Nat.add_assoc]

theorem Ahead.adv {s : ByteArray} {t : St} {p l : List UInt8} (h : Ahead s t (p ++ l)) : Ahead s (adv p.length t) l := by
  unfold Ahead at *
  show s.data.toList.drop (t.eb + p.length) = l
  rw [← List.drop_drop, h, List.drop_left]
theorem Ahead.cons {s : ByteArray} {t : St} {b : UInt8} {l : List UInt8} (h : Ahead s t (b :: l)) : Ahead s (Go.Proofs.YtdpdgppjeekcmaaFmt.adv 1 t) l := Ahead.adv (p := [b]) h
theorem Ahead.lt {s : ByteArray} {t : St} {b : UInt8} {l : List UInt8} (h : Ahead s t (b :: l)) : t.eb < s.size := by
  unfold Ahead at h
  have := congrArg List.length h
  rw [List.length_drop] at this
  have h1 := Lib.size_eq s
  simp only [List.length_cons] at this
  omega
theorem Ahead.get {s : ByteArray} {t : St} {b : UInt8} {l : List UInt8} (h : Ahead s t (b :: l)) : s[t.eb]'h.lt = b := by
  have hl : t.eb < s.data.toList.length := by have := Lib.size_eq s; have := h.lt; omega
  unfold Ahead at h
  rw [List.drop_eq_getElem_cons hl] at h
  injection h
theorem Ahead.end_ {s : ByteArray} {t : St} (h : Ahead s t []) : ¬ t.eb < s.size := by
  unfold Ahead at h
  have := congrArg List.length h
  rw [List.length_drop] at this
  have h1 := Lib.size_eq s
  simp only [List.length_nil] at this
  omega

theorem peek_cons {s : ByteArray} {t : St} {b : UInt8} {l : List UInt8} (h : Ahead s t (b :: l)) (ha : b.toNat < 128) : peek s t = b.toNat := by
  unfold peek
  rw [if_pos h.lt, rAt_ascii h.lt (by rw [h.get]; exact ha), h.get]
theorem next_cons {s : ByteArray} {t : St} {b : UInt8} {l : List UInt8} (h : Ahead s t (b :: l)) (ha : b.toNat < 128) : next s t = adv 1 t := by
  rw [next_in h.lt, wAt_ascii h.lt (by rw [h.get]; exact ha)]
  rfl
theorem peek_nil {s : ByteArray} {t : St} (h : Ahead s t []) : peek s t = -1 := by unfold peek; rw [if_neg h.end_]
theorem next_nil {s : ByteArray} {t : St} (h : Ahead s t []) : next s t = { t with eof := true } := next_end h.end_

def asciiL (l : List UInt8) : Bool := l.all fun b => decide (b.toNat < 128)
theorem asciiL_of {l : List UInt8} (h : asciiL l = true) : ∀ b ∈ l, b.toNat < 128 := by
  unfold asciiL at h
  rw [List.all_eq_true] at h
  intro b hb
  simpa using h b hb

theorem acceptB_cons {s : ByteArray} {t : St} {b : UInt8} {l v : List UInt8} (h : Ahead s t (b :: l)) (ha : b.toNat < 128) (hv : asciiL v = true) : acceptB (bs v) s t = v.contains b := by
  unfold acceptB
  rw [peek_cons h ha, has_bs v (asciiL_of hv)]
  induction v with
  | nil => rfl
  | cons c v ih =>
    have hv2 : asciiL v = true := by unfold asciiL at hv ⊢; simp only [List.all_cons, Bool.and_eq_true] at hv; exact hv.2
    rw [List.map_cons, List.contains_cons, List.contains_cons, ih hv2]
    congr 1
    by_cases e : b = c
    · subst e; simp
    · have : ¬ (b.toNat : Int) = (c.toNat : Int) := fun x => e (UInt8.toNat_inj.1 (by omega))
      rw [beq_eq_false_iff_ne.2 this, beq_eq_false_iff_ne.2 e]
theorem acceptB_nil {s : ByteArray} {t : St} {v : ByteArray} (h : Ahead s t []) : acceptB v s t = false := by
  unfold acceptB
  rw [peek_nil h]
  cases hh : has v (-1) with
  | false => rfl
  | true => exact absurd rfl (has_ne hh)

/-- What lies ahead does not begin with one of v. -/
def Stops (v l : List UInt8) : Prop := l = [] ∨ ∃ b r, l = b :: r ∧ b.toNat < 128 ∧ v.contains b = false
theorem acceptB_stops {s : ByteArray} {t : St} {v l : List UInt8} (h : Ahead s t l) (hv : asciiL v = true) (hs : Stops v l) : acceptB (bs v) s t = false := by
  rcases hs with rfl | ⟨b, r, rfl, ha, hc⟩
  · exact acceptB_nil h
  · rw [acceptB_cons h ha hv, hc]
theorem acceptRun_run {s : ByteArray} {v : List UInt8} (hv : asciiL v = true) : ∀ (p l : List UInt8) (t : St), Ahead s t (p ++ l) → (∀ b ∈ p, v.contains b = true) → Stops v l → acceptRun (bs v) s t = adv p.length t
  | [], l, t, h, _, hs => acceptRun_of _ _ _ (acceptB_stops h hv hs)
  | b :: p, l, t, h, hp, hs => by
    have hb := hp b (List.mem_cons_self ..)
    have ha : b.toNat < 128 := asciiL_of hv b (by simpa using hb)
    have h1 : acceptB (bs v) s t = true := by rw [acceptB_cons h ha hv]; exact hb
    have h2 := acceptRun_run hv p l (adv 1 t) h.cons (fun c hc => hp c (List.mem_cons_of_mem _ hc)) hs
    rw [acceptRun]
    have h3 : has (bs v) (peek s t) = true := h1
    rw [dif_pos h3, next_cons h ha, h2, adv_add, List.length_cons, Nat.add_comm]

end Go.Proofs.YtdpdgppjeekcmaaFmt

/-
  scanNumber over a written integer. No program stands in this text.
-/
namespace Go.Proofs.YtdpdgppjeekcmaaFmt
open Go Go.Lib

def lDec : List UInt8 := [48, 49, 50, 51, 52, 53, 54, 55, 56, 57, 95]
def lHex : List UInt8 := [48, 49, 50, 51, 52, 53, 54, 55, 56, 57, 97, 98, 99, 100, 101, 102, 65, 66, 67, 68, 69, 70, 95]
def lOct : List UInt8 := [48, 49, 50, 51, 52, 53, 54, 55, 95]
def lBin : List UInt8 := [48, 49, 95]

/-- What may stand behind a number here: nothing, a space, a line's end, a slash. -/
def NumStop (l : List UInt8) : Prop := l = [] ∨ ∃ b r, l = b :: r ∧ (b = 32 ∨ b = 10 ∨ b = 47)
theorem NumStop.stops {l : List UInt8} (h : NumStop l) {v : List UInt8} (hv : v.contains 32 = false ∧ v.contains 10 = false ∧ v.contains 47 = false) : Stops v l := by
  rcases h with rfl | ⟨b, r, rfl, hb⟩
  · exact .inl rfl
  · refine .inr ⟨b, r, rfl, ?_, ?_⟩
    · rcases hb with rfl | rfl | rfl <;> decide
    · rcases hb with rfl | rfl | rfl
      · exact hv.1
      · exact hv.2.1
      · exact hv.2.2
theorem alnum_sp : alnum 32 = false := by
  have h1 : isLetterU 32 = false := by decide +kernel
  have h2 : isDigitU 32 = false := by decide +kernel
  unfold alnum alpha; rw [h1, h2]; decide
theorem alnum_nl : alnum 10 = false := by
  have h1 : isLetterU 10 = false := by decide +kernel
  have h2 : isDigitU 10 = false := by decide +kernel
  unfold alnum alpha; rw [h1, h2]; decide
theorem alnum_sl : alnum 47 = false := by
  have h1 : isLetterU 47 = false := by decide +kernel
  have h2 : isDigitU 47 = false := by decide +kernel
  unfold alnum alpha; rw [h1, h2]; decide
theorem NumStop.alnum {s : ByteArray} {t : St} {l : List UInt8} (h : NumStop l) (ha : Ahead s t l) : Go.Proofs.YtdpdgppjeekcmaaFmt.alnum (peek s t) = false := by
  rcases h with rfl | ⟨b, r, rfl, hb⟩
  · rw [peek_nil ha]; exact alnum_end
  · rcases hb with rfl | rfl | rfl
    · rw [peek_cons ha (by decide)]; exact alnum_sp
    · rw [peek_cons ha (by decide)]; exact alnum_nl
    · rw [peek_cons ha (by decide)]; exact alnum_sl
theorem no {s : ByteArray} {t : St} {l v : List UInt8} (h : NumStop l) (ha : Ahead s t l) (hv : asciiL v = true) (hc : v.contains 32 = false ∧ v.contains 10 = false ∧ v.contains 47 = false) : acceptB (bs v) s t = false := acceptB_stops ha hv (h.stops hc)

/-- Behind the digits. -/
theorem frac_stop {s : ByteArray} {t : St} {d : ByteArray} {l : List UInt8} (h : NumStop l) (ha : Ahead s t l) : numFrac d s t = (true, t) := by
  have h1 : acceptB cDot s t = false := no (v := [46]) h ha (by decide) (by decide)
  have h2 : acceptB ceE s t = false := no (v := [101, 69]) h ha (by decide) (by decide)
  have h3 := h.alnum ha
  unfold numFrac
  rw [if_neg (by rw [h1]; decide)]
  unfold numEnd
  dsimp only
  have h4 : (if acceptB ceE s t = true then acceptRun d s (accept cSign s (next s t)) else t) = t := if_neg (by rw [h2]; decide)
  rw [h4, if_neg (by rw [h3]; decide)]

theorem scan_dec {s : ByteArray} {t : St} {p rest : List UInt8} (h : Ahead s t (p ++ rest)) (hp : p ≠ []) (hd : ∀ b ∈ p, 48 ≤ b.toNat ∧ b.toNat ≤ 57) (h0 : p = [48] ∨ p.head? ≠ some 48) (hr : NumStop rest) : scanNumber s t = (true, adv p.length t) := by
  unfold scanNumber
  rcases h0 with rfl | h0
  · have h' : Ahead s t (48 :: rest) := h
    have a0 : acceptB c0 s t = true := by
      have := acceptB_cons (v := [48]) h' (by decide) (by decide)
      exact this
    have hn := next_cons h' (by decide)
    have h1 : Ahead s (adv 1 t) rest := h'.cons
    have hpre : numPre s t = (dDec, adv 1 t) := by
      unfold numPre
      rw [if_pos a0, hn]
      have x1 : acceptB cxX s (adv 1 t) = false := no (v := [120, 88]) hr h1 (by decide) (by decide)
      have x2 : acceptB coO s (adv 1 t) = false := no (v := [111, 79]) hr h1 (by decide) (by decide)
      have x3 : acceptB cbB s (adv 1 t) = false := no (v := [98, 66]) hr h1 (by decide) (by decide)
      rw [if_neg (by rw [x1]; decide), if_neg (by rw [x2]; decide), if_neg (by rw [x3]; decide)]
    rw [hpre]
    have hrun : acceptRun dDec s (adv 1 t) = adv 1 t := acceptRun_of _ _ _ (no (v := lDec) hr h1 (by decide) (by decide))
    dsimp only
    rw [hrun]
    exact frac_stop hr h1
  · obtain ⟨b, q, rfl⟩ : ∃ b q, p = b :: q := by
      cases p with
      | nil => exact absurd rfl hp
      | cons b q => exact ⟨b, q, rfl⟩
    have hb := hd b (List.mem_cons_self ..)
    have h' : Ahead s t (b :: (q ++ rest)) := h
    have hb0 : b ≠ 48 := by intro e; exact h0 (by rw [e]; rfl)
    have a0 : acceptB c0 s t = false := by
      have := acceptB_cons (v := [48]) h' (by omega) (by decide)
      have e : bs [48] = c0 := rfl
      rw [e] at this
      rw [this]
      simp
      exact hb0
    have hpre : numPre s t = (dDec, t) := by unfold numPre; rw [if_neg (by rw [a0]; decide)]
    rw [hpre]
    dsimp only
    have hrun : acceptRun dDec s t = adv (b :: q).length t := by
      refine acceptRun_run (v := lDec) (by decide) (b :: q) rest t h (fun c hc => ?_) (hr.stops (by decide))
      have := hd c hc
      have e : c = UInt8.ofNat c.toNat := by simp
      rw [e]
      have : c.toNat = 48 ∨ c.toNat = 49 ∨ c.toNat = 50 ∨ c.toNat = 51 ∨ c.toNat = 52 ∨ c.toNat = 53 ∨ c.toNat = 54 ∨ c.toNat = 55 ∨ c.toNat = 56 ∨ c.toNat = 57 := by omega
      rcases this with h | h | h | h | h | h | h | h | h | h <;> rw [h] <;> decide
    rw [hrun]
    exact frac_stop hr (Ahead.adv h)

theorem scan_pre {s : ByteArray} {t : St} {x : UInt8} {d p rest : List UInt8} (hx : ((x = 120 ∨ x = 88) ∧ d = lHex) ∨ ((x = 111 ∨ x = 79) ∧ d = lOct) ∨ ((x = 98 ∨ x = 66) ∧ d = lBin)) (h : Ahead s t ((48 :: x :: p) ++ rest)) (hd : ∀ b ∈ p, d.contains b = true) (hr : NumStop rest) : scanNumber s t = (true, adv (p.length + 2) t) := by
  unfold scanNumber
  have h' : Ahead s t (48 :: (x :: (p ++ rest))) := h
  have a0 : acceptB c0 s t = true := acceptB_cons (v := [48]) h' (by decide) (by decide)
  have hn := next_cons h' (by decide)
  have h1 : Ahead s (adv 1 t) (x :: (p ++ rest)) := h'.cons
  have hxa : x.toNat < 128 := by rcases hx with ⟨h | h, _⟩ | ⟨h | h, _⟩ | ⟨h | h, _⟩ <;> subst h <;> decide
  have hn2 := next_cons h1 hxa
  have h2 : Ahead s (adv 2 t) (p ++ rest) := by have := h1.cons; rw [adv_add] at this; exact this
  have hpre : numPre s t = (bs d, adv 2 t) := by
    unfold numPre
    rw [if_pos a0, hn]
    have x1 : acceptB cxX s (adv 1 t) = [120, 88].contains x := acceptB_cons (v := [120, 88]) h1 hxa (by decide)
    have x2 : acceptB coO s (adv 1 t) = [111, 79].contains x := acceptB_cons (v := [111, 79]) h1 hxa (by decide)
    have x3 : acceptB cbB s (adv 1 t) = [98, 66].contains x := acceptB_cons (v := [98, 66]) h1 hxa (by decide)
    rw [x1, x2, x3, hn2, adv_add]
    rcases hx with ⟨h | h, rfl⟩ | ⟨h | h, rfl⟩ | ⟨h | h, rfl⟩ <;> subst h <;> rfl
  rw [hpre]
  dsimp only
  have hda : asciiL d = true ∧ (d.contains 32 = false ∧ d.contains 10 = false ∧ d.contains 47 = false) := by rcases hx with ⟨_, rfl⟩ | ⟨_, rfl⟩ | ⟨_, rfl⟩ <;> decide
  have hrun : acceptRun (bs d) s (adv 2 t) = adv p.length (adv 2 t) := acceptRun_run hda.1 p rest _ h2 hd (hr.stops hda.2)
  rw [hrun, frac_stop hr (Ahead.adv h2), adv_add, Nat.add_comm]

end Go.Proofs.YtdpdgppjeekcmaaFmt

/-
  What the calls of Next come to one after another, and what the states hand out step by step. No program stands in this text.
-/
namespace Go.Proofs.YtdpdgppjeekcmaaFmt
open Go Go.Lib

/-- A call of Next: the token, the lexer behind it. -/
def nextS (s : ByteArray) (t : St) : Option Tok × St :=
  if (pulled s t).err.isSome then (none, pulled s t) else
    match (pulled s t).toks with
    | [] => (none, pulled s t)
    | k :: l => (some k, { pulled s t with toks := l })
/-- n calls, to the first error. -/
def drain (s : ByteArray) : Nat → St → List Tok × St
  | 0, t => ([], t)
  | n + 1, t => match nextS s t with
    | (none, u) => ([], u)
    | (some k, u) => (k :: (drain s n u).1, (drain s n u).2)

def bare (t : St) : St := { t with toks := [] }
theorem bare_of {t : St} (h : t.toks = []) : bare t = t := by cases t; simp only at h; subst h; rfl
theorem inv_toks {s : ByteArray} {t : St} {l : List Tok} (h : Inv s t) : Inv s { t with toks := l } := fun he q hq => by
  have g := h he q hq
  exact ⟨g.bd, g.bs, g.le, g.eof, g.root, g.number, g.dot, g.identifier, g.later⟩

/-- What the states hand out from t on, step by step, and where they end. -/
inductive Out (s : ByteArray) : St → List Tok → St → Prop where
  | fin {t : St} : t.q = none → t.err = none → t.toks = [] → Out s t [] t
  | bad {t : St} : going t = true → (step s t).err ≠ none → Out s t [] (step s t)
  | step {t : St} {l : List Tok} {u : St} : going t = true → (step s t).err = none → Out s (bare (step s t)) l u → Out s t ((step s t).toks ++ l) u

theorem nextS_none {s : ByteArray} {t : St} (hg : going t = false) (h : t.err ≠ none ∨ t.toks = []) : nextS s t = (none, t) := by
  unfold nextS
  rw [pulled_stop hg]
  rcases h with h | h
  · have : t.err.isSome = true := by cases he : t.err with
      | none => exact absurd he h
      | some x => rfl
    rw [if_pos this]
  · split
    · rfl
    · rw [h]
theorem nextS_tok {s : ByteArray} {t : St} {k : Tok} {l : List Tok} (he : t.err = none) (ht : t.toks = k :: l) : nextS s t = (some k, { t with toks := l }) := by
  have hg : going t = false := by unfold going; rw [ht]; simp
  unfold nextS
  rw [pulled_stop hg, if_neg (by rw [he]; decide), ht]
theorem nextS_step {s : ByteArray} {t : St} (hi : Inv s t) (hg : going t = true) : nextS s t = nextS s (step s t) := by
  unfold nextS
  rw [pulled_step hi hg]
theorem drain_step {s : ByteArray} {t : St} (hi : Inv s t) (hg : going t = true) (n : Nat) : drain s (n + 1) t = drain s (n + 1) (step s t) := by
  rw [drain, drain, nextS_step hi hg]
theorem drain_toks {s : ByteArray} {t : St} (he : t.err = none) : ∀ (l0 : List Tok) (n : Nat) (r : List Tok × St), drain s n (bare t) = r → drain s (l0.length + n) { t with toks := l0 } = (l0 ++ r.1, r.2)
  | [], n, r, h => by
    rw [List.length_nil, Nat.zero_add]
    exact h
  | k :: l, n, r, h => by
    have ih := drain_toks he l n r h
    have hn : nextS s { t with toks := k :: l } = (some k, { t with toks := l }) := nextS_tok (t := { t with toks := k :: l }) he rfl
    rw [show (k :: l).length + n = (l.length + n) + 1 by simp only [List.length_cons]; omega, drain, hn]
    dsimp only
    rw [ih]
    rfl

theorem going_q {t : St} (h : t.q = none) : going t = false := by unfold going; rw [h]; rfl
theorem going_err {t : St} (h : t.err ≠ none) : going t = false := by
  unfold going
  cases he : t.err with
  | none => exact absurd he h
  | some x => simp
theorem out_drain {s : ByteArray} {t u : St} {l : List Tok} (h : Out s t l u) (hi : Inv s t) (he : t.err = none) : ∀ n, l.length < n → drain s n t = (l, u) := by
  induction h with
  | fin hq _ ht =>
    intro n hn
    obtain ⟨m, rfl⟩ : ∃ m, n = m + 1 := ⟨n - 1, by omega⟩
    rw [drain, nextS_none (going_q hq) (.inr ht)]
  | bad hg hb =>
    intro n hn
    obtain ⟨m, rfl⟩ : ∃ m, n = m + 1 := ⟨n - 1, by omega⟩
    rw [drain_step hi hg, drain, nextS_none (going_err hb) (.inl hb)]
  | @step t l u hg hb ho ih =>
    intro n hn
    rw [List.length_append] at hn
    obtain ⟨m, hm⟩ : ∃ m, n = (step s t).toks.length + m := ⟨n - (step s t).toks.length, by omega⟩
    have ih' := ih (inv_toks (inv_step hi hg)) hb m (by omega)
    have h2 := drain_toks (s := s) hb (step s t).toks m _ ih'
    obtain ⟨k, hk⟩ : ∃ k, n = k + 1 := ⟨n - 1, by omega⟩
    rw [hk, drain_step hi hg, ← hk, hm]
    exact h2
/-- Behind the end Next hands out nothing more. -/
theorem out_end {s : ByteArray} {t u : St} {l : List Tok} (h : Out s t l u) : nextS s u = (none, u) ∧ going u = false ∧ (u.err = none → u.toks = []) := by
  induction h with
  | fin hq _ ht => exact ⟨nextS_none (going_q hq) (.inr ht), going_q hq, fun _ => ht⟩
  | bad hg hb => exact ⟨nextS_none (going_err hb) (.inl hb), going_err hb, fun h => absurd h hb⟩
  | step _ _ _ ih => exact ih

theorem drain_nil {s : ByteArray} {t u : St} {n : Nat} (h : drain s (n + 1) t = ([], u)) : nextS s t = (none, u) := by
  rw [drain] at h
  cases hn : nextS s t with
  | mk x t2 =>
    rw [hn] at h
    cases x with
    | none => injection h with _ h2; rw [h2]
    | some k => injection h with h1 _; cases h1
theorem drain_cons {s : ByteArray} {t u : St} {n : Nat} {k : Tok} {l : List Tok} (h : drain s (n + 1) t = (k :: l, u)) : ∃ t2, nextS s t = (some k, t2) ∧ drain s n t2 = (l, u) := by
  rw [drain] at h
  cases hn : nextS s t with
  | mk x t2 =>
    rw [hn] at h
    cases x with
    | none => injection h with h1 _; cases h1
    | some k' =>
      injection h with h1 h2
      injection h1 with h3 h4
      subst h3
      exact ⟨t2, rfl, by rw [← h4, ← h2]⟩
theorem inv_pulled {s : ByteArray} {t : St} (h : Inv s t) : Inv s (pulled s t) ∧ going (pulled s t) = false := by
  have := pulled_ind (s := s) (fun _ => True) (fun _ _ _ _ => trivial) (mz s t) t (Nat.le_refl _) h trivial
  exact ⟨this.1, this.2.1⟩
theorem inv_nextS {s : ByteArray} {t : St} (h : Inv s t) : Inv s (nextS s t).2 := by
  have hp := (inv_pulled h).1
  unfold nextS
  split
  · exact hp
  · split
    · exact hp
    · exact inv_toks hp
/-- A call of Next where an error stands, where nothing more comes. -/
theorem nextS_err {s : ByteArray} {t : St} (h : (pulled s t).err ≠ none) : nextS s t = (none, pulled s t) := by
  have : (pulled s t).err.isSome = true := by
    cases he : (pulled s t).err with
    | none => exact absurd he h
    | some x => rfl
  unfold nextS
  rw [if_pos this]
theorem nextS_nil {s : ByteArray} {t : St} (he : (pulled s t).err = none) (h : (pulled s t).toks = []) : nextS s t = (none, pulled s t) := by
  unfold nextS
  rw [if_neg (by rw [he]; decide), h]
theorem nextS_cons {s : ByteArray} {t : St} {k : Tok} {l : List Tok} (he : (pulled s t).err = none) (h : (pulled s t).toks = k :: l) : nextS s t = (some k, { pulled s t with toks := l }) := by
  unfold nextS
  rw [if_neg (by rw [he]; decide), h]

/-- Where a lexer ends, and what it has handed out by then. -/
structure Ended (s : ByteArray) (t : St) (l : List Tok) (u : St) : Prop where
  ok : u.err = none → u.q = none ∧ u.toks = [] ∧ u.eb = s.size ∧ Bd s s.size u.er ∧ u.sb = u.eb ∧ u.sr = u.er ∧ u.dis = t.dis ∧ ∃ l', l = l' ++ [⟨((u.er - 1 : Nat) : Int), u.er, kEOF, ⟨#[]⟩⟩] ∧ Tiled s t.sr l' u.er
  bad : u.err ≠ none → ∃ m, m ≤ s.size ∧ Tiled s t.sr l m

theorem tiled_len {s : ByteArray} {m n : Nat} {l : List Tok} (h : Tiled s m l n) : m + l.length ≤ n := by
  induction h with
  | nil h => simpa using h
  | cons h1 h2 _ ih => have := h2.lt; simp only [List.length_cons]; omega
theorem good_sr {s : ByteArray} {q : Q} {t : St} (h : Good s q t) : t.sr ≤ s.size := by
  have h1 := h.bs.n_le
  have h2 := h.bs.le
  omega
theorem going_bare {s : ByteArray} {t : St} {q : Q} (hq : (step s t).q = some q) (he : (step s t).err = none) : going (bare (step s t)) = true := going_iff.2 ⟨⟨q, hq⟩, he, rfl⟩

theorem out_exists (s : ByteArray) : ∀ (a b : Nat) (t : St), s.size - t.sr = a → mz s t = b → Inv s t → going t = true → ∃ l u, Out s t l u ∧ Ended s t l u := by
  intro a
  induction a using Nat.strongRecOn with
  | _ a iha =>
  intro b
  induction b using Nat.strongRecOn with
  | _ b ihb =>
  intro t ha hb hi hg
  obtain ⟨⟨q, hq⟩, he, htk⟩ := going_iff.1 hg
  have hG := hi he q hq
  have hs := good_state hG he
  have hst := step_some (s := s) hq
  have hi2 := inv_step hi hg
  generalize hx : (state q s t).1 = x at hs hst
  generalize hy : (state q s t).2 = y at hs hst
  cases hs with
  | err h =>
    have he2 : (step s t).err ≠ none := by rw [hst]; exact h
    exact ⟨[], step s t, .bad hg he2, fun h => absurd h he2, fun _ => ⟨t.sr, good_sr hG, .nil (Nat.le_refl _)⟩⟩
  | fin h1 h2 h3 h4 h5 h6 h7 h8 =>
    have he2 : (step s t).err = none := by rw [hst]; exact h1
    have hq2 : (step s t).q = none := by rw [hst]
    have ht2 : (step s t).toks = [⟨((t.er - 1 : Nat) : Int), t.er, kEOF, ⟨#[]⟩⟩] := by rw [hst]; show y.toks = _; rw [h2, htk]; rfl
    have e1 : (step s t).eb = s.size := by rw [hst]; show y.eb = _; rw [h4, h3]
    have e2 : (step s t).er = t.er := by rw [hst]; exact h5
    have e3 : (step s t).sb = t.eb := by rw [hst]; exact h6
    have e4 : (step s t).sr = t.er := by rw [hst]; exact h7
    have e5 : (step s t).dis = t.dis := by rw [hst]; exact h8
    refine ⟨_, _, .step hg he2 (.fin (t := bare (step s t)) hq2 he2 rfl), fun _ => ⟨hq2, rfl, e1, ?_, ?_, ?_, e5, [], ?_, ?_⟩, fun h => absurd he2 h⟩
    · show Bd s s.size (step s t).er
      rw [e2, ← h3]; exact hG.bd
    · show (step s t).sb = (step s t).eb
      rw [e3, e1, h3]
    · show (step s t).sr = (step s t).er
      rw [e4, e2]
    · show (step s t).toks ++ [] = [] ++ [(⟨(((step s t).er - 1 : Nat) : Int), (step s t).er, kEOF, ⟨#[]⟩⟩ : Tok)]
      rw [ht2, e2]; rfl
    · show Tiled s t.sr [] (step s t).er
      rw [e2]; exact .nil hG.le
  | @go q2 _ l h1 h2 h3 h4 h5 h6 h7 =>
    have he2 : (step s t).err = none := by rw [hst]; exact h1
    have hq2 : (step s t).q = some q2 := by rw [hst]
    have ht2 : (step s t).toks = l := by rw [hst]; show y.toks = _; rw [h2, htk]; rfl
    have e4 : (step s t).sr = y.sr := by rw [hst]
    have e5 : (step s t).dis = t.dis := by rw [hst]; exact h6
    have hlen := tiled_len h4
    have hsr := good_sr h5
    have hrec : ∃ l2 u, Out s (bare (step s t)) l2 u ∧ Ended s (bare (step s t)) l2 u := by
      by_cases hlt : t.sr < y.sr
      · exact iha (s.size - y.sr) (by omega) _ (bare (step s t)) (by show s.size - (step s t).sr = _; rw [e4]) rfl (inv_toks hi2) (going_bare hq2 he2)
      · have hl : l = [] := List.eq_nil_of_length_eq_zero (by omega)
        have hb2 : bare (step s t) = step s t := bare_of (by rw [ht2, hl])
        rw [hb2]
        have hm := mz_next hi hg
        exact ihb (mz s (step s t)) (by omega) (step s t) (by rw [e4]; omega) rfl hi2 (by rw [← hb2]; exact going_bare hq2 he2)
    obtain ⟨l2, u, ho, hE⟩ := hrec
    refine ⟨_, u, .step hg he2 ho, fun h => ?_, fun h => ?_⟩
    · obtain ⟨a1, a2, a3, a4, a5, a6, a7, l', a8, a9⟩ := hE.ok h
      refine ⟨a1, a2, a3, a4, a5, a6, a7.trans e5, l ++ l', by rw [ht2, a8, List.append_assoc], ?_⟩
      change Tiled s (step s t).sr l' u.er at a9
      rw [e4] at a9
      exact h4.append a9
    · obtain ⟨m, hm, hT⟩ := hE.bad h
      refine ⟨m, hm, ?_⟩
      change Tiled s (step s t).sr l2 m at hT
      rw [e4] at hT
      rw [ht2]
      exact h4.append hT

theorem tiled_kinds {s : ByteArray} {m n : Nat} {l : List Tok} (h : Tiled s m l n) : ∀ k ∈ l, k.kind ≠ kEOF := by
  induction h with
  | nil _ => intro k hk; cases hk
  | cons _ h2 _ ih =>
    intro k hk
    rcases List.mem_cons.1 hk with rfl | hk
    · exact h2.kind
    · exact ih k hk

end Go.Proofs.YtdpdgppjeekcmaaFmt

/-
  Two texts with one head: a scan of a quoted text that ends inside the head does not see what follows. No program stands in this text.
-/
namespace Go.Proofs.YtdpdgppjeekcmaaFmt
open Go Go.Lib

/-- A and B have the same first e bytes, and the last of them is no part of a wide rune. -/
structure Head (A B : ByteArray) (e : Nat) : Prop where
  a : e ≤ A.size
  b : e ≤ B.size
  same : ∀ k, k < e → byt A k = byt B k
  last : byt A (e - 1) < 128
theorem Head.symm {A B : ByteArray} {e : Nat} (h : Head A B e) (he : 0 < e) : Head B A e := ⟨h.b, h.a, fun k hk => (h.same k hk).symm, by rw [← h.same (e - 1) (by omega)]; exact h.last⟩

theorem rAt_one {s : ByteArray} {i : Nat} (hw : wAt s i = 1) (h : 128 ≤ byt s i) : rAt s i = 65533 := by
  by_cases h2 : byt s i < 194
  · exact (dec_lo h h2).1
  by_cases h3 : byt s i < 224
  · rcases dec2 (s := s) (i := i) (by omega) h3 with ⟨_, _, e⟩ | ⟨_, e, _⟩
    · omega
    · exact e
  by_cases h4 : byt s i < 240
  · rcases dec3 (s := s) (i := i) (by omega) h4 with ⟨_, _, e⟩ | ⟨_, e, _⟩
    · omega
    · exact e
  by_cases h5 : byt s i < 245
  · rcases dec4 (s := s) (i := i) (by omega) h5 with ⟨_, _, e⟩ | ⟨_, e, _⟩
    · omega
    · exact e
  · exact (dec_hi (s := s) (i := i) (by omega)).1

theorem Head.fit {A B : ByteArray} {e i : Nat} (h : Head A B e) (hi : i < e) (hw : 2 ≤ wAt A i) : i + wAt A i ≤ e := by
  rcases Nat.lt_or_ge e (i + wAt A i) with hlt | hge
  · exfalso
    by_cases h0 : i = e - 1
    · have := wide_head hw
      have hl := h.last
      rw [← h0] at hl
      omega
    · have := inside (A := A) (i := i) (k := e - 1 - i) (by omega) (by omega)
      rw [show i + (e - 1 - i) = e - 1 by omega] at this
      have hl := h.last
      omega
  · exact hge
theorem Head.dec {A B : ByteArray} {e i : Nat} (h : Head A B e) (hi : i < e) : wAt B i = wAt A i ∧ rAt B i = rAt A i := by
  by_cases hw : 2 ≤ wAt A i
  · have hf := h.fit hi hw
    have hb := h.b
    exact wide_same (j := i) hw (fun k hk => (h.same (i + k) (by omega)).symm) (by omega)
  · have ha := h.a
    have hb := h.b
    have p1 := wAt_pos A i (by omega)
    have p2 := wAt_pos B i (by omega)
    have hs := h.symm (by omega)
    by_cases hw2 : 2 ≤ wAt B i
    · have hf := hs.fit hi hw2
      have := wide_same (A := B) (B := A) (i := i) (j := i) hw2 (fun k hk => h.same (i + k) (by omega)) (by omega)
      omega
    · refine ⟨by omega, ?_⟩
      have hsm := h.same i hi
      by_cases h8 : byt A i < 128
      · rw [(dec1 h8).1, (dec1 (s := B) (i := i) (by omega)).1, hsm]
      · rw [rAt_one (s := A) (by omega) (by omega), rAt_one (s := B) (by omega) (by omega)]

theorem peek_m1 {s : ByteArray} {t : St} (h : ¬ t.eb < s.size) : peek s t = -1 := by unfold peek; rw [if_neg h]
theorem Head.next {A B : ByteArray} {e : Nat} (h : Head A B e) {t : St} (hp : peek A t ≠ -1) (hle : (Go.Proofs.YtdpdgppjeekcmaaFmt.next A t).eb ≤ e) : peek B t = peek A t ∧ Go.Proofs.YtdpdgppjeekcmaaFmt.next B t = Go.Proofs.YtdpdgppjeekcmaaFmt.next A t := by
  have hl := peek_lt hp
  have hg := next_gt hl
  have ha := h.a
  have hb := h.b
  have hd := h.dec (i := t.eb) (by omega)
  have hl2 : t.eb < B.size := by omega
  constructor
  · unfold peek
    rw [if_pos hl, if_pos hl2, hd.2]
  · rw [next_in hl, next_in hl2, hd.1]

theorem digits_m1 (s : ByteArray) (base : Int) (hb : base ≤ 16) (n : Nat) (t : St) : (scanDigits s base n (-1) t).1 = -1 := by
  cases n with
  | zero => rfl
  | succ n =>
    unfold scanDigits
    rw [if_neg (by rw [digitVal_end]; omega)]
theorem Head.digits {A B : ByteArray} {e : Nat} (h : Head A B e) (base : Int) (hb : base ≤ 16) : ∀ (n : Nat) (ch : Int) (t : St), (scanDigits A base n ch t).1 ≠ -1 → (scanDigits A base n ch t).2.eb ≤ e → scanDigits B base n ch t = scanDigits A base n ch t
  | 0, _, _, _, _ => rfl
  | n + 1, ch, t, h1, h2 => by
    unfold scanDigits at h1 h2 ⊢
    by_cases hd : digitVal ch < base
    · rw [if_pos hd] at h1 h2 ⊢
      have hp : peek A t ≠ -1 := by intro hh; rw [hh] at h1; exact h1 (digits_m1 A base hb n _)
      have hx := h.next hp (Nat.le_trans (scanDigits_ge A base n _ _) h2)
      rw [hx.1, hx.2, if_pos hd]
      exact Head.digits h base hb n _ _ h1 h2
    · rw [if_neg hd] at h1 h2 ⊢
      rw [if_neg hd]
theorem Head.braces {A B : ByteArray} {e : Nat} (h : Head A B e) : ∀ (f d : Nat) (t : St), (Go.Proofs.YtdpdgppjeekcmaaFmt.braces A f d t).1 ≠ -1 → (Go.Proofs.YtdpdgppjeekcmaaFmt.braces A f d t).2.eb ≤ e → Go.Proofs.YtdpdgppjeekcmaaFmt.braces B f d t = Go.Proofs.YtdpdgppjeekcmaaFmt.braces A f d t
  | 0, _, _, _, _ => rfl
  | f + 1, d, t, h1, h2 => by
    unfold Go.Proofs.YtdpdgppjeekcmaaFmt.braces at h1 h2 ⊢
    by_cases hp5 : peek A t = 125
    · rw [if_pos hp5] at h1 h2 ⊢
      by_cases hd : d = 0
      · rw [if_pos hd] at h1; exact absurd rfl h1
      · rw [if_neg hd] at h1 h2 ⊢
        have hx := h.next (t := t) (by rw [hp5]; decide) (Nat.le_trans (next_ge A _) h2)
        have hy := h.next (t := Go.Proofs.YtdpdgppjeekcmaaFmt.next A t) h1 h2
        rw [hx.1, hx.2, if_pos hp5, if_neg hd, hy.1, hy.2]
    · rw [if_neg hp5] at h1 h2 ⊢
      by_cases hd : 16 ≤ digitVal (peek A t)
      · rw [if_pos hd] at h1; exact absurd rfl h1
      · rw [if_neg hd] at h1 h2 ⊢
        by_cases h6 : 6 ≤ d
        · rw [if_pos h6] at h1; exact absurd rfl h1
        · rw [if_neg h6] at h1 h2 ⊢
          have hp : peek A t ≠ -1 := by intro hh; rw [hh, digitVal_end] at hd; exact hd (Int.le_refl _)
          have hx := h.next hp (Nat.le_trans (braces_ge A f _ _) h2)
          rw [hx.1, hx.2, if_neg hp5, if_neg hd, if_neg h6]
          exact Head.braces h f (d + 1) _ h1 h2
theorem Head.escape {A B : ByteArray} {e : Nat} (h : Head A B e) (quote : Int) (hq : quote ≠ -1) (t : St) (h1 : (scanEscape A quote t).1 ≠ -1) (h2 : (scanEscape A quote t).2.eb ≤ e) : scanEscape B quote t = scanEscape A quote t := by
  have hp : peek A t ≠ -1 := by
    intro hh
    by_cases hl : t.eb < A.size
    · have : 0 ≤ peek A t := by unfold peek; rw [if_pos hl]; exact rAt_nonneg A t.eb
      omega
    · exact h1 (scanEscape_end A quote t hq hl)
  have hx := h.next hp (Nat.le_trans (scanEscape_ge A quote t) h2)
  unfold scanEscape at h1 h2 ⊢
  dsimp only at h1 h2 ⊢
  rw [hx.1, hx.2]
  obtain ⟨c, hc⟩ : ∃ c, peek A t = c := ⟨_, rfl⟩
  obtain ⟨u, hu⟩ : ∃ u, Go.Proofs.YtdpdgppjeekcmaaFmt.next A t = u := ⟨_, rfl⟩
  rw [hc, hu] at h1 h2 ⊢
  have hd16 : ∀ n, (scanDigits A 16 n (peek A u) (Go.Proofs.YtdpdgppjeekcmaaFmt.next A u)).1 ≠ -1 → (scanDigits A 16 n (peek A u) (Go.Proofs.YtdpdgppjeekcmaaFmt.next A u)).2.eb ≤ e → scanDigits B 16 n (peek B u) (Go.Proofs.YtdpdgppjeekcmaaFmt.next B u) = scanDigits A 16 n (peek A u) (Go.Proofs.YtdpdgppjeekcmaaFmt.next A u) := by
    intro n g1 g2
    have hp1 : peek A u ≠ -1 := by intro hh; rw [hh] at g1; exact g1 (digits_m1 A 16 (by omega) n _)
    have hy := h.next hp1 (Nat.le_trans (scanDigits_ge A 16 n _ _) g2)
    rw [hy.1, hy.2]
    exact h.digits 16 (by omega) n _ _ g1 g2
  by_cases k1 : (isSimple c || decide (c = quote)) = true
  · rw [if_pos k1] at h1 h2 ⊢
    rw [if_pos k1]
    have hy := h.next (t := u) h1 h2
    rw [hy.1, hy.2]
  rw [if_neg k1] at h1 h2 ⊢
  rw [if_neg k1]
  by_cases k2 : 48 ≤ c ∧ c ≤ 55
  · rw [if_pos k2] at h1 h2 ⊢
    rw [if_pos k2]
    exact h.digits 8 (by omega) 3 _ _ h1 h2
  rw [if_neg k2] at h1 h2 ⊢
  rw [if_neg k2]
  by_cases k3 : c = 120
  · rw [if_pos k3] at h1 h2 ⊢
    rw [if_pos k3]
    exact hd16 2 h1 h2
  rw [if_neg k3] at h1 h2 ⊢
  rw [if_neg k3]
  by_cases k4 : c = 117
  · rw [if_pos k4] at h1 h2 ⊢
    rw [if_pos k4]
    by_cases k5 : peek A u = 123
    · rw [if_pos k5] at h1 h2 ⊢
      have hy := h.next (t := u) (by rw [k5]; decide) (Nat.le_trans (braces_ge A 7 _ _) h2)
      rw [hy.1, hy.2, if_pos k5]
      exact h.braces 7 0 _ h1 h2
    · rw [if_neg k5] at h1 h2 ⊢
      have hp1 : peek A u ≠ -1 := by intro hh; rw [hh] at h1; exact h1 (digits_m1 A 16 (by omega) 4 _)
      have hy := h.next hp1 (Nat.le_trans (scanDigits_ge A 16 4 _ _) h2)
      rw [if_neg (by rw [hy.1]; exact k5)]
      exact hd16 4 h1 h2
  rw [if_neg k4] at h1 h2 ⊢
  rw [if_neg k4]
  by_cases k6 : c = 85
  · rw [if_pos k6] at h1 h2 ⊢
    rw [if_pos k6]
    exact hd16 8 h1 h2
  · rw [if_neg k6, if_neg k6]

theorem scanStr_st (s : ByteArray) (quote : Int) (hq : quote ≠ -1) (n : Nat) (ch : Int) (t : St) : scanStr s quote hq n ch t = if ch = quote then (n, t) else if ch = 10 ∨ ch = -1 then (n, error t) else if ch = 92 then scanStr s quote hq (n + 1) (scanEscape s quote t).1 (scanEscape s quote t).2 else scanStr s quote hq (n + 1) (peek s t) (next s t) := by
  rw [scanStr]
  split
  · rfl
  · split <;> rfl
theorem scan_refl (s : ByteArray) (t : St) (ch : Int) : Scan s t ch t := ⟨rfl, rfl, rfl, rfl, rfl, Nat.le_refl _, Nat.le_refl _, id, id, fun e => ⟨e, fun h _ => h⟩⟩
theorem str_m1 {s : ByteArray} {quote : Int} {hq : quote ≠ -1} {n : Nat} {t : St} : (scanStr s quote hq n (-1) t).2.err ≠ none := by
  rw [scanStr_st, if_neg (fun e => hq e.symm), if_pos (.inr rfl)]
  exact error_ne t

/-- The rune in hand is the one that was read last. -/
def LastR (s : ByteArray) (ch : Int) (t : St) : Prop := ch = -1 ∨ ∃ i, i < s.size ∧ i + wAt s i = t.eb ∧ rAt s i = ch
theorem last_next (s : ByteArray) (t : St) : LastR s (peek s t) (next s t) := by
  by_cases h : t.eb < s.size
  · right
    refine ⟨t.eb, h, by rw [next_in h], by unfold peek; rw [if_pos h]⟩
  · exact .inl (peek_m1 h)
theorem LastR.error {s : ByteArray} {ch : Int} {t : St} (h : LastR s ch t) : LastR s ch (Go.Proofs.YtdpdgppjeekcmaaFmt.error t) := by
  unfold LastR
  rw [error_eb]
  exact h
theorem last_digits (s : ByteArray) (base : Int) : ∀ (n : Nat) (ch : Int) (t : St), LastR s ch t → LastR s (scanDigits s base n ch t).1 (scanDigits s base n ch t).2
  | 0, _, _, h => h
  | n + 1, ch, t, h => by
    unfold scanDigits
    split
    · exact last_digits s base n _ _ (last_next s t)
    · exact h.error
theorem last_braces (s : ByteArray) : ∀ (f d : Nat) (t : St), LastR s (braces s f d t).1 (braces s f d t).2
  | 0, _, _ => .inl rfl
  | f + 1, d, t => by
    unfold braces
    split
    · split
      · exact .inl rfl
      · exact last_next s _
    · split
      · exact .inl rfl
      · split
        · exact .inl rfl
        · exact last_braces s f _ _
theorem last_escape (s : ByteArray) (quote : Int) (t : St) : LastR s (scanEscape s quote t).1 (scanEscape s quote t).2 := by
  unfold scanEscape
  dsimp only
  split
  · exact last_next s _
  · split
    · exact last_digits s _ _ _ _ (last_next s _)
    · split
      · exact last_digits s _ _ _ _ (last_next s _)
      · split
        · split
          · exact last_braces s _ _ _
          · exact last_digits s _ _ _ _ (last_next s _)
        · split
          · exact last_digits s _ _ _ _ (last_next s _)
          · exact (last_next s _).error

/-- What is said of an accepted text: its last rune is the quote, every unit took a byte at least, and another text with the same head is read alike. -/
theorem str_said (A : ByteArray) (quote : Int) (hq : quote ≠ -1) : ∀ (g n : Nat) (ch : Int) (t : St), togo A ch t < g → LastR A ch t → (scanStr A quote hq n ch t).2.err = none →
    LastR A quote (scanStr A quote hq n ch t).2 ∧ (scanStr A quote hq n ch t).1 + t.eb ≤ n + (scanStr A quote hq n ch t).2.eb ∧ (∀ B e, Head A B e → (scanStr A quote hq n ch t).2.eb ≤ e → scanStr B quote hq n ch t = scanStr A quote hq n ch t)
  | 0, _, _, _, h, _, _ => absurd h (Nat.not_lt_zero _)
  | g + 1, n, ch, t, hg, hL, he => by
    have hst := scanStr_st A quote hq n ch t
    by_cases h1 : ch = quote
    · rw [if_pos h1] at hst
      rw [hst]
      refine ⟨by rw [← h1]; exact hL, Nat.le_refl _, fun B e _ _ => ?_⟩
      rw [scanStr_st, if_pos h1]
    · rw [if_neg h1] at hst
      by_cases h2 : ch = 10 ∨ ch = -1
      · rw [if_pos h2] at hst
        rw [hst] at he
        exact absurd he (error_ne t)
      · rw [if_neg h2] at hst
        have hcm : ch ≠ -1 := fun e => h2 (.inr e)
        by_cases h3 : ch = 92
        · rw [if_pos h3] at hst
          rw [hst] at he ⊢
          have hc : (scanEscape A quote t).1 ≠ -1 := by intro hh; rw [hh] at he; exact str_m1 he
          have hto := togo_escape A quote ch t hq hcm
          obtain ⟨i1, i2, i3⟩ := str_said A quote hq g (n + 1) _ _ (by omega) (last_escape A quote t) he
          have hgt : t.eb + 1 ≤ (scanEscape A quote t).2.eb := by
            by_cases hl : t.eb < A.size
            · exact Nat.le_trans (next_gt hl) (scanEscape_ge A quote t)
            · exact absurd (scanEscape_end A quote t hq hl) hc
          refine ⟨i1, by omega, fun B e hB hle => ?_⟩
          have hge := (scan_str A quote hq (n + 1) _ _ (scan_refl A (scanEscape A quote t).2 (scanEscape A quote t).1)).ge
          rw [scanStr_st, if_neg h1, if_neg h2, if_pos h3, hB.escape quote hq t hc (Nat.le_trans hge hle)]
          exact i3 B e hB hle
        · rw [if_neg h3] at hst
          rw [hst] at he ⊢
          have hc : peek A t ≠ -1 := by intro hh; rw [hh] at he; exact str_m1 he
          have hto := togo_next A ch t hcm
          obtain ⟨i1, i2, i3⟩ := str_said A quote hq g (n + 1) _ _ (by omega) (last_next A t) he
          have hgt := next_gt (peek_lt hc)
          refine ⟨i1, by omega, fun B e hB hle => ?_⟩
          have hge := (scan_str A quote hq (n + 1) _ _ (scan_refl A (next A t) (peek A t))).ge
          have hx := hB.next hc (Nat.le_trans hge hle)
          rw [scanStr_st, if_neg h1, if_neg h2, if_neg h3, hx.1, hx.2]
          exact i3 B e hB hle

end Go.Proofs.YtdpdgppjeekcmaaFmt

/-
  How a text's runes read in a longer text, in a text with other ASCII bytes; what a rune read is written as. No program stands in this text.
-/
namespace Go.Proofs.YtdpdgppjeekcmaaFmt
open Go Go.Lib

theorem byt_l {A B : ByteArray} {k : Nat} (h : k < A.size) : byt (A ++ B) k = byt A k := by
  rw [byt_of (s := A ++ B) (k := k) (by rw [ByteArray.size_append]; omega), byt_of h, ByteArray.getElem_append_left h]
theorem byt_r {A B : ByteArray} {k : Nat} (h : k < B.size) : byt (A ++ B) (A.size + k) = byt B k := by
  rw [byt_of (s := A ++ B) (k := A.size + k) (by rw [ByteArray.size_append]; omega), byt_of h, ByteArray.getElem_append_right (by omega)]
  congr 2
  omega
theorem toList_app (A B : ByteArray) : (A ++ B).data.toList = A.data.toList ++ B.data.toList := by simp [ByteArray.data_append]

/-- A rune is decided by what lies from it on. -/
theorem dec_drop {A B : ByteArray} {i j : Nat} (h : A.data.toList.drop i = B.data.toList.drop j) : Utf8.decode A i = Utf8.decode B j := by
  rw [← decodeL_drop, ← decodeL_drop, h]
theorem dec_right {A B : ByteArray} {i : Nat} : wAt (A ++ B) (A.size + i) = wAt B i ∧ rAt (A ++ B) (A.size + i) = rAt B i := by
  have h : (A ++ B).data.toList.drop (A.size + i) = B.data.toList.drop i := by
    rw [toList_app, ← List.drop_drop, show A.size = A.data.toList.length from (Lib.size_eq A), List.drop_left]
  have e := dec_drop h
  unfold wAt rAt
  rw [e]
  exact ⟨rfl, rfl⟩
theorem dec_suffix {A : ByteArray} {i j : Nat} : wAt (A.extract i A.size) j = wAt A (i + j) ∧ rAt (A.extract i A.size) j = rAt A (i + j) := by
  have h : (A.extract i A.size).data.toList.drop j = A.data.toList.drop (i + j) := by
    rw [Lib.extract_to_end, List.drop_drop]
  have e := dec_drop h
  unfold wAt rAt
  rw [e]
  exact ⟨rfl, rfl⟩
/-- A rune of a text reads so too where an ASCII byte, or nothing, follows the text. -/
theorem dec_prefix {A B : ByteArray} (hB : 0 < B.size → byt B 0 < 128) {i : Nat} (hi : i < A.size) : wAt (A ++ B) i = wAt A i ∧ rAt (A ++ B) i = rAt A i := by
  have hs : i < (A ++ B).size := by rw [ByteArray.size_append]; omega
  by_cases h2 : 2 ≤ wAt A i
  · have hin := wide_in h2
    exact wide_same (B := A ++ B) (j := i) h2 (fun k hk => byt_l (by omega)) (by rw [ByteArray.size_append]; omega)
  · have h1 := wAt_pos A i hi
    have hw : wAt (A ++ B) i = wAt A i := by
      by_cases h3 : 2 ≤ wAt (A ++ B) i
      · exfalso
        have hin := wide_in h3
        by_cases h4 : i + wAt (A ++ B) i ≤ A.size
        · have := (wide_same (A := A ++ B) (B := A) (i := i) (j := i) h3 (fun k hk => (byt_l (by omega)).symm) h4).1
          omega
        · have hk := (inside (A := A ++ B) (i := i) (k := A.size - i) (by omega) (by omega)).1
          have e := byt_r (A := A) (B := B) (k := 0) (by rw [ByteArray.size_append] at hin; omega)
          rw [Nat.add_zero] at e
          rw [show i + (A.size - i) = A.size by omega, e] at hk
          have := hB (by rw [ByteArray.size_append] at hin; omega)
          omega
      · have h5 := wAt_pos (A ++ B) i hs
        omega
    refine ⟨hw, ?_⟩
    by_cases h8 : byt A i < 128
    · rw [(dec1 h8).1, (dec1 (s := A ++ B) (i := i) (by rw [byt_l hi]; exact h8)).1, byt_l hi]
    · rw [rAt_one (s := A) (by omega) (by omega), rAt_one (s := A ++ B) (by omega) (by rw [byt_l hi]; omega)]
theorem bd_prefix {A B : ByteArray} (hB : 0 < B.size → byt B 0 < 128) {i n : Nat} (h : Bd A i n) : Bd (A ++ B) i n := by
  induction h with
  | zero => exact .zero
  | @step i n h hi ih =>
    have hstep := ih.step (by rw [ByteArray.size_append]; omega)
    rw [(dec_prefix hB hi).1] at hstep
    exact hstep
/-- A boundary behind a text of one-byte runes. -/
theorem bd_right {A B : ByteArray} {a : Nat} (hA : Bd (A ++ B) A.size a) {i n : Nat} (h : Bd B i n) : Bd (A ++ B) (A.size + i) (a + n) := by
  induction h with
  | zero => exact hA
  | @step i n h hi ih =>
    have hstep := ih.step (by rw [ByteArray.size_append]; omega)
    rw [dec_right.1] at hstep
    rw [← Nat.add_assoc, ← Nat.add_assoc]
    exact hstep
theorem Bd.cnt_inj {s : ByteArray} {i n m : Nat} (h : Bd s i n) (k : Bd s i m) : n = m := by
  by_cases h1 : n < m
  · have := h.lt_of k h1; omega
  · by_cases h2 : m < n
    · have := k.lt_of h h2; omega
    · omega
/-- A byte of ASCII begins a rune. -/
theorem bd_ascii {s : ByteArray} {p : Nat} (hp : p < s.size) (h : byt s p < 128) : ∃ m, Bd s p m := by
  obtain ⟨j, m, hb, h1, h2⟩ := Bd.floor p hp
  by_cases e : j = p
  · subst e; exact ⟨m, hb⟩
  · exfalso
    have h3 := (inside (A := s) (i := j) (k := p - j) (by omega) (by omega)).1
    rw [show j + (p - j) = p by omega] at h3
    omega
theorem bd_end (s : ByteArray) : ∃ m, Bd s s.size m := by
  by_cases h : s.size = 0
  · exact ⟨0, by rw [h]; exact .zero⟩
  · obtain ⟨j, m, hb, h1, h2⟩ := Bd.floor (s := s) (s.size - 1) (by omega)
    have h3 := wAt_le s j (by omega)
    have h4 : j + wAt s j = s.size := by omega
    exact ⟨m + 1, by have := hb.step (by omega : j < s.size); rw [h4] at this; exact this⟩
/-- The runes of a text in number, boundary by boundary. -/
def runesTo (s : ByteArray) (i : Nat) : Nat := if _h : i < s.size then runesTo s (i + wAt s i) + 1 else 0
termination_by s.size - i
decreasing_by have := wAt_pos s i _h; omega
theorem runesTo_end {s : ByteArray} {i : Nat} (h : ¬ i < s.size) : runesTo s i = 0 := by rw [runesTo, dif_neg h]
theorem runesTo_step {s : ByteArray} {i : Nat} (h : i < s.size) : runesTo s i = runesTo s (i + wAt s i) + 1 := by rw [runesTo, dif_pos h]
theorem bd_runesTo {s : ByteArray} : ∀ (k i n : Nat), s.size - i = k → Bd s i n → Bd s s.size (n + runesTo s i) := by
  intro k
  induction k using Nat.strongRecOn with
  | _ k ih =>
  intro i n hk hb
  by_cases h : i < s.size
  · have hp := wAt_pos s i h
    have := ih (s.size - (i + wAt s i)) (by omega) (i + wAt s i) (n + 1) rfl (hb.step h)
    rw [runesTo_step h]
    rw [show n + (runesTo s (i + wAt s i) + 1) = n + 1 + runesTo s (i + wAt s i) by omega]
    exact this
  · have hl := hb.le
    have e : i = s.size := by omega
    rw [runesTo_end h, Nat.add_zero, ← e]
    exact hb
theorem bd_count (s : ByteArray) : Bd s s.size (runesTo s 0) := by
  have := bd_runesTo (s := s) s.size 0 0 rfl .zero
  rw [Nat.zero_add] at this
  exact this

/-! ### other ASCII bytes -/
structure AsciiMap (f : UInt8 → UInt8) : Prop where
  hi : ∀ b : UInt8, 128 ≤ b.toNat → f b = b
  lo : ∀ b : UInt8, b.toNat < 128 → (f b).toNat < 128
def mapS (f : UInt8 → UInt8) (s : ByteArray) : ByteArray := ⟨s.data.map f⟩
theorem mapS_size (f : UInt8 → UInt8) (s : ByteArray) : (mapS f s).size = s.size := (Array.size_map : (s.data.map f).size = s.data.size)
theorem byt_map {f : UInt8 → UInt8} {s : ByteArray} {k : Nat} (h : k < s.size) : byt (mapS f s) k = (f (s[k]'h)).toNat := by
  rw [byt_of (s := mapS f s) (k := k) (by rw [mapS_size]; exact h)]
  have h' : k < (s.data.map f).size := by rw [Array.size_map]; exact h
  show ((s.data.map f)[k]'h').toNat = _
  rw [Array.getElem_map]
  rfl
theorem wide_bytes {A : ByteArray} {i : Nat} (hw : 2 ≤ wAt A i) {k : Nat} (hk : k < wAt A i) : 128 ≤ byt A (i + k) := by
  by_cases h0 : k = 0
  · subst h0; have := wide_head hw; rw [Nat.add_zero]; omega
  · exact (inside (A := A) (i := i) (k := k) (by omega) hk).1
theorem byt_map_hi {f : UInt8 → UInt8} (hf : AsciiMap f) {s : ByteArray} {k : Nat} (h : k < s.size) (h8 : 128 ≤ byt s k) : byt (mapS f s) k = byt s k := by
  rw [byt_map h, byt_of h]
  rw [byt_of h] at h8
  rw [hf.hi _ h8]
theorem byt_map_lo {f : UInt8 → UInt8} (hf : AsciiMap f) {s : ByteArray} {k : Nat} (h : k < s.size) (h8 : byt s k < 128) : byt (mapS f s) k < 128 := by
  rw [byt_map h]
  rw [byt_of h] at h8
  exact hf.lo _ h8
theorem dec_map {f : UInt8 → UInt8} (hf : AsciiMap f) {s : ByteArray} {i : Nat} (h : i < s.size) : wAt (mapS f s) i = wAt s i ∧ (128 ≤ byt s i → rAt (mapS f s) i = rAt s i) := by
  have hsz := mapS_size f s
  by_cases h8 : byt s i < 128
  · refine ⟨by rw [(dec1 h8).2, (dec1 (byt_map_lo hf h h8)).2], fun h => by omega⟩
  · have hbe := byt_map_hi hf h (by omega)
    by_cases hw : 2 ≤ wAt s i
    · have hin := wide_in hw
      have := wide_same (A := s) (B := mapS f s) (i := i) (j := i) hw (fun k hk => byt_map_hi hf (by omega) (wide_bytes hw hk)) (by omega)
      exact ⟨this.1, fun _ => this.2⟩
    · have p1 := wAt_pos s i h
      have p2 := wAt_pos (mapS f s) i (by omega)
      by_cases hw2 : 2 ≤ wAt (mapS f s) i
      · have hin := wide_in hw2
        have := wide_same (A := mapS f s) (B := s) (i := i) (j := i) hw2 (fun k hk => by
          have hb := wide_bytes hw2 hk
          by_cases h9 : byt s (i + k) < 128
          · have := byt_map_lo hf (s := s) (k := i + k) (by omega) h9; omega
          · exact (byt_map_hi hf (by omega) (by omega)).symm) (by omega)
        omega
      · exact ⟨by omega, fun _ => by rw [rAt_one (s := s) (by omega) (by omega), rAt_one (s := mapS f s) (by omega) (by omega)]⟩

/-! ### what a rune read is written as -/
/-- A rune's bytes, or U+FFFD's where the byte begins none. -/
def oneOut (s : ByteArray) (i : Nat) : List UInt8 := if 128 ≤ byt s i ∧ wAt s i = 1 then [239, 191, 189] else (s.extract i (i + wAt s i)).data.toList
theorem encode_at {s : ByteArray} {i : Nat} (h : i < s.size) : encodeRune (rAt s i) = oneOut s i := by
  unfold oneOut
  by_cases hb : 128 ≤ byt s i ∧ wAt s i = 1
  · rw [if_pos hb, rAt_one hb.2 hb.1]
    decide
  · rw [if_neg hb]
    have hne : s.data.toList.drop i ≠ [] := by
      intro e
      have := congrArg List.length e
      rw [List.length_drop] at this
      have h1 := Lib.size_eq s
      simp only [List.length_nil] at this
      omega
    have hd := decodeL_drop s i
    have he := encode_decode (s.data.toList.drop i) hne (by
      rw [hd]
      rintro ⟨h1, h2⟩
      have h3 : rAt s i = 65533 := by unfold rAt; omega
      have h4 : wAt s i = 1 := h2
      by_cases h8 : byt s i < 128
      · rw [(dec1 h8).1] at h3; omega
      · exact hb ⟨by omega, h4⟩)
    rw [hd] at he
    rw [Lib.extract_data, show i + wAt s i - i = wAt s i by omega]
    exact he

end Go.Proofs.YtdpdgppjeekcmaaFmt

/-
  What the lexer hands out at signs that lie ahead of it, step by step. No program stands in this text.
-/
namespace Go.Proofs.YtdpdgppjeekcmaaFmt
open Go Go.Lib

/-- The lexer at root, at byte i, rune n, nothing pending. -/
def R (i n : Nat) (f d : Bool) : St := ⟨some .root, i, n, i, n, f, d, none, []⟩
/-- The lexer at a state, i, n the begin of what it reads, j, m its place. -/
def At (q : Q) (i n j m : Nat) (f d : Bool) : St := ⟨some q, i, n, j, m, f, d, none, []⟩
theorem R_at (i n : Nat) (f d : Bool) : R i n f d = At .root i n i n f d := rfl

theorem out_to {s : ByteArray} {t t' u : St} {l : List Tok} (hg : going t = true) (hs : step s t = t') (he : t'.err = none) (ht : t'.toks = []) (h : Out s t' l u) : Out s t l u := by
  have h1 := Out.step (s := s) (t := t) (l := l) (u := u) hg (by rw [hs]; exact he) (by rw [hs, bare_of ht]; exact h)
  rw [hs, ht] at h1
  exact h1
theorem out_tok {s : ByteArray} {t t' u : St} {k : Tok} {l : List Tok} (hg : going t = true) (hs : step s t = { t' with toks := [k] }) (he : t'.err = none) (ht : t'.toks = []) (h : Out s t' l u) : Out s t (k :: l) u := by
  have h0 : bare (step s t) = t' := by rw [hs]; exact bare_of ht
  have h1 := Out.step (s := s) (t := t) (l := l) (u := u) hg (by rw [hs]; exact he) (by rw [h0]; exact h)
  rw [hs] at h1
  exact h1

theorem out_two {s : ByteArray} {t t' u : St} {k1 k2 : Tok} {l : List Tok} (hg : going t = true) (hs : step s t = { t' with toks := [k1, k2] }) (he : t'.err = none) (ht : t'.toks = []) (h : Out s t' l u) : Out s t (k1 :: k2 :: l) u := by
  have h0 : bare (step s t) = t' := by rw [hs]; exact bare_of ht
  have h1 := Out.step (s := s) (t := t) (l := l) (u := u) hg (by rw [hs]; exact he) (by rw [h0]; exact h)
  rw [hs] at h1
  exact h1

/-! ### the byte ahead -/
theorem peek_b {s : ByteArray} {t : St} (h : t.eb < s.size) (ha : byt s t.eb < 128) : peek s t = (byt s t.eb : Int) := by
  unfold peek
  rw [if_pos h, (dec1 ha).1]
theorem next_b {s : ByteArray} {t : St} (h : t.eb < s.size) (ha : byt s t.eb < 128) : next s t = adv 1 t := by
  rw [next_in h, (dec1 ha).2]
  rfl
theorem peek_hi_b {s : ByteArray} {t : St} (h : t.eb < s.size) (ha : 128 ≤ byt s t.eb) : 128 ≤ peek s t := by
  unfold peek
  rw [if_pos h]
  rw [byt_of h] at ha
  exact rAt_high h ha
theorem peek_e {s : ByteArray} {t : St} (h : ¬ t.eb < s.size) : peek s t = -1 := by unfold peek; rw [if_neg h]
/-- A rune of ASCII ahead is a byte ahead. -/
theorem peek_ascii {s : ByteArray} {t : St} {c : Nat} (hc : c < 128) (h : peek s t = (c : Int)) : t.eb < s.size ∧ byt s t.eb = c := by
  have hl : t.eb < s.size := peek_lt (by omega)
  refine ⟨hl, ?_⟩
  by_cases ha : byt s t.eb < 128
  · have := peek_b hl ha
    omega
  · have := peek_hi_b hl (by omega)
    omega
theorem peek_ne {s : ByteArray} {t : St} {c : Nat} (hc : c < 128) (h : t.eb < s.size → byt s t.eb ≠ c) : peek s t ≠ (c : Int) := fun e => h (peek_ascii hc e).1 (peek_ascii hc e).2
theorem accept_b {s : ByteArray} {t : St} {v : List UInt8} (hv : asciiL v = true) : acceptB (bs v) s t = true ↔ t.eb < s.size ∧ ∃ b ∈ v, b.toNat = byt s t.eb := by
  unfold acceptB
  rw [has_bs v (asciiL_of hv)]
  constructor
  · intro h
    have hm : peek s t ∈ v.map fun b => (b.toNat : Int) := by simpa using h
    obtain ⟨b, hb, e⟩ := List.mem_map.1 hm
    have := asciiL_of hv b hb
    have h2 := peek_ascii (s := s) (t := t) this e.symm
    exact ⟨h2.1, b, hb, h2.2.symm⟩
  · rintro ⟨hl, b, hb, e⟩
    have := asciiL_of hv b hb
    have hp := peek_b hl (by omega)
    have hm : peek s t ∈ v.map fun b => (b.toNat : Int) := List.mem_map.2 ⟨b, hb, by omega⟩
    simpa using hm
theorem accept_no {s : ByteArray} {t : St} {v : List UInt8} (hv : asciiL v = true) (h : t.eb < s.size → ∀ b ∈ v, b.toNat ≠ byt s t.eb) : acceptB (bs v) s t = false := by
  cases hb : acceptB (bs v) s t with
  | false => rfl
  | true =>
    obtain ⟨hl, b, hm, e⟩ := (accept_b hv).1 hb
    exact absurd e (h hl b hm)

/-! ### tables over ASCII -/
theorem space_ascii : ∀ n : Nat, n < 128 → isSpaceZ (n : Int) = (decide (n = 32) || (decide (9 ≤ n) && decide (n ≤ 13))) := by decide +kernel
theorem alnum_ascii : ∀ n : Nat, n < 128 → alnum (n : Int) = ((decide (48 ≤ n) && decide (n ≤ 57)) || (decide (65 ≤ n) && decide (n ≤ 90)) || (decide (97 ≤ n) && decide (n ≤ 122)) || decide (n = 95) || decide (n = 36)) := by decide +kernel
theorem pOpen (r : Int) : has cOpen r = ([40, 91, 123] : List Int).contains r := has_bs [40, 91, 123] (by decide) r
theorem pShut (r : Int) : has cShut r = ([41, 93, 125] : List Int).contains r := has_bs [41, 93, 125] (by decide) r
theorem pOne (r : Int) : has cOne r = ([44, 59, 37, 43, 45, 94] : List Int).contains r := has_bs [44, 59, 37, 43, 45, 94] (by decide) r
theorem pTwo (r : Int) : has cTwo r = ([38, 33, 61, 42, 60, 62] : List Int).contains r := has_bs [38, 33, 61, 42, 60, 62] (by decide) r

/-! ### root -/
theorem root_e {s : ByteArray} {t : St} (h : peek s t = -1) : root s t = (none, emitEOF (next s t)) := by unfold root; rw [if_pos h]
theorem root_sp {s : ByteArray} {t : St} (h0 : peek s t ≠ -1) (h : isSpaceZ (peek s t) = true) : root s t = (some .root, commit (next s t)) := by unfold root; rw [if_neg h0, if_pos h]
theorem root_63 {s : ByteArray} {t : St} (h : peek s t = 63) : root s t = (some .questionMark, next s t) := by
  unfold root
  rw [h]
  repeat (first | rw [if_neg (by decide)] | rw [if_neg (fun h => absurd h.1 (by decide))])
  rw [if_pos (by decide)]
theorem root_47 {s : ByteArray} {t : St} (h : peek s t = 47) : root s t = (some .slash, next s t) := by
  unfold root
  rw [h]
  repeat (first | rw [if_neg (by decide)] | rw [if_neg (fun h => absurd h.1 (by decide))])
  rw [if_pos (by decide)]
theorem root_35 {s : ByteArray} {t : St} (h : peek s t = 35) : root s t = (some .pointer, next s t) := by
  unfold root
  rw [h]
  repeat (first | rw [if_neg (by decide)] | rw [if_neg (fun h => absurd h.1 (by decide))])
  rw [if_pos (by decide)]
theorem root_46 {s : ByteArray} {t : St} (h : peek s t = 46) : root s t = (some .dot, t) := by
  unfold root
  rw [h, pOpen, pShut, pOne, pTwo]
  repeat (first | rw [if_neg (by decide)] | rw [if_neg (fun h => absurd h.1 (by decide))])
  rw [if_pos (by decide)]
theorem root_dig {s : ByteArray} {t : St} {c : Nat} (h : peek s t = (c : Int)) (h1 : 48 ≤ c) (h2 : c ≤ 57) : root s t = (some .number, t) := by
  have hs : ¬ isSpaceZ (c : Int) = true := by
    rw [space_ascii c (by omega)]
    simp only [Bool.or_eq_true, Bool.and_eq_true, decide_eq_true_eq]
    omega
  unfold root
  rw [h, if_neg (by omega), if_neg hs, if_neg (by omega), if_neg (by omega), if_neg (by omega), if_neg (by omega), if_neg (by omega), if_pos (by omega)]
theorem root_let {s : ByteArray} {t : St} {c : Nat} (h : peek s t = (c : Int)) (hc : (65 ≤ c ∧ c ≤ 90) ∨ (97 ≤ c ∧ c ≤ 122)) (h1 : peek s (next s t) ≠ 39) (h2 : peek s (next s t) ≠ 34) : root s t = (some .identifier, t) := by
  have hs : ¬ isSpaceZ (c : Int) = true := by
    rw [space_ascii c (by omega)]
    simp only [Bool.or_eq_true, Bool.and_eq_true, decide_eq_true_eq]
    omega
  have ha : alnum (c : Int) = true := by
    rw [alnum_ascii c (by omega)]
    simp only [Bool.or_eq_true, Bool.and_eq_true, decide_eq_true_eq]
    omega
  have p1 : ¬ has cOpen (c : Int) = true := by rw [pOpen]; simp; omega
  have p2 : ¬ has cShut (c : Int) = true := by rw [pShut]; simp; omega
  have p3 : ¬ has cOne (c : Int) = true := by rw [pOne]; simp; omega
  have p4 : ¬ has cTwo (c : Int) = true := by rw [pTwo]; simp; omega
  unfold root
  rw [h, if_neg (by omega), if_neg hs, if_neg (by omega), if_neg (by omega), if_neg (by omega), if_neg (fun h => h1 h.2), if_neg (fun h => h2 h.2), if_neg (by omega), if_neg (by omega), if_neg (by omega), if_neg (by omega), if_neg (by omega), if_neg (by omega), if_neg p1, if_neg p2, if_neg p3, if_neg p4, if_neg (by omega), if_pos ha]

/-! ### what is handed out -/
def eofTok (n : Nat) : Tok := ⟨((n - 1 : Nat) : Int), n, kEOF, ⟨#[]⟩⟩

theorem out_eof {s : ByteArray} {i n : Nat} {f d : Bool} (h : i = s.size) : Out s (R i n f d) [eofTok n] ⟨none, i, n, i, n, true, d, none, []⟩ := by
  have hr := root_e (s := s) (t := R i n f d) (peek_e (by show ¬ i < s.size; omega))
  have hn : next s (R i n f d) = { R i n f d with eof := true } := next_end (by show ¬ i < s.size; omega)
  refine out_tok (t' := ⟨none, i, n, i, n, true, d, none, []⟩) rfl ?_ rfl rfl (.fin rfl rfl rfl)
  rw [step_some (q := .root) rfl]
  show { (root s (R i n f d)).2 with q := (root s (R i n f d)).1 } = _
  rw [hr, hn]
  rfl
theorem out_space {s : ByteArray} {i n : Nat} {f d : Bool} {l : List Tok} {u : St} (h : i < s.size) (hb : byt s i = 32 ∨ (9 ≤ byt s i ∧ byt s i ≤ 13)) (ho : Out s (R (i + 1) (n + 1) f d) l u) : Out s (R i n f d) l u := by
  have hp := peek_b (s := s) (t := R i n f d) h (by show byt s i < 128; omega)
  have hn := next_b (s := s) (t := R i n f d) h (by show byt s i < 128; omega)
  change peek s (R i n f d) = (byt s i : Int) at hp
  have hr := root_sp (s := s) (t := R i n f d) (by omega) (by
    rw [hp, space_ascii _ (by omega)]
    simp only [Bool.or_eq_true, Bool.and_eq_true, decide_eq_true_eq]
    omega)
  refine out_to (t' := R (i + 1) (n + 1) f d) rfl ?_ rfl rfl ho
  rw [step_some (q := .root) rfl]
  show { (root s (R i n f d)).2 with q := (root s (R i n f d)).1 } = _
  rw [hr, hn]
  rfl

/-- A word emitted at a state, back to root. -/
theorem step_emit {s k : ByteArray} {q : Q} {i n j m a b : Nat} {f d : Bool} (h : state q s (At q i n j m f d) = (some .root, emit k s (At q i n a b f d))) : step s (At q i n j m f d) = { R a b f d with toks := [⟨n, b, k, s.extract i a⟩] } := by
  rw [step_some (q := q) rfl, h]
  rfl
theorem out_emit {s k : ByteArray} {q : Q} {i n j m a b : Nat} {f d : Bool} {l : List Tok} {u : St} (h : state q s (At q i n j m f d) = (some .root, emit k s (At q i n a b f d))) (ho : Out s (R a b f d) l u) : Out s (At q i n j m f d) (⟨n, b, k, s.extract i a⟩ :: l) u :=
  out_tok rfl (step_emit h) rfl rfl ho

theorem adv_R (q : Q) (i n j m k : Nat) (f d : Bool) : adv k (At q i n j m f d) = At q i n (j + k) (m + k) f d := rfl
theorem step_to {s : ByteArray} {q q' : Q} {i n j m a b : Nat} {f d : Bool} {l : List Tok} {u : St} (h : state q s (At q i n j m f d) = (some q', At q i n a b f d)) (ho : Out s (At q' i n a b f d) l u) : Out s (At q i n j m f d) l u := by
  refine out_to (t' := At q' i n a b f d) rfl ?_ rfl rfl ho
  rw [step_some (q := q) rfl, h]
  rfl

/-- '?' -/
theorem out_quest {s : ByteArray} {i n w : Nat} {f d : Bool} {l : List Tok} {u : St} (h : i < s.size) (hb : byt s i = 63) (hw : (w = 2 ∧ i + 1 < s.size ∧ (byt s (i + 1) = 46 ∨ byt s (i + 1) = 63)) ∨ (w = 1 ∧ (i + 1 < s.size → byt s (i + 1) ≠ 46 ∧ byt s (i + 1) ≠ 63)))
    (ho : Out s (R (i + w) (n + w) f d) l u) : Out s (R i n f d) (⟨n, (n + w : Nat), kOperator, s.extract i (i + w)⟩ :: l) u := by
  have hp : peek s (R i n f d) = 63 := by rw [peek_b (s := s) (t := R i n f d) h (by show byt s i < 128; omega)]; show (byt s i : Int) = 63; omega
  have hn : next s (R i n f d) = At .root i n (i + 1) (n + 1) f d := by rw [next_b (s := s) (t := R i n f d) h (by show byt s i < 128; omega)]; rfl
  refine step_to (q := .root) (q' := .questionMark) (a := i + 1) (b := n + 1) ?_ ?_
  · show root s (R i n f d) = _
    rw [root_63 hp, hn]
  · refine out_emit ?_ ho
    show questionMark s _ = _
    unfold questionMark accept
    rcases hw with ⟨rfl, h1, h2⟩ | ⟨rfl, h2⟩
    · have ha : acceptB cQd s (At .questionMark i n (i + 1) (n + 1) f d) = true := (accept_b (v := [46, 63]) (by decide)).2 ⟨h1, by
        show ∃ b ∈ _, UInt8.toNat b = byt s (i + 1)
        rcases h2 with h2 | h2
        · exact ⟨46, by simp, by rw [h2]; rfl⟩
        · exact ⟨63, by simp, by rw [h2]; rfl⟩⟩
      rw [if_pos ha, next_b (s := s) (t := At .questionMark i n (i + 1) (n + 1) f d) h1 (by show byt s (i + 1) < 128; omega)]
      rfl
    · have ha : acceptB cQd s (At .questionMark i n (i + 1) (n + 1) f d) = false := accept_no (v := [46, 63]) (by decide) (fun hl b hb => by
        have h3 := h2 hl
        show UInt8.toNat b ≠ byt s (i + 1)
        simp only [List.mem_cons, List.not_mem_nil, or_false] at hb
        rcases hb with rfl | rfl
        · exact fun e => h3.1 e.symm
        · exact fun e => h3.2 e.symm)
      rw [if_neg (by rw [ha]; decide)]

/-- '.' that no digit follows -/
theorem out_dot {s : ByteArray} {i n w : Nat} {f d : Bool} {l : List Tok} {u : St} (h : i < s.size) (hb : byt s i = 46) (hd : i + 1 < s.size → ¬ (48 ≤ byt s (i + 1) ∧ byt s (i + 1) ≤ 57)) (hw : (w = 2 ∧ i + 1 < s.size ∧ byt s (i + 1) = 46) ∨ (w = 1 ∧ (i + 1 < s.size → byt s (i + 1) ≠ 46)))
    (ho : Out s (R (i + w) (n + w) f d) l u) : Out s (R i n f d) (⟨n, (n + w : Nat), kOperator, s.extract i (i + w)⟩ :: l) u := by
  have hp : peek s (R i n f d) = 46 := by rw [peek_b (s := s) (t := R i n f d) h (by show byt s i < 128; omega)]; show (byt s i : Int) = 46; omega
  refine step_to (q := .root) (q' := .dot) (a := i) (b := n) ?_ ?_
  · show root s (R i n f d) = _
    rw [root_46 hp]
    rfl
  · refine out_emit ?_ ho
    show dot s _ = _
    have hn : next s (At .dot i n i n f d) = At .dot i n (i + 1) (n + 1) f d := by rw [next_b (s := s) (t := At .dot i n i n f d) h (by show byt s i < 128; omega)]; rfl
    have hdig : acceptB cDig s (At .dot i n (i + 1) (n + 1) f d) = false := accept_no (v := [48, 49, 50, 51, 52, 53, 54, 55, 56, 57]) (by decide) (fun hl b hb => by
      have h3 := hd hl
      show UInt8.toNat b ≠ byt s (i + 1)
      have hb2 : 48 ≤ b.toNat ∧ b.toNat ≤ 57 := by
        simp only [List.mem_cons, List.not_mem_nil, or_false] at hb
        rcases hb with rfl | rfl | rfl | rfl | rfl | rfl | rfl | rfl | rfl | rfl <;> decide
      omega)
    unfold dot
    rw [hn, if_neg (by rw [hdig]; decide)]
    unfold accept
    rcases hw with ⟨rfl, h1, h2⟩ | ⟨rfl, h2⟩
    · have ha : acceptB cDot s (At .dot i n (i + 1) (n + 1) f d) = true := (accept_b (v := [46]) (by decide)).2 ⟨h1, 46, by simp, by show _ = byt s (i + 1); rw [h2]; rfl⟩
      rw [if_pos ha, next_b (s := s) (t := At .dot i n (i + 1) (n + 1) f d) h1 (by show byt s (i + 1) < 128; omega)]
      rfl
    · have ha : acceptB cDot s (At .dot i n (i + 1) (n + 1) f d) = false := accept_no (v := [46]) (by decide) (fun hl b hb => by
        have h3 := h2 hl
        show UInt8.toNat b ≠ byt s (i + 1)
        simp only [List.mem_cons, List.not_mem_nil, or_false] at hb
        subst hb
        exact fun e => h3 e.symm)
      rw [if_neg (by rw [ha]; decide)]

/-- '/' that neither '/' nor '*' follows -/
theorem out_slash {s : ByteArray} {i n : Nat} {f d : Bool} {l : List Tok} {u : St} (h : i < s.size) (hb : byt s i = 47) (hw : i + 1 < s.size → byt s (i + 1) ≠ 47 ∧ byt s (i + 1) ≠ 42)
    (ho : Out s (R (i + 1) (n + 1) f d) l u) : Out s (R i n f d) (⟨n, (n + 1 : Nat), kOperator, s.extract i (i + 1)⟩ :: l) u := by
  have hp : peek s (R i n f d) = 47 := by rw [peek_b (s := s) (t := R i n f d) h (by show byt s i < 128; omega)]; show (byt s i : Int) = 47; omega
  have hn : next s (R i n f d) = At .root i n (i + 1) (n + 1) f d := by rw [next_b (s := s) (t := R i n f d) h (by show byt s i < 128; omega)]; rfl
  refine step_to (q := .root) (q' := .slash) (a := i + 1) (b := n + 1) ?_ ?_
  · show root s (R i n f d) = _
    rw [root_47 hp, hn]
  · refine out_emit ?_ ho
    show slash s _ = _
    have h1 : acceptB cSlash s (At .slash i n (i + 1) (n + 1) f d) = false := accept_no (v := [47]) (by decide) (fun hl b hb => by
      have h3 := hw hl
      show UInt8.toNat b ≠ byt s (i + 1)
      simp only [List.mem_cons, List.not_mem_nil, or_false] at hb
      subst hb
      exact fun e => h3.1 e.symm)
    have h2 : acceptB cStar s (At .slash i n (i + 1) (n + 1) f d) = false := accept_no (v := [42]) (by decide) (fun hl b hb => by
      have h3 := hw hl
      show UInt8.toNat b ≠ byt s (i + 1)
      simp only [List.mem_cons, List.not_mem_nil, or_false] at hb
      subst hb
      exact fun e => h3.2 e.symm)
    unfold slash
    rw [if_neg (by rw [h1]; decide), if_neg (by rw [h2]; decide)]
/-- '/' and '/': the line's comment begins. -/
theorem out_line0 {s : ByteArray} {i n : Nat} {f d : Bool} {l : List Tok} {u : St} (h : i + 1 < s.size) (hb : byt s i = 47) (hb1 : byt s (i + 1) = 47)
    (ho : Out s (At .singleLine i n (i + 2) (n + 2) f d) l u) : Out s (R i n f d) l u := by
  have h0 : i < s.size := by omega
  have hp : peek s (R i n f d) = 47 := by rw [peek_b (s := s) (t := R i n f d) h0 (by show byt s i < 128; omega)]; show (byt s i : Int) = 47; omega
  have hn : next s (R i n f d) = At .root i n (i + 1) (n + 1) f d := by rw [next_b (s := s) (t := R i n f d) h0 (by show byt s i < 128; omega)]; rfl
  refine step_to (q := .root) (q' := .slash) (a := i + 1) (b := n + 1) ?_ ?_
  · show root s (R i n f d) = _
    rw [root_47 hp, hn]
  · refine step_to (q := .slash) (q' := .singleLine) (a := i + 2) (b := n + 2) ?_ ho
    show slash s _ = _
    have h1 : acceptB cSlash s (At .slash i n (i + 1) (n + 1) f d) = true := (accept_b (v := [47]) (by decide)).2 ⟨h, 47, by simp, by show _ = byt s (i + 1); rw [hb1]; rfl⟩
    unfold slash
    rw [if_pos h1, next_b (s := s) (t := At .slash i n (i + 1) (n + 1) f d) h (by show byt s (i + 1) < 128; omega)]
    rfl
/-- '/' and '*': the comment begins. -/
theorem out_multi0 {s : ByteArray} {i n : Nat} {f d : Bool} {l : List Tok} {u : St} (h : i + 1 < s.size) (hb : byt s i = 47) (hb1 : byt s (i + 1) = 42)
    (ho : Out s (At .multiLine i n (i + 2) (n + 2) f d) l u) : Out s (R i n f d) l u := by
  have h0 : i < s.size := by omega
  have hp : peek s (R i n f d) = 47 := by rw [peek_b (s := s) (t := R i n f d) h0 (by show byt s i < 128; omega)]; show (byt s i : Int) = 47; omega
  have hn : next s (R i n f d) = At .root i n (i + 1) (n + 1) f d := by rw [next_b (s := s) (t := R i n f d) h0 (by show byt s i < 128; omega)]; rfl
  refine step_to (q := .root) (q' := .slash) (a := i + 1) (b := n + 1) ?_ ?_
  · show root s (R i n f d) = _
    rw [root_47 hp, hn]
  · refine step_to (q := .slash) (q' := .multiLine) (a := i + 2) (b := n + 2) ?_ ho
    show slash s _ = _
    have h1 : acceptB cSlash s (At .slash i n (i + 1) (n + 1) f d) = false := accept_no (v := [47]) (by decide) (fun hl b hb => by
      show UInt8.toNat b ≠ byt s (i + 1)
      simp only [List.mem_cons, List.not_mem_nil, or_false] at hb
      subst hb
      rw [hb1]; decide)
    have h2 : acceptB cStar s (At .slash i n (i + 1) (n + 1) f d) = true := (accept_b (v := [42]) (by decide)).2 ⟨h, 42, by simp, by show _ = byt s (i + 1); rw [hb1]; rfl⟩
    unfold slash
    rw [if_neg (by rw [h1]; decide), if_pos h2, next_b (s := s) (t := At .slash i n (i + 1) (n + 1) f d) h (by show byt s (i + 1) < 128; omega)]
    rfl

/-- A run of decimal digits, and what may follow it. -/
theorem out_num {s : ByteArray} {i n : Nat} {f d : Bool} {l : List Tok} {u : St} {p rest : List UInt8} (ha : s.data.toList.drop i = p ++ rest) (hp : p ≠ []) (hd : ∀ b ∈ p, 48 ≤ b.toNat ∧ b.toNat ≤ 57) (h0 : p = [48] ∨ p.head? ≠ some 48) (hr : NumStop rest)
    (ho : Out s (R (i + p.length) (n + p.length) f d) l u) : Out s (R i n f d) (⟨n, (n + p.length : Nat), kNumber, s.extract i (i + p.length)⟩ :: l) u := by
  obtain ⟨b, q, rfl⟩ : ∃ b q, p = b :: q := by
    cases p with
    | nil => exact absurd rfl hp
    | cons b q => exact ⟨b, q, rfl⟩
  have hb := hd b (List.mem_cons_self ..)
  have hA : Ahead s (R i n f d) (b :: (q ++ rest)) := ha
  have hpk := peek_cons hA (by omega)
  refine step_to (q := .root) (q' := .number) (a := i) (b := n) ?_ ?_
  · show root s (R i n f d) = _
    rw [root_dig hpk hb.1 hb.2]
    rfl
  · refine out_emit ?_ ho
    show number s _ = _
    have hs := scan_dec (t := At .number i n i n f d) ha hp hd h0 hr
    unfold number
    rw [hs]
    rfl

/-! ### comments -/
/-- The line's comment goes to its end. -/
theorem line_run {s : ByteArray} {q : Q} {i n : Nat} {f d : Bool} : ∀ (k j m e N : Nat), e - j = k → Bd s j m → j ≤ e → e < s.size → byt s e = 10 → (∀ x, j ≤ x → x < e → byt s x ≠ 10) → Bd s e N → lineRun s (At q i n j m f d) = At q i n (e + 1) (N + 1) f d := by
  intro k
  induction k using Nat.strongRecOn with
  | _ k ih =>
  intro j m e N hk hb hje he hnl hno hN
  rw [lineRun_eq]
  by_cases hj : j = e
  · subst hj
    have hm : m = N := Bd.cnt_inj hb hN
    subst hm
    have hp : peek s (At q i n j m f d) = 10 := by rw [peek_b (s := s) (t := At q i n j m f d) he (by show byt s j < 128; omega)]; show (byt s j : Int) = 10; omega
    rw [if_pos (.inr hp), next_b (s := s) (t := At q i n j m f d) he (by show byt s j < 128; omega)]
    rfl
  · have hl : j < s.size := by omega
    have hne : peek s (At q i n j m f d) ≠ 10 := peek_ne (c := 10) (by decide) (fun _ => hno j (Nat.le_refl _) (by omega))
    have hn1 : peek s (At q i n j m f d) ≠ -1 := by have := peek_nonneg (s := s) (t := At q i n j m f d) hl; omega
    rw [if_neg (by rintro (h | h); exact hn1 h; exact hne h), next_in (s := s) (t := At q i n j m f d) hl]
    have hw := wAt_pos s j hl
    have hb1 := hb.step hl
    have hout : j + wAt s j ≤ e := by
      rcases hN.out hb with h | h | h <;> omega
    exact ih (e - (j + wAt s j)) (by omega) (j + wAt s j) (m + 1) e N rfl hb1 hout he hnl (fun x h1 h2 => hno x (by omega) h2) hN
/-- .. or to the text's end. -/
theorem line_end {s : ByteArray} {q : Q} {i n : Nat} {f d : Bool} : ∀ (k j m N : Nat), s.size - j = k → Bd s j m → (∀ x, j ≤ x → x < s.size → byt s x ≠ 10) → Bd s s.size N → lineRun s (At q i n j m f d) = At q i n s.size N true d := by
  intro k
  induction k using Nat.strongRecOn with
  | _ k ih =>
  intro j m N hk hb hno hN
  rw [lineRun_eq]
  have hle := hb.le
  by_cases hj : j = s.size
  · subst hj
    have hm : m = N := Bd.cnt_inj hb hN
    subst hm
    rw [if_pos (.inl (peek_e (Nat.lt_irrefl _))), next_end (Nat.lt_irrefl _)]
    rfl
  · have hl : j < s.size := by omega
    have hne : peek s (At q i n j m f d) ≠ 10 := peek_ne (c := 10) (by decide) (fun _ => hno j (Nat.le_refl _) hl)
    have hn1 : peek s (At q i n j m f d) ≠ -1 := by have := peek_nonneg (s := s) (t := At q i n j m f d) hl; omega
    rw [if_neg (by rintro (h | h); exact hn1 h; exact hne h), next_in (s := s) (t := At q i n j m f d) hl]
    have hw := wAt_pos s j hl
    exact ih (s.size - (j + wAt s j)) (by omega) (j + wAt s j) (m + 1) N rfl (hb.step hl) (fun x h1 h2 => hno x (by omega) h2) hN
theorem out_line {s : ByteArray} {i n j m e N : Nat} {f d : Bool} {l : List Tok} {u : St} (hb : Bd s j m) (hje : j ≤ e) (he : e < s.size) (hnl : byt s e = 10) (hno : ∀ x, j ≤ x → x < e → byt s x ≠ 10) (hN : Bd s e N)
    (ho : Out s (R (e + 1) (N + 1) f d) l u) : Out s (At .singleLine i n j m f d) l u := by
  refine out_to (t' := R (e + 1) (N + 1) f d) rfl ?_ rfl rfl ho
  have hst : state .singleLine s (At .singleLine i n j m f d) = (some .root, commit (At .singleLine i n (e + 1) (N + 1) f d)) := by
    show singleLine s _ = _
    unfold singleLine
    rw [line_run (e - j) j m e N rfl hb hje he hnl hno hN]
  rw [step_some (q := .singleLine) rfl, hst]
  rfl
theorem out_line_end {s : ByteArray} {i n j m N : Nat} {f d : Bool} {l : List Tok} {u : St} (hb : Bd s j m) (hno : ∀ x, j ≤ x → x < s.size → byt s x ≠ 10) (hN : Bd s s.size N)
    (ho : Out s (R s.size N true d) l u) : Out s (At .singleLine i n j m f d) l u := by
  refine out_to (t' := R s.size N true d) rfl ?_ rfl rfl ho
  have hst : state .singleLine s (At .singleLine i n j m f d) = (some .root, commit (At .singleLine i n s.size N true d)) := by
    show singleLine s _ = _
    unfold singleLine
    rw [line_end (s.size - j) j m N rfl hb hno hN]
  rw [step_some (q := .singleLine) rfl, hst]
  rfl

/-- The comment goes to the first star and slash. -/
theorem multi_run {s : ByteArray} {q : Q} {i n : Nat} {f d : Bool} : ∀ (k j m e N : Nat), e - j = k → Bd s j m → j ≤ e → e + 1 < s.size → byt s e = 42 → byt s (e + 1) = 47 → (∀ x, j ≤ x → x < e → ¬ (byt s x = 42 ∧ byt s (x + 1) = 47)) → Bd s e N → multiRun s (At q i n j m f d) = (true, At q i n (e + 2) (N + 2) f d) := by
  intro k
  induction k using Nat.strongRecOn with
  | _ k ih =>
  intro j m e N hk hb hje he h42 h47 hno hN
  rw [multiRun_eq]
  have hl : j < s.size := by omega
  have hn1 : peek s (At q i n j m f d) ≠ -1 := by have := peek_nonneg (s := s) (t := At q i n j m f d) hl; omega
  rw [if_neg hn1]
  by_cases hj : j = e
  · subst hj
    have hm : m = N := Bd.cnt_inj hb hN
    subst hm
    have hp : peek s (At q i n j m f d) = 42 := by rw [peek_b (s := s) (t := At q i n j m f d) hl (by show byt s j < 128; omega)]; show (byt s j : Int) = 42; omega
    have hn : next s (At q i n j m f d) = At q i n (j + 1) (m + 1) f d := by rw [next_b (s := s) (t := At q i n j m f d) hl (by show byt s j < 128; omega)]; rfl
    have ha : acceptB cSlash s (At q i n (j + 1) (m + 1) f d) = true := (accept_b (v := [47]) (by decide)).2 ⟨he, 47, by simp, by show _ = byt s (j + 1); rw [h47]; rfl⟩
    rw [hn, if_pos ⟨hp, ha⟩, next_b (s := s) (t := At q i n (j + 1) (m + 1) f d) he (by show byt s (j + 1) < 128; omega)]
    rfl
  · have hw := wAt_pos s j hl
    have hb1 := hb.step hl
    have hout : j + wAt s j ≤ e := by
      rcases hN.out hb with h | h | h <;> omega
    have hcond : ¬ (peek s (At q i n j m f d) = 42 ∧ acceptB cSlash s (next s (At q i n j m f d)) = true) := by
      rintro ⟨h1, h2⟩
      have h3 := peek_ascii (s := s) (t := At q i n j m f d) (c := 42) (by decide) h1
      have h3b : byt s j = 42 := h3.2
      rw [next_b (s := s) (t := At q i n j m f d) hl (by show byt s j < 128; omega)] at h2
      obtain ⟨_, b, hbm, e2⟩ := (accept_b (v := [47]) (by decide)).1 h2
      simp only [List.mem_cons, List.not_mem_nil, or_false] at hbm
      subst hbm
      exact hno j (Nat.le_refl _) (by omega) ⟨h3b, e2.symm⟩
    rw [if_neg hcond, next_in (s := s) (t := At q i n j m f d) hl]
    exact ih (e - (j + wAt s j)) (by omega) (j + wAt s j) (m + 1) e N rfl hb1 hout he h42 h47 (fun x h1 h2 => hno x (by omega) h2) hN
theorem multi_no {s : ByteArray} {q : Q} {i n : Nat} {f d : Bool} : ∀ (k j m : Nat), s.size - j = k → j ≤ s.size → (∀ x, j ≤ x → x + 1 < s.size → ¬ (byt s x = 42 ∧ byt s (x + 1) = 47)) → (multiRun s (At q i n j m f d)).1 = false := by
  intro k
  induction k using Nat.strongRecOn with
  | _ k ih =>
  intro j m hk hle hno
  rw [multiRun_eq]
  by_cases hj : j = s.size
  · rw [if_pos (peek_e (by show ¬ j < s.size; omega))]
  · have hl : j < s.size := by omega
    have hn1 : peek s (At q i n j m f d) ≠ -1 := by have := peek_nonneg (s := s) (t := At q i n j m f d) hl; omega
    have hw := wAt_pos s j hl
    have hwl := wAt_le s j hl
    have hcond : ¬ (peek s (At q i n j m f d) = 42 ∧ acceptB cSlash s (next s (At q i n j m f d)) = true) := by
      rintro ⟨h1, h2⟩
      have h3 := peek_ascii (s := s) (t := At q i n j m f d) (c := 42) (by decide) h1
      have h3b : byt s j = 42 := h3.2
      rw [next_b (s := s) (t := At q i n j m f d) hl (by show byt s j < 128; omega)] at h2
      obtain ⟨h4, b, hbm, e2⟩ := (accept_b (v := [47]) (by decide)).1 h2
      simp only [List.mem_cons, List.not_mem_nil, or_false] at hbm
      subst hbm
      exact hno j (Nat.le_refl _) h4 ⟨h3b, e2.symm⟩
    rw [if_neg hn1, if_neg hcond, next_in (s := s) (t := At q i n j m f d) hl]
    exact ih (s.size - (j + wAt s j)) (by omega) (j + wAt s j) (m + 1) rfl hwl (fun x h1 h2 => hno x (by omega) h2)
theorem out_multi {s : ByteArray} {i n j m e N : Nat} {f d : Bool} {l : List Tok} {u : St} (hb : Bd s j m) (hje : j ≤ e) (he : e + 1 < s.size) (h42 : byt s e = 42) (h47 : byt s (e + 1) = 47) (hno : ∀ x, j ≤ x → x < e → ¬ (byt s x = 42 ∧ byt s (x + 1) = 47)) (hN : Bd s e N)
    (ho : Out s (R (e + 2) (N + 2) f d) l u) : Out s (At .multiLine i n j m f d) l u := by
  refine out_to (t' := R (e + 2) (N + 2) f d) rfl ?_ rfl rfl ho
  have hst : state .multiLine s (At .multiLine i n j m f d) = (some .root, commit (At .multiLine i n (e + 2) (N + 2) f d)) := by
    show multiLine s _ = _
    unfold multiLine
    rw [multi_run (e - j) j m e N rfl hb hje he h42 h47 hno hN]
    rfl
  rw [step_some (q := .multiLine) rfl, hst]
  rfl
theorem out_multi_bad {s : ByteArray} {i n j m : Nat} {f d : Bool} (hle : j ≤ s.size) (hno : ∀ x, j ≤ x → x + 1 < s.size → ¬ (byt s x = 42 ∧ byt s (x + 1) = 47)) : ∃ u, Out s (At .multiLine i n j m f d) [] u ∧ u.err ≠ none := by
  have hm := multi_no (q := .multiLine) (i := i) (n := n) (f := f) (d := d) (s.size - j) j m rfl hle hno
  have he : (step s (At .multiLine i n j m f d)).err ≠ none := by
    rw [step_some (q := .multiLine) rfl]
    show (multiLine s _).2.err ≠ none
    unfold multiLine
    rw [if_neg (by rw [hm]; decide)]
    exact error_ne _
  exact ⟨_, .bad rfl he, he⟩

end Go.Proofs.YtdpdgppjeekcmaaFmt
