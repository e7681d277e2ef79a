/-
  What a lexer's step keeps: number, not, the scanners of quoted texts, root; every step. No program stands in this text.
-/
import Derived.Test.YtlbmojpmfgihlaaFmtGood
import Derived.Test.YtlbmojpmfgihlaaFmtWay
namespace Go.Proofs.YtlbmojpmfgihlaaFmt
open Go Go.Lib

/-! ### number -/
theorem back_numPre {s : ByteArray} {t : St} (h : Back s t) : Back s (numPre s t).2 := by
  unfold numPre
  split
  · rename_i h0
    have b1 := h.next (peek_lt (has_ne h0))
    split
    · rename_i h1; exact b1.next (peek_lt (has_ne h1))
    · split
      · rename_i h1; exact b1.next (peek_lt (has_ne h1))
      · split
        · rename_i h1; exact b1.next (peek_lt (has_ne h1))
        · exact b1
  · exact h
theorem er_numPre {s : ByteArray} {t : St} : t.er ≤ (numPre s t).2.er := by
  unfold numPre
  repeat' split
  all_goals first | exact Nat.le_trans reads_er reads_er | exact reads_er | exact Nat.le_refl _
theorem back_numEnd {d s : ByteArray} {t : St} (h : Back s t) (hb : (numEnd d s t).1 = true) : Back s (numEnd d s t).2 := by
  have key : ∀ x, Back s x → (if alnum (peek s x) = true then (false, next s x) else (true, x)).1 = true → Back s (if alnum (peek s x) = true then (false, next s x) else (true, x)).2 := by
    intro x hx hb
    split at hb
    · cases hb
    · rename_i h2
      rw [if_neg h2]
      exact hx
  refine key _ ?_ hb
  split
  · rename_i h1
    exact back_acceptRun (back_accept (h.next (peek_lt (has_ne h1))))
  · exact h
theorem er_numEnd {d s : ByteArray} {t : St} : t.er ≤ (numEnd d s t).2.er := by
  have key : ∀ x : St, t.er ≤ x.er → t.er ≤ (if alnum (peek s x) = true then (false, next s x) else (true, x)).2.er := by
    intro x hx
    split
    · exact Nat.le_trans hx reads_er
    · exact hx
  refine key _ ?_
  split
  · exact Nat.le_trans reads_er (Nat.le_trans (accept_er _ _ _) (acceptRun_er_ge _ _ _))
  · exact Nat.le_refl _
theorem back_numFrac {d s : ByteArray} {t : St} (h : Back s t) (hb : (numFrac d s t).1 = true) : Back s (numFrac d s t).2 := by
  unfold numFrac at hb ⊢
  split
  · rename_i h1
    rw [if_pos h1] at hb
    have b1 := h.next (peek_lt (has_ne h1))
    split
    · exact ⟨h.bd, b1.eof⟩
    · rename_i h2
      rw [if_neg h2] at hb
      exact back_numEnd (back_acceptRun b1) hb
  · rename_i h1
    rw [if_neg h1] at hb
    exact back_numEnd h hb
theorem er_numFrac {d s : ByteArray} {t : St} : t.er ≤ (numFrac d s t).2.er := by
  unfold numFrac
  split
  · split
    · exact Nat.le_refl _
    · exact Nat.le_trans reads_er (Nat.le_trans (acceptRun_er_ge _ _ _) er_numEnd)
  · exact er_numEnd
theorem er_number {s : ByteArray} {t : St} (h1 : 48 ≤ peek s t) (h2 : peek s t ≤ 57) : t.er < (scanNumber s t).2.er := by
  have hl : t.eb < s.size := peek_lt (by omega)
  unfold scanNumber
  refine Nat.lt_of_lt_of_le ?_ er_numFrac
  by_cases h0 : acceptB c0 s t = true
  · refine Nat.lt_of_lt_of_le ?_ (acceptRun_er_ge _ _ _)
    have hn := next_er hl
    have hn2 : (next s t).er ≤ (next s (next s t)).er := reads_er
    unfold numPre
    rw [if_pos h0]
    repeat' split
    all_goals (show t.er < _; dsimp only; omega)
  · have hpre : numPre s t = (dDec, t) := by unfold numPre; rw [if_neg h0]
    rw [hpre]
    show t.er < (acceptRun dDec s t).er
    have ha : acceptB dDec s t = true := by
      have h3 := has_bs [48, 49, 50, 51, 52, 53, 54, 55, 56, 57, 95] (by decide) (peek s t)
      have e : bs [48, 49, 50, 51, 52, 53, 54, 55, 56, 57, 95] = dDec := rfl
      rw [e] at h3
      unfold acceptB
      rw [h3]
      simp
      omega
    rw [acceptRun]
    have ha' : has dDec (peek s t) = true := ha
    rw [dif_pos ha']
    have hn := next_er hl
    have := acceptRun_er_ge dDec s (next s t)
    omega
theorem good_number {s : ByteArray} {t : St} (h : Good s .number t) (he : t.err = none) : Steps s t (number s t).1 (number s t).2 := by
  have hb := h.back (by decide)
  obtain ⟨h1, h2⟩ := h.number rfl
  have hr := reads_scanNumber s t
  have hg := er_number h1 h2
  unfold number
  split
  · rename_i hh
    have hb1 : Back s (scanNumber s t).2 := back_numFrac (back_acceptRun (back_numPre hb)) hh
    exact steps_emit knum_ne h.bs hb1 hr.sb hr.sr hr.toks (hr.err.trans he) hr.dis (Nat.lt_of_le_of_lt h.le hg) hr.ge
  · exact .err (error_ne _)

/-! ### not -/
theorem joins_ne {v : ByteArray} (h : notJoins v = true) : v ≠ ⟨#[]⟩ := by
  intro e
  subst e
  exact absurd h (by decide)
theorem good_not {s : ByteArray} {t : St} (h : Good s .not t) (he : t.err = none) : Steps s t (not s t).1 (not s t).2 := by
  have hb := h.back (by decide)
  have hlt := h.later (.inl rfl)
  obtain ⟨tn, htn⟩ : ∃ x, notAt s t = x := ⟨_, rfl⟩
  have hra := acceptRun_rest ⟨#[32]⟩ s (emit kOperator s t)
  have hgs := acceptRun_er_ge ⟨#[32]⟩ s (emit kOperator s t)
  have hge0 := (reads_acceptRun ⟨#[32]⟩ s (emit kOperator s t)).ge
  have hbn : Back s tn := by rw [← htn]; exact back_commit (back_acceptRun (back_emit hb))
  have e1 : tn.toks = t.toks ++ [⟨t.sr, t.er, kOperator, word s t⟩] := by rw [← htn]; exact hra.2.2.1
  have e2 : tn.sb = tn.eb ∧ tn.sr = tn.er := by rw [← htn]; exact ⟨rfl, rfl⟩
  have e3 : tn.err = none := by rw [← htn]; exact hra.2.2.2.1.trans he
  have e4 : tn.dis = t.dis := by rw [← htn]; exact hra.2.2.2.2.2.1
  have e5 : t.er ≤ tn.er := by rw [← htn]; exact hgs
  have e6 : t.eb ≤ tn.eb := by rw [← htn]; exact hge0
  have h1 := emit_tok (t := t) (t1 := t) (k := kOperator) kop_ne h.bs h.bd rfl rfl hlt
  have hr := reads_alnumSkip s tn
  have hb1 := back_alnumSkip hbn
  unfold not
  rw [htn]
  split
  · rename_i hj
    have hlt2 : tn.er < (alnumSkip s tn).er := by
      by_cases hh : tn.er < (alnumSkip s tn).er
      · exact hh
      · exfalso
        have h2 : (alnumSkip s tn).er = tn.er := by have := alnumSkip_er s tn; omega
        have hbd := hb1.bd
        rw [h2] at hbd
        have h3 := hbd.inj hbn.bd
        apply joins_ne hj
        unfold word
        rw [h3, hr.sb, e2.1]
        apply ByteArray.ext
        simp
    have h2 := emit_tok (t := tn) (t1 := alnumSkip s tn) (k := kOperator) kop_ne (by rw [e2.1, e2.2]; exact hbn.bd) hb1.bd hr.sb hr.sr (by omega)
    refine .go _ (hr.err.trans e3) (by show (alnumSkip s tn).toks ++ [_] = _; rw [hr.toks, e1, List.append_assoc]) (by simp) (((Tiled.one h1).weak (Nat.le_refl _) (show t.er ≤ tn.sr by omega)).append (Tiled.one h2)) ?_ (hr.dis.trans e4) (by have := hr.ge; show t.eb ≤ (alnumSkip s tn).eb; omega)
    exact ⟨hb1.bd, hb1.bd, Nat.le_refl _, (fun e => by have := hb1.eof; change (alnumSkip s tn).eof = true at e; rw [this] at e; cases e), fun _ => ⟨rfl, rfl⟩, (fun h => by cases h), (fun h => by cases h), (fun h => by cases h), (fun h => by rcases h with h | h | h | h <;> cases h)⟩
  · dsimp only
    refine .go _ e3 e1 (by simp) ((Tiled.one h1).weak (Nat.le_refl _) (by omega)) ?_ e4 e6
    exact ⟨hbn.bd, by rw [e2.1, e2.2]; exact hbn.bd, by omega, (fun e => by rw [hbn.eof] at e; cases e), fun _ => e2, (fun h => by cases h), (fun h => by cases h), (fun h => by cases h), (fun h => by rcases h with h | h | h | h <;> cases h)⟩

/-! ### the scanners of quoted texts -/
/-- Reads from t on; ch is the last that was read. -/
structure Scan (s : ByteArray) (t : St) (ch : Int) (t' : St) : Prop where
  q : t'.q = t.q
  dis : t'.dis = t.dis
  toks : t'.toks = t.toks
  sb : t'.sb = t.sb
  sr : t'.sr = t.sr
  er : t.er ≤ t'.er
  ge : t.eb ≤ t'.eb
  edge : Edge s t → Edge s t'
  le : t.eb ≤ s.size → t'.eb ≤ s.size
  live : t'.err = none → t.err = none ∧ (t.eof = false → ch ≠ -1 → t'.eof = false)
theorem scan_next (s : ByteArray) (t : St) : Scan s t (peek s t) (next s t) := by
  have h := reads_next s t
  refine ⟨h.q, h.dis, h.toks, h.sb, h.sr, reads_er, h.ge, Edge.next, h.le, fun e => ⟨by rw [← h.err]; exact e, fun he hp => ?_⟩⟩
  rw [next_in (peek_lt hp)]
  exact he
theorem error_same (t : St) : (error t).q = t.q ∧ (error t).dis = t.dis ∧ (error t).toks = t.toks ∧ (error t).sb = t.sb ∧ (error t).sr = t.sr ∧ (error t).er = t.er ∧ (error t).eb = t.eb ∧ (error t).eof = t.eof := by
  unfold error
  split <;> exact ⟨rfl, rfl, rfl, rfl, rfl, rfl, rfl, rfl⟩
theorem Scan.error {s : ByteArray} {t t1 : St} {c : Int} (h : Scan s t c t1) (c' : Int) : Scan s t c' (Go.Proofs.YtlbmojpmfgihlaaFmt.error t1) := by
  obtain ⟨a1, a2, a3, a4, a5, a6, a7, a8⟩ := error_same t1
  exact ⟨a1.trans h.q, a2.trans h.dis, a3.trans h.toks, a4.trans h.sb, a5.trans h.sr, by rw [a6]; exact h.er, by rw [a7]; exact h.ge, fun e => ⟨by rw [a6, a7]; exact (h.edge e).bd, fun x => by rw [a7]; exact (h.edge e).eof (by rw [← a8]; exact x)⟩, fun e => by rw [a7]; exact h.le e, fun e => absurd e (error_ne t1)⟩
theorem Scan.next {s : ByteArray} {t t1 : St} {c : Int} (h : Scan s t c t1) (hc : c ≠ -1) : Scan s t (peek s t1) (Go.Proofs.YtlbmojpmfgihlaaFmt.next s t1) := by
  have k := scan_next s t1
  exact ⟨k.q.trans h.q, k.dis.trans h.dis, k.toks.trans h.toks, k.sb.trans h.sb, k.sr.trans h.sr, Nat.le_trans h.er k.er, Nat.le_trans h.ge k.ge, fun e => k.edge (h.edge e), fun e => k.le (h.le e), fun e => ⟨(h.live (k.live e).1).1, fun he hp => (k.live e).2 ((h.live (k.live e).1).2 he hc) hp⟩⟩
theorem digitVal_end : digitVal (-1) = 16 := by decide
theorem scan_digits (s : ByteArray) (base : Int) (hb : base ≤ 16) {t0 : St} : ∀ (n : Nat) (ch : Int) (t : St), Scan s t0 ch t → Scan s t0 (scanDigits s base n ch t).1 (scanDigits s base n ch t).2
  | 0, _, _, h => h
  | n + 1, ch, t, h => by
    unfold scanDigits
    split
    · rename_i hd
      exact scan_digits s base hb n _ _ (h.next (by intro e; rw [e, digitVal_end] at hd; omega))
    · exact h.error _
theorem scan_braces (s : ByteArray) {t0 : St} : ∀ (f d : Nat) (t : St) (c : Int), c ≠ -1 → Scan s t0 c t → 7 ≤ f + d → Scan s t0 (braces s f d t).1 (braces s f d t).2
  | 0, d, t, c, hc, h, hd => by
    unfold braces
    exact ⟨h.q, h.dis, h.toks, h.sb, h.sr, h.er, h.ge, h.edge, h.le, fun e => ⟨(h.live e).1, fun _ x => absurd rfl x⟩⟩
  | f + 1, d, t, c, hc, h, hd => by
    unfold braces
    split
    · rename_i hp
      split
      · exact h.error _
      · exact (h.next hc).next (by rw [hp]; decide)
    · split
      · exact h.error _
      · rename_i hd16
        split
        · exact h.error _
        · exact scan_braces s f (d + 1) _ (peek s t) (by intro e; rw [e, digitVal_end] at hd16; exact hd16 (Int.le_refl _)) (h.next hc) (by omega)
theorem scan_escape (s : ByteArray) (quote : Int) (hq : quote ≠ -1) {t0 t : St} {c : Int} (hc : c ≠ -1) (h : Scan s t0 c t) : Scan s t0 (scanEscape s quote t).1 (scanEscape s quote t).2 := by
  have h1 := h.next hc
  unfold scanEscape
  dsimp only
  split
  · rename_i hh
    refine h1.next ?_
    intro e
    rw [e] at hh
    have : ¬ (-1 = quote) := fun e => hq e.symm
    simp [isSimple, this] at hh
  · split
    · rename_i hh
      exact scan_digits s 8 (by decide) 3 _ _ h1
    · split
      · rename_i hh
        exact scan_digits s 16 (by decide) 2 _ _ (h1.next (by rw [hh]; decide))
      · split
        · rename_i hh
          split
          · rename_i hp
            exact scan_braces s 7 0 _ (peek s (next s t)) (by rw [hp]; decide) (h1.next (by rw [hh]; decide)) (by omega)
          · exact scan_digits s 16 (by decide) 4 _ _ (h1.next (by rw [hh]; decide))
        · split
          · rename_i hh
            exact scan_digits s 16 (by decide) 8 _ _ (h1.next (by rw [hh]; decide))
          · exact h1.error _
theorem scan_str (s : ByteArray) (quote : Int) (hq : quote ≠ -1) {t0 : St} (n : Nat) (ch : Int) (t : St) (h : Scan s t0 ch t) : Scan s t0 quote (scanStr s quote hq n ch t).2 := by
  rw [scanStr]
  split
  · rename_i e
    rw [← e]
    exact h
  · split
    · exact h.error _
    · rename_i hne
      have hc : ch ≠ -1 := fun e => hne (.inr e)
      split
      · exact scan_str s quote hq _ _ _ (scan_escape s quote hq hc h)
      · exact scan_str s quote hq _ _ _ (h.next hc)
termination_by togo s ch t
decreasing_by
  all_goals first
    | exact togo_escape s quote ch t hq hc
    | exact togo_next s ch t hc
theorem scan_string (s : ByteArray) (quote : Int) (hq : quote ≠ -1) (t : St) : Scan s t quote (scanString s quote hq t).2 := scan_str s quote hq 0 _ _ (scan_next s t)
theorem scan_rawGo (s : ByteArray) (quote : Int) (hq : quote ≠ -1) {t0 : St} (n e : Nat) (ch : Int) (t : St) (h : Scan s t0 ch t) : Scan s t0 quote (rawGo s quote n e ch t).2.2.2 ∧ ((rawGo s quote n e ch t).2.2.1 = false → (rawGo s quote n e ch t).2.2.2.err ≠ none) := by
  rw [rawGo]
  split
  · rename_i hh
    exact scan_rawGo s quote hq _ _ _ _ ((h.next hh.2.2).next (by rw [hh.2.1]; exact hq))
  · split
    · rename_i e
      rw [← e]
      exact ⟨h, (fun x => by cases x)⟩
    · split
      · exact ⟨h.error _, fun _ => error_ne _⟩
      · rename_i hne
        exact scan_rawGo s quote hq _ _ _ _ (h.next hne)
termination_by togo s ch t
decreasing_by
  all_goals first
    | (have hh : ch = quote ∧ peek s t = quote ∧ ch ≠ -1 := by assumption
       exact Nat.lt_trans (togo_next s _ _ (by rw [hh.2.1, ← hh.1]; exact hh.2.2)) (togo_next s ch t hh.2.2))
    | exact togo_next s ch t (by assumption)

/-! ### root -/
/-- A token of a value, back to root. -/
theorem steps_emitV {s k v : ByteArray} {t t1 : St} (hk : k = kString ∨ k = kBytes) (h0 : Bd s t.sb t.sr) (h1 : Back s t1) (hs : t1.sb = t.sb) (hr : t1.sr = t.sr) (htk : t1.toks = t.toks) (he : t1.err = none) (hd : t1.dis = t.dis) (hlt : t.sr < t1.er) (hge : t.eb ≤ t1.eb) : Steps s t (some .root) (emitV k v t1) := by
  have hk2 : k ≠ kEOF := by rcases hk with rfl | rfl <;> decide
  refine .go [⟨t1.sr, t1.er, k, v⟩] he (by show t1.toks ++ [_] = _; rw [htk]) (by simp) (Tiled.one ⟨by rw [hr], rfl, hlt, hk2, ⟨t.sb, t1.eb, h0, h1.bd, by rcases hk with h | h; exact .inl h; exact .inr (.inl h)⟩⟩) ?_ hd hge
  exact ⟨h1.bd, h1.bd, Nat.le_refl _, (fun h => by have := h1.eof; change t1.eof = true at h; rw [this] at h; cases h), fun _ => ⟨rfl, rfl⟩, (fun h => by cases h), (fun h => by cases h), (fun h => by cases h), (fun h => by rcases h with h | h | h | h <;> cases h)⟩
theorem good_str {one : ByteArray → Option (Int × Bool × Nat)} {s k : ByteArray} {o : Nat} {quote : Int} {hq : quote ≠ -1} {t t1 : St} (hk : k = kString ∨ k = kBytes) (h0 : Bd s t.sb t.sr) (hb : Back s t1) (hs : t1.sb = t.sb) (hr : t1.sr = t.sr) (htk : t1.toks = t.toks) (hd : t1.dis = t.dis) (hlt : t.sr < t1.er) (hge : t.eb ≤ t1.eb) : Steps s t (some .root) (rootStr one k o s quote hq t1) := by
  have hsc := scan_string s quote hq t1
  unfold rootStr
  dsimp only
  by_cases hu : (unesc one ((word s (scanString s quote hq t1).2).extract o (word s (scanString s quote hq t1).2).size)).1 = true
  · rw [if_pos hu]
    by_cases he : (scanString s quote hq t1).2.err = none
    · have hb2 : Back s (scanString s quote hq t1).2 := ⟨(hsc.edge hb.edge).bd, (hsc.live he).2 hb.eof hq⟩
      exact steps_emitV hk h0 hb2 (hsc.sb.trans hs) (hsc.sr.trans hr) (hsc.toks.trans htk) he (hsc.dis.trans hd) (Nat.lt_of_lt_of_le hlt hsc.er) (Nat.le_trans hge hsc.ge)
    · exact .err he
  · rw [if_neg hu]
    exact .err (error_ne _)

theorem good_to {s : ByteArray} {q : Q} {t : St} (h : Good s .root t) (hl : t.eb < s.size) (he : t.err = none) (hq : q = .number ∨ q = .dot ∨ q = .identifier) (h1 : q = .number → 48 ≤ peek s t ∧ peek s t ≤ 57) (h2 : q = .dot → peek s t = 46) (h3 : q = .identifier → alnum (peek s t) = true) : Steps s t (some q) t := by
  have hb := h.backRoot hl
  have hr := h.root rfl
  refine .go [] he (by simp) (by simp) (.nil (Nat.le_refl _)) ?_ rfl (Nat.le_refl _)
  refine ⟨h.bd, h.bs, h.le, fun e => by (rw [hb.eof] at e; cases e), fun e => by (subst e; rcases hq with h | h | h <;> cases h), h1, fun e => ⟨h2 e, hr.2⟩, fun e => ⟨h3 e, hr.2⟩, fun e => ?_⟩
  rcases hq with rfl | rfl | rfl <;> rcases e with h | h | h | h <;> cases h
theorem good_after {s : ByteArray} {q : Q} {t : St} (h : Good s .root t) (hl : t.eb < s.size) (he : t.err = none) (hq : q = .questionMark ∨ q = .slash ∨ q = .pointer) : Steps s t (some q) (next s t) := by
  have hb := (h.backRoot hl).next hl
  have hr := reads_next s t
  have hn := next_er hl
  have h0 := h.le
  refine .go [] (hr.err.trans he) (by rw [hr.toks]; simp) (by simp) (.nil (by rw [hr.sr]; exact Nat.le_refl _)) ?_ hr.dis hr.ge
  refine ⟨hb.bd, by rw [hr.sb, hr.sr]; exact h.bs, by rw [hr.sr]; omega, fun e => by (rw [hb.eof] at e; cases e), fun e => ?_, fun e => ?_, fun e => ?_, fun e => ?_, fun _ => by rw [hr.sr]; omega⟩
  all_goals (subst e; rcases hq with h | h | h <;> cases h)
theorem good_root {s : ByteArray} {t : St} (h : Good s .root t) (he : t.err = none) : Steps s t (root s t).1 (root s t).2 := by
  have hse := h.root rfl
  by_cases c0 : peek s t = -1
  · have hl : ¬ t.eb < s.size := fun hl => by have := peek_nonneg hl; omega
    have hsz : t.eb = s.size := by have := h.bd.le; omega
    have hroot : root s t = (none, emitEOF (next s t)) := by unfold root; rw [if_pos c0]
    rw [hroot]
    dsimp only
    rw [next_end hl]
    exact .fin he rfl hsz rfl rfl rfl rfl rfl
  have hw := root_way s t
  generalize root s t = p at hw
  have hl : t.eb < s.size := peek_lt c0
  have hb := h.backRoot hl
  have hb1 := hb.next hl
  have hr := reads_next s t
  have hn := next_er hl
  have hem : ∀ k, k ≠ kEOF → Steps s t (some .root) (emit k s (next s t)) := fun k hk => steps_emit hk h.bs hb1 hr.sb hr.sr hr.toks (hr.err.trans he) hr.dis (by omega) hr.ge
  have hea : ∀ k v, k ≠ kEOF → Steps s t (some .root) (emit k s (accept v s (next s t))) := fun k v hk => by
    have hr2 := hr.trans (reads_accept v s (next s t))
    have := accept_er v s (next s t)
    exact steps_emit hk h.bs (back_accept hb1) hr2.sb hr2.sr hr2.toks (hr2.err.trans he) hr2.dis (by omega) hr2.ge
  cases hw with
  | eof c => exact absurd c c0
  | space _ _ => exact steps_skip hb1.edge hr he (by omega)
  | str1 _ _ => exact good_str (.inl rfl) h.bs hb1 hr.sb hr.sr hr.toks hr.dis (by omega) hr.ge
  | str2 _ _ => exact good_str (.inl rfl) h.bs hb1 hr.sb hr.sr hr.toks hr.dis (by omega) hr.ge
  | raw _ _ =>
    have hg := scan_rawGo s 96 (by decide) 0 0 _ _ (scan_next s (next s t))
    unfold scanRaw
    generalize rawGo s 96 0 0 (peek s (next s t)) (next s (next s t)) = g at hg
    obtain ⟨n, e, b, t2⟩ := g
    dsimp only at hg
    cases b with
    | false => exact .err (hg.2 rfl)
    | true =>
      have hsc := hg.1
      dsimp only
      by_cases he2 : t2.err = none
      · have hb2 : Back s t2 := ⟨(hsc.edge hb1.edge).bd, (hsc.live he2).2 hb1.eof (by decide)⟩
        have := hsc.er
        exact steps_emitV (.inl rfl) h.bs hb2 (hsc.sb.trans hr.sb) (hsc.sr.trans hr.sr) (hsc.toks.trans hr.toks) he2 (hsc.dis.trans hr.dis) (by omega) (Nat.le_trans hr.ge hsc.ge)
      · exact .err he2
  | byt1 _ hq =>
    have hl1 : (next s t).eb < s.size := peek_lt (by rw [hq.2]; decide)
    have hr2 := hr.trans (reads_next s (next s t))
    have hn2 := next_er hl1
    exact good_str (.inr rfl) h.bs (hb1.next hl1) hr2.sb hr2.sr hr2.toks hr2.dis (by omega) hr2.ge
  | byt2 _ hq =>
    have hl1 : (next s t).eb < s.size := peek_lt (by rw [hq.2]; decide)
    have hr2 := hr.trans (reads_next s (next s t))
    have hn2 := next_er hl1
    exact good_str (.inr rfl) h.bs (hb1.next hl1) hr2.sb hr2.sr hr2.toks hr2.dis (by omega) hr2.ge
  | digit _ hd => exact good_to h hl he (.inl rfl) (fun _ => hd) (fun e => by cases e) (fun e => by cases e)
  | quest _ _ => exact good_after h hl he (.inl rfl)
  | slash _ _ => exact good_after h hl he (.inr (.inl rfl))
  | hash _ _ => exact good_after h hl he (.inr (.inr rfl))
  | bar _ _ => exact hea _ _ kop_ne
  | colon _ _ => exact hea _ _ kop_ne
  | open_ _ _ => exact hem _ kbr_ne
  | shut _ _ => exact hem _ kbr_ne
  | one _ _ => exact hem _ kop_ne
  | two _ _ => exact hea _ _ kop_ne
  | dot _ hd => exact good_to h hl he (.inr (.inl rfl)) (fun e => by cases e) (fun _ => hd) (fun e => by cases e)
  | ident _ hd => exact good_to h hl he (.inr (.inr rfl)) (fun e => by cases e) (fun e => by cases e) (fun _ => hd)
  | bad _ => exact .err (error_ne _)

theorem good_state {s : ByteArray} {q : Q} {t : St} (h : Good s q t) (he : t.err = none) : Steps s t (state q s t).1 (state q s t).2 := by
  cases q with
  | root => exact good_root h he
  | number => exact good_number h he
  | questionMark => exact good_questionMark h he
  | slash => exact good_slash h he
  | pointer => exact good_pointer h he
  | dot => exact good_dot h he
  | identifier => exact good_identifier h he
  | not => exact good_not h he
  | singleLine => exact good_singleLine h he
  | multiLine => exact good_multiLine h he

end Go.Proofs.YtlbmojpmfgihlaaFmt
