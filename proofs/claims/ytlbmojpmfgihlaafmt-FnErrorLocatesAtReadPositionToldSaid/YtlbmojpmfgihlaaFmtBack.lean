/-
  Where a read can be taken back; what the plain moves keep. No program stands in this text.
-/
import Derived.Test.YtlbmojpmfgihlaaFmtStates2
import Derived.Test.YtlbmojpmfgihlaaFmtDec3
namespace Go.Proofs.YtlbmojpmfgihlaaFmt
open Go Go.Lib

/-- The lexer stands at a boundary, the end not met. -/
structure Back (s : ByteArray) (t : St) : Prop where
  bd : Bd s t.eb t.er
  eof : t.eof = false
theorem Back.le {s : ByteArray} {t : St} (h : Back s t) : t.eb ≤ s.size := h.bd.le
theorem Back.er_le {s : ByteArray} {t : St} (h : Back s t) : t.er ≤ t.eb := h.bd.n_le
theorem Back.next {s : ByteArray} {t : St} (h : Back s t) (hl : t.eb < s.size) : Back s (Go.Proofs.YtlbmojpmfgihlaaFmt.next s t) := by
  rw [next_in hl]
  exact ⟨h.bd.step hl, h.eof⟩
theorem St.ext' {a b : St} (h1 : a.q = b.q) (h2 : a.sb = b.sb) (h3 : a.sr = b.sr) (h4 : a.eb = b.eb) (h5 : a.er = b.er) (h6 : a.eof = b.eof) (h7 : a.dis = b.dis) (h8 : a.err = b.err) (h9 : a.toks = b.toks) : a = b := by
  cases a; cases b
  simp only at h1 h2 h3 h4 h5 h6 h7 h8 h9
  subst h1; subst h2; subst h3; subst h4; subst h5; subst h6; subst h7; subst h8; subst h9
  rfl
theorem backup_next {s : ByteArray} {t : St} (h : Back s t) : backup s (next s t) = t := by
  by_cases hl : t.eb < s.size
  · have hr := last_read h.bd hl
    rw [next_in hl]
    unfold backup
    dsimp only
    rw [if_neg (by rw [h.eof]; decide), if_pos (by omega), hr]
    exact St.ext' rfl rfl rfl (by dsimp only; omega) (by dsimp only; omega) rfl rfl rfl rfl
  · rw [next_end hl]
    unfold backup
    dsimp only
    rw [if_pos rfl]
    exact St.ext' rfl rfl rfl rfl rfl h.eof.symm rfl rfl rfl

theorem alnumSkip_eq (s : ByteArray) (t : St) : alnumSkip s t = if alnum (peek s t) = true then alnumSkip s (next s t) else t := by
  rw [alnumSkip]
  by_cases h : alnum (peek s t) = true
  · have h2 : peek s t ≠ -1 := by intro e; rw [e, alnum_end] at h; exact absurd h (by decide)
    rw [dif_pos ⟨h, h2⟩, if_pos h]
  · rw [dif_neg (fun e => h e.1), if_neg h]
theorem alnum_in {s : ByteArray} {t : St} (h : alnum (peek s t) = true) : t.eb < s.size := peek_lt (by intro e; rw [e, alnum_end] at h; exact absurd h (by decide))
theorem alnumSkip_stop (s : ByteArray) (t : St) : alnum (peek s (alnumSkip s t)) = false := by
  fun_induction alnumSkip s t with
  | case1 t h ih => exact ih
  | case2 t h =>
    cases hh : alnum (peek s t) with
    | false => rfl
    | true =>
      exfalso
      exact h ⟨hh, fun e => by rw [e, alnum_end] at hh; exact absurd hh (by decide)⟩
theorem reads_alnumSkip (s : ByteArray) (t : St) : Reads s t (alnumSkip s t) := by
  fun_induction alnumSkip s t with
  | case1 t h ih => exact (reads_next s t).trans ih
  | case2 t h => exact Reads.refl s t
theorem back_alnumSkip {s : ByteArray} {t : St} (h : Back s t) : Back s (alnumSkip s t) := by
  fun_induction alnumSkip s t with
  | case1 t hh ih => exact ih (h.next (alnum_in hh.1))
  | case2 t hh => exact h
theorem back_accept {v s : ByteArray} {t : St} (h : Back s t) : Back s (accept v s t) := by
  unfold accept
  split
  · rename_i hh
    exact h.next (peek_lt (has_ne hh))
  · exact h
theorem back_acceptRun {v s : ByteArray} {t : St} (h : Back s t) : Back s (acceptRun v s t) := by
  fun_induction acceptRun v s t with
  | case1 t hh ih => exact ih (h.next (peek_lt (has_ne hh)))
  | case2 t hh => exact h
theorem back_commit {s : ByteArray} {t : St} (h : Back s t) : Back s (commit t) := ⟨h.bd, h.eof⟩
theorem back_emitV {s k v : ByteArray} {t : St} (h : Back s t) : Back s (emitV k v t) := ⟨h.bd, h.eof⟩
theorem back_emit {s k : ByteArray} {t : St} (h : Back s t) : Back s (emit k s t) := ⟨h.bd, h.eof⟩

theorem lineRun_eq (s : ByteArray) (t : St) : lineRun s t = if peek s t = -1 ∨ peek s t = 10 then next s t else lineRun s (next s t) := by
  rw [lineRun]
  split <;> rfl
theorem multiRun_eq (s : ByteArray) (t : St) : multiRun s t = if peek s t = -1 then (false, next s t) else if peek s t = 42 ∧ acceptB cSlash s (next s t) = true then (true, next s (next s t)) else multiRun s (next s t) := by
  rw [multiRun]
  split <;> rfl
theorem reads_lineRun (s : ByteArray) (t : St) : Reads s t (lineRun s t) := by
  fun_induction lineRun s t with
  | case1 t h => exact reads_next s t
  | case2 t h ih => exact (reads_next s t).trans ih
theorem reads_multiRun (s : ByteArray) (t : St) : Reads s t (multiRun s t).2 := by
  fun_induction multiRun s t with
  | case1 t h => exact reads_next s t
  | case2 t h h2 => exact (reads_next s t).trans (reads_next s _)
  | case3 t h h2 ih => exact (reads_next s t).trans ih

end Go.Proofs.YtlbmojpmfgihlaaFmt
