/-
  Walks: the states questionMark, slash, singleLineComment, multiLineComment, dot.
-/
import Derived.Test.YtkplkccjeacniaaGreatFmtAccs
import Derived.Test.YtkplkccjeacniaaGreatFmtJA
import Derived.Test.YtkplkccjeacniaaGreatFmtEmitA
import Derived.Test.YtkplkccjeacniaaGreatFmtErr
namespace Go.Proofs.YtkplkccjeacniaaGreatFmt
open Go Go.Lib Go.RowKit Go.Proofs
open Go.Extern.Stop Go.Stop Go.Extern

theorem accept_toks (v s : ByteArray) (t : St) : (accept v s t).toks = t.toks := (reads_accept v s t).toks

set_option maxRecDepth 100000 in
theorem questionMark_any {W0 w : World} {S : Nat → Prop} {L : Nat} {s : ByteArray} {t : St} (H : Lx W0 S w L s t) (hle : t.eb ≤ s.size) (hn : t.toks.length ≤ 9) :
    Calls Tryz.prog 51 #[.pointer (some ⟨L, 0, none⟩)] w fun e w' => e = .returned (qVal (questionMark s t).1) ∧ Done W0 S w L s (questionMark s t).2 w' := by
  have A0 := Acc.refl S w
  go_enter Tryz.func51, Tryz.ntmps51
  go_wp2_with fail
  refine (accept_any (v := cQd) H).mono ?_
  rintro e w1 ⟨rfl, S1, hS1, H1, hf1⟩
  have A1 := Acc.step A0 hS1 hf1
  go_wp2_with fail
  refine (emit_any H1 ((reads_accept _ s t).le hle) (by rw [accept_toks]; exact hn) kOperator).mono ?_
  rintro e w2 ⟨rfl, S2, hS2, H2, hf2⟩
  have A2 := Acc.step A1 hS2 hf2
  go_wp2_with fail
  go_ret
  exact ⟨rfl, A2.done H2⟩

set_option maxRecDepth 100000 in
theorem slash_any {W0 w : World} {S : Nat → Prop} {L : Nat} {s : ByteArray} {t : St} (H : Lx W0 S w L s t) (hle : t.eb ≤ s.size) (hn : t.toks.length ≤ 9) :
    Calls Tryz.prog 52 #[.pointer (some ⟨L, 0, none⟩)] w fun e w' => e = .returned (qVal (slash s t).1) ∧ Done W0 S w L s (slash s t).2 w' := by
  have A0 := Acc.refl S w
  cases h1 : acceptB cSlash s t with
  | true =>
    have hst : slash s t = (some .singleLine, next s t) := by unfold slash; rw [h1]; rfl
    rw [hst]
    have B1 := Lib.hid h1
    clear h1 hst
    go_enter Tryz.func52, Tryz.ntmps52
    go_wp2_with fail
    refine (accept_any (v := cSlash) H).mono ?_
    rintro e w1 ⟨rfl, S1, hS1, H1, hf1⟩
    have A1 := Acc.step A0 hS1 hf1
    rw [B1.out]
    rw [accept_t B1.out] at H1
    go_wp2_with fail
    go_ret
    exact ⟨rfl, A1.done H1⟩
  | false =>
    cases h2 : acceptB cStar s t with
    | true =>
      have hst : slash s t = (some .multiLine, next s t) := by unfold slash; rw [h1, h2]; rfl
      rw [hst]
      have B1 := Lib.hid h1
      have B2 := Lib.hid h2
      clear h1 h2 hst
      go_enter Tryz.func52, Tryz.ntmps52
      go_wp2_with fail
      refine (accept_any (v := cSlash) H).mono ?_
      rintro e w1 ⟨rfl, S1, hS1, H1, hf1⟩
      have A1 := Acc.step A0 hS1 hf1
      rw [B1.out]
      rw [accept_f B1.out] at H1
      go_wp2_with fail
      refine (accept_any (v := cStar) H1).mono ?_
      rintro e w2 ⟨rfl, S2, hS2, H2, hf2⟩
      have A2 := Acc.step A1 hS2 hf2
      rw [B2.out]
      rw [accept_t B2.out] at H2
      go_wp2_with fail
      go_ret
      exact ⟨rfl, A2.done H2⟩
    | false =>
      have hst : slash s t = (some .root, emit kOperator s t) := by unfold slash; rw [h1, h2]; rfl
      rw [hst]
      have B1 := Lib.hid h1
      have B2 := Lib.hid h2
      clear h1 h2 hst
      go_enter Tryz.func52, Tryz.ntmps52
      go_wp2_with fail
      refine (accept_any (v := cSlash) H).mono ?_
      rintro e w1 ⟨rfl, S1, hS1, H1, hf1⟩
      have A1 := Acc.step A0 hS1 hf1
      rw [B1.out]
      rw [accept_f B1.out] at H1
      go_wp2_with fail
      refine (accept_any (v := cStar) H1).mono ?_
      rintro e w2 ⟨rfl, S2, hS2, H2, hf2⟩
      have A2 := Acc.step A1 hS2 hf2
      rw [B2.out]
      rw [accept_f B2.out] at H2
      go_wp2_with fail
      refine (emit_any H2 hle hn kOperator).mono ?_
      rintro e w3 ⟨rfl, S3, hS3, H3, hf3⟩
      have A3 := Acc.step A2 hS3 hf3
      go_wp2_with fail
      go_ret
      exact ⟨rfl, A3.done H3⟩

set_option maxRecDepth 100000 in
theorem dot_any {W0 w : World} {S : Nat → Prop} {L : Nat} {s : ByteArray} {t : St} (H : Lx W0 S w L s t) (hB : Back s t) (hl : t.eb < s.size) (hn : t.toks.length ≤ 9) :
    Calls Tryz.prog 57 #[.pointer (some ⟨L, 0, none⟩)] w fun e w' => e = .returned (qVal (dot s t).1) ∧ Done W0 S w L s (dot s t).2 w' := by
  have A0 := Acc.refl S w
  have hB1 := hB.next hl
  have hr1 := reads_next s t
  cases h1 : acceptB cDig s (next s t) with
  | true =>
    have hst : dot s t = (some .number, next s t) := by unfold dot; rw [h1]; rfl
    have hl1 : (next s t).eb < s.size := peek_lt (has_ne h1)
    have hbk := backup_next hB1
    rw [hst]
    have B1 := Lib.hid h1
    have Bk := Lib.hid hbk
    clear h1 hst hbk
    go_enter Tryz.func57, Tryz.ntmps57
    go_wp2_with fail
    refine (next_any H).mono ?_
    rintro e w1 ⟨rfl, S1, hS1, H1, hf1⟩
    have A1 := Acc.step A0 hS1 hf1
    go_wp2_with fail
    refine (accept_any (v := cDig) H1).mono ?_
    rintro e w2 ⟨rfl, S2, hS2, H2, hf2⟩
    have A2 := Acc.step A1 hS2 hf2
    rw [B1.out]
    rw [accept_t B1.out] at H2
    go_wp2_with fail
    refine (backup_any H2 (next_le hB1.le) (by rw [Bk.out, (next_same s (next s t)).1, (next_same s (next s t)).2.1]; have := H1.poss; omega)).mono ?_
    rintro e w3 ⟨rfl, S3, hS3, H3, hf3⟩
    have A3 := Acc.step A2 hS3 hf3
    rw [Bk.out] at H3
    go_wp2_with fail
    go_ret
    exact ⟨rfl, A3.done H3⟩
  | false =>
    have hst : dot s t = (some .root, emit kOperator s (accept cDot s (next s t))) := by unfold dot; rw [h1]; rfl
    rw [hst]
    have B1 := Lib.hid h1
    clear h1 hst
    go_enter Tryz.func57, Tryz.ntmps57
    go_wp2_with fail
    refine (next_any H).mono ?_
    rintro e w1 ⟨rfl, S1, hS1, H1, hf1⟩
    have A1 := Acc.step A0 hS1 hf1
    go_wp2_with fail
    refine (accept_any (v := cDig) H1).mono ?_
    rintro e w2 ⟨rfl, S2, hS2, H2, hf2⟩
    have A2 := Acc.step A1 hS2 hf2
    rw [B1.out]
    rw [accept_f B1.out] at H2
    go_wp2_with fail
    refine (accept_any (v := cDot) H2).mono ?_
    rintro e w3 ⟨rfl, S3, hS3, H3, hf3⟩
    have A3 := Acc.step A2 hS3 hf3
    go_wp2_with fail
    refine (emit_any H3 ((reads_accept _ s _).le hB1.le) (by rw [accept_toks, hr1.toks]; exact hn) kOperator).mono ?_
    rintro e w4 ⟨rfl, S4, hS4, H4, hf4⟩
    have A4 := Acc.step A3 hS4 hf4
    go_wp2_with fail
    go_ret
    exact ⟨rfl, A4.done H4⟩

set_option maxRecDepth 100000 in
theorem singleLine_any {W0 w : World} {S : Nat → Prop} {L : Nat} {s : ByteArray} {t : St} (H : Lx W0 S w L s t) :
    Calls Tryz.prog 82 #[.pointer (some ⟨L, 0, none⟩)] w fun e w' => e = .returned (qVal (singleLine s t).1) ∧ Done W0 S w L s (singleLine s t).2 w' := by
  go_enter Tryz.func82, Tryz.ntmps82
  go_wp2_with fail
  go_loopg [] (s.size - t.eb + 1) (fun g wr => ∃ S1 t1, Acc S w S1 wr ∧ Lx W0 S1 wr L s t1 ∧ Hid (lineRun s t1 = lineRun s t) ∧ s.size - t1.eb < g)
  case atStart => exact ⟨S, t, Acc.refl S w, H, Lib.hid rfl, by omega⟩
  case round =>
    obtain ⟨S1, t1, A1, H1, heq, hg⟩ := hrel
    by_cases hp : peek s t1 = -1 ∨ peek s t1 = 10
    · have hfin : lineRun s t = next s t1 := by rw [← heq.out, lineRun_eq, if_pos hp]
      have Hfin := Lib.hid hfin
      clear hfin heq
      rcases hp with hp | hp
      all_goals
        have Hp := Lib.hid hp
        clear hp
        go_wp2_with fail
        refine (next_any H1).mono ?_
        rintro e w2 ⟨rfl, S2, hS2, H2, hf2⟩
        have A2 := Acc.step A1 hS2 hf2
        rw [Hp.out]
        rw [← Hfin.out] at H2
        go_wp2_with fail
        refine (skip_any H2).mono ?_
        rintro e w3 ⟨rfl, S3, hS3, H3, hf3⟩
        have A3 := Acc.step A2 hS3 hf3
        go_wp2_with fail
        go_ret
        exact ⟨rfl, A3.done H3⟩
    · have hfin : Hid (lineRun s (next s t1) = lineRun s t) := Lib.hid (by rw [← heq.out, lineRun_eq s t1, if_neg hp])
      have hl : t1.eb < s.size := peek_lt (fun e => hp (.inl e))
      have hsub := next_sub hl
      have e1 : (peek s t1 == -1) = false := by rw [beq_eq_false_iff_ne]; exact fun e => hp (.inl e)
      have e2 : (peek s t1 == 10) = false := by rw [beq_eq_false_iff_ne]; exact fun e => hp (.inr e)
      clear hp heq
      go_wp2_with fail
      refine (next_any H1).mono ?_
      rintro e w2 ⟨rfl, S2, hS2, H2, hf2⟩
      have A2 := Acc.step A1 hS2 hf2
      go_wp2_with fail
      go_roundg (s.size - (next s t1).eb + 1)
      case measure => omega
      case rel => exact ⟨S2, next s t1, A2, H2, hfin, by omega⟩

set_option maxRecDepth 100000 in
theorem multiLine_any {F : Stop.Interp} {W0 w : World} {S : Nat → Prop} {L : Nat} {s : ByteArray} {t : St} (hF : F.answers W0.tape) (H : Lx W0 S w L s t) :
    Calls Tryz.prog 83 #[.pointer (some ⟨L, 0, none⟩)] w fun e w' => e = .returned (qVal (multiLine s t).1) ∧ Done W0 S w L s (multiLine s t).2 w' := by
  go_enter Tryz.func83, Tryz.ntmps83
  go_wp2_with fail
  go_loopg [] (s.size - t.eb + 1) (fun g wr => ∃ S1 t1, Acc S w S1 wr ∧ Lx W0 S1 wr L s t1 ∧ Hid (multiRun s t1 = multiRun s t) ∧ s.size - t1.eb < g)
  case atStart => exact ⟨S, t, Acc.refl S w, H, Lib.hid rfl, by omega⟩
  case round =>
    obtain ⟨S1, t1, A1, H1, heq, hg⟩ := hrel
    have hm := multiRun_eq s t1
    rw [heq.out] at hm
    clear heq
    by_cases hp : peek s t1 = -1
    · have hfin : multiLine s t = (none, error (next s t1)) := by unfold multiLine; rw [hm, if_pos hp]; rfl
      have Hfin := Lib.hid hfin
      have Hp := Lib.hid hp
      clear hp hfin hm
      go_wp2_with fail
      refine (next_any H1).mono ?_
      rintro e w2 ⟨rfl, S2, hS2, H2, hf2⟩
      have A2 := Acc.step A1 hS2 hf2
      rw [Hp.out]
      go_wp2_with fail
      refine (error_m2 hF H2).mono ?_
      rintro e w3 ⟨rfl, S3, hS3, H3, hf3⟩
      have A3 := Acc.step A2 hS3 hf3
      go_wp2_with fail
      go_ret
      rw [Hfin.out]
      exact ⟨rfl, A3.done H3⟩
    · rw [if_neg hp] at hm
      have hl : t1.eb < s.size := peek_lt hp
      have hsub := next_sub hl
      have e1 : (peek s t1 == -1) = false := by rw [beq_eq_false_iff_ne]; exact hp
      by_cases hs : peek s t1 = 42
      · cases ha : acceptB cSlash s (next s t1) with
        | true =>
          have hfin : multiLine s t = (some .root, commit (next s (next s t1))) := by unfold multiLine; rw [hm, if_pos (show peek s t1 = 42 ∧ acceptB cSlash s (next s t1) = true from And.intro hs ha)]; rfl
          have Hfin := Lib.hid hfin
          have Ha := Lib.hid ha
          have Hs := Lib.hid hs
          clear hp hfin hm ha hs e1
          go_wp2_with fail
          refine (next_any H1).mono ?_
          rintro e w2 ⟨rfl, S2, hS2, H2, hf2⟩
          have A2 := Acc.step A1 hS2 hf2
          rw [Hs.out]
          go_wp2_with fail
          refine (accept_any (v := cSlash) H2).mono ?_
          rintro e w3 ⟨rfl, S3, hS3, H3, hf3⟩
          have A3 := Acc.step A2 hS3 hf3
          rw [Ha.out]
          rw [accept_t Ha.out] at H3
          go_wp2_with fail
          refine (skip_any H3).mono ?_
          rintro e w4 ⟨rfl, S4, hS4, H4, hf4⟩
          have A4 := Acc.step A3 hS4 hf4
          go_wp2_with fail
          go_ret
          rw [Hfin.out]
          exact ⟨rfl, A4.done H4⟩
        | false =>
          have hfin : Hid (multiRun s (next s t1) = multiRun s t) := Lib.hid (by rw [hm, if_neg (fun e => by rw [ha] at e; exact absurd e.2 (by decide))])
          have Ha := Lib.hid ha
          have Hs := Lib.hid hs
          clear hp hm ha hs e1
          go_wp2_with fail
          refine (next_any H1).mono ?_
          rintro e w2 ⟨rfl, S2, hS2, H2, hf2⟩
          have A2 := Acc.step A1 hS2 hf2
          rw [Hs.out]
          go_wp2_with fail
          refine (accept_any (v := cSlash) H2).mono ?_
          rintro e w3 ⟨rfl, S3, hS3, H3, hf3⟩
          have A3 := Acc.step A2 hS3 hf3
          rw [Ha.out]
          rw [accept_f Ha.out] at H3
          go_wp2_with fail
          go_roundg (s.size - (next s t1).eb + 1)
          case measure => omega
          case rel => exact ⟨S3, next s t1, A3, H3, hfin, by omega⟩
      · have hfin : Hid (multiRun s (next s t1) = multiRun s t) := Lib.hid (by rw [hm, if_neg (fun e => hs e.1)])
        have e2 : (peek s t1 == 42) = false := by rw [beq_eq_false_iff_ne]; exact hs
        clear hp hm hs
        go_wp2_with fail
        refine (next_any H1).mono ?_
        rintro e w2 ⟨rfl, S2, hS2, H2, hf2⟩
        have A2 := Acc.step A1 hS2 hf2
        go_wp2_with fail
        go_roundg (s.size - (next s t1).eb + 1)
        case measure => omega
        case rel => exact ⟨S2, next s t1, A2, H2, hfin, by omega⟩

end Go.Proofs.YtkplkccjeacniaaGreatFmt
