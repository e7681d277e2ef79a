/-
  Walk: scanNumber.
-/
import Derived.Test.YtdpdgppjeekcmaaFmtAccs
namespace Go.Proofs.YtdpdgppjeekcmaaFmt
open Go Go.Lib Go.RowKit Go.Proofs

set_option maxHeartbeats 8000000 in
set_option maxRecDepth 100000 in
theorem scanNumber_any {W0 w : World} {S : Nat → Prop} {L : Nat} {s : ByteArray} {t : St} (H : Lx W0 S w L s t) :
    Calls Tryf.prog 43 #[.pointer (some ⟨L, 0, none⟩)] w fun e w' => e = .returned (.bool (scanNumber s t).1) ∧ Done W0 S w L s (scanNumber s t).2 w' := by
  have A0 := Acc.refl S w
  cases h0 : acceptB c0 s t with
  | false =>
    have hpre : numPre s t = (dDec, t) := by unfold numPre; simp [h0]
    have P0 := Lib.hid h0
    have Hpre := Lib.hid hpre
    clear hpre
    go_enter Tryf.func43, Tryf.ntmps43
    go_wp2_with fail
    refine (accept_any (v := c0) H).mono ?_
    rintro e w1 ⟨rfl, S1, hS1, H1, hf1⟩
    have A1 := Acc.step A0 hS1 hf1
    rw [P0.out]
    rw [accept_f P0.out] at H1
    go_wp2_with fail
    refine (acceptRun_any (v := dDec) H1).mono ?_
    rintro e w2 ⟨rfl, S2, hS2, H2, hf2⟩
    have A2 := Acc.step A1 hS2 hf2
    obtain ⟨t3, ht3⟩ : ∃ x, acceptRun dDec s t = x := ⟨_, rfl⟩
    rw [ht3] at H2
    have T3 := Lib.hid ht3
    clear ht3
    obtain ⟨R3, ev3, hL3, hR3, hc3, hr3, he3, l3, q0, q1, q2, q3, q4, q5, q6, q7, q8, q9, fz3⟩ := H2.opened
    go_wp2_with fail
    have hsc : scanNumber s t = numFrac dDec s t3 := by unfold scanNumber; rw [Hpre.out]; dsimp only; rw [T3.out]
    have X0 := Lib.hid hsc
    clear hsc
    cases hd : acceptB cDot s t3 with
    | false =>
      have hfr : numFrac dDec s t3 = numEnd dDec s t3 := by unfold numFrac; simp [hd]
      have X1 := Lib.hid (X0.out.trans hfr)
      clear hfr
      have HD := Lib.hid hd
      clear hd
      refine (accept_any (v := cDot) (H2.keep (by repeat (first | exact Below.refl _ _ | apply below_drew | apply below_drewN | apply below_alloc | apply below_grow)))).mono ?_
      rintro e w3 ⟨rfl, S3, hS3, H3, hf3⟩
      have A3 := Acc.step (Acc.below A2 (by repeat (first | exact Below.refl _ _ | apply below_drew | apply below_drewN | apply below_alloc | apply below_grow))) hS3 hf3
      rw [HD.out]
      rw [accept_f HD.out] at H3
      go_wp2_with fail
      cases hE : acceptB ceE s t3 with
      | false =>
        have hne : numEnd dDec s t3 = if alnum (peek s t3) then (false, next s t3) else (true, t3) := by unfold numEnd; simp [hE]
        have X2 := Lib.hid (X1.out.trans hne)
        have HE := Lib.hid hE
        clear hE hne
        refine (accept_any (v := ceE) H3).mono ?_
        rintro e w4 ⟨rfl, S4, hS4, H4, hf4⟩
        have A4 := Acc.step A3 hS4 hf4
        rw [HE.out]
        rw [accept_f HE.out] at H4
        go_wp2_with fail
        refine (peek_any H4).mono ?_
        rintro e w' ⟨rfl, xs, d, rfl⟩
        have H7 := H4.keep (grow_below w4 xs d)
        have A7 := Acc.below A4 (grow_below w4 xs d)
        obtain ⟨w7, hw7⟩ : ∃ x, x = grow w4 xs d := ⟨_, rfl⟩
        rw [← hw7] at H7 A7 ⊢
        clear hw7
        go_wp2_with fail
        refine (alnum_any H7.tabsAt _ (by have := peek_lo s t3; omega) (by have := peek_hi s t3; omega)).mono ?_
        rintro e w' ⟨rfl, ys, d2, rfl⟩
        have H8 := H7.keep (grow_below w7 ys d2)
        have A8 := Acc.below A7 (grow_below w7 ys d2)
        obtain ⟨w8, hw8⟩ : ∃ x, x = grow w7 ys d2 := ⟨_, rfl⟩
        rw [← hw8] at H8 A8 ⊢
        clear hw8
        cases hl : alnum (peek s t3) with
        | false =>
          have hend := X2.out
          rw [hl] at hend
          have X3 := Lib.hid hend
          clear hend
          go_wp2_with fail
          go_ret
          rw [X3.out]
          exact ⟨rfl, A8.done H8⟩
        | true =>
          have hend := X2.out
          rw [hl] at hend
          have X3 := Lib.hid hend
          clear hend
          go_wp2_with fail
          refine (next_any H8).mono ?_
          rintro e w9 ⟨rfl, S9, hS9, H9, hf9⟩
          go_wp2_with fail
          go_ret
          rw [X3.out]
          exact ⟨rfl, (A8.step hS9 hf9).done H9⟩
      | true =>
        obtain ⟨t6, ht6⟩ : ∃ x, acceptRun dDec s (accept cSign s (next s t3)) = x := ⟨_, rfl⟩
        have hne : numEnd dDec s t3 = if alnum (peek s t6) then (false, next s t6) else (true, t6) := by unfold numEnd; simp only [hE, if_true]; rw [ht6]
        have X2 := Lib.hid (X1.out.trans hne)
        have HE := Lib.hid hE
        have T6 := Lib.hid ht6
        clear hE hne ht6
        refine (accept_any (v := ceE) H3).mono ?_
        rintro e w5 ⟨rfl, S5, hS5, H5, hf5⟩
        have A5 := Acc.step A3 hS5 hf5
        rw [HE.out]
        rw [accept_t HE.out] at H5
        go_wp2_with fail
        refine (accept_any (v := cSign) H5).mono ?_
        rintro e w6 ⟨rfl, S6, hS6, H6, hf6⟩
        have A6 := Acc.step A5 hS6 hf6
        go_wp2_with fail
        refine (acceptRun_any (v := dDec) H6).mono ?_
        rintro e w7 ⟨rfl, S7, hS7, H7, hf7⟩
        have A7 := Acc.step A6 hS7 hf7
        rw [T6.out] at H7
        go_wp2_with fail
        refine (peek_any H7).mono ?_
        rintro e w' ⟨rfl, xs, d, rfl⟩
        have H7 := H7.keep (grow_below w7 xs d)
        have A7 := Acc.below A7 (grow_below w7 xs d)
        obtain ⟨w7, hw7⟩ : ∃ x, x = grow w7 xs d := ⟨_, rfl⟩
        rw [← hw7] at H7 A7 ⊢
        clear hw7
        go_wp2_with fail
        refine (alnum_any H7.tabsAt _ (by have := peek_lo s t6; omega) (by have := peek_hi s t6; omega)).mono ?_
        rintro e w' ⟨rfl, ys, d2, rfl⟩
        have H8 := H7.keep (grow_below w7 ys d2)
        have A8 := Acc.below A7 (grow_below w7 ys d2)
        obtain ⟨w8, hw8⟩ : ∃ x, x = grow w7 ys d2 := ⟨_, rfl⟩
        rw [← hw8] at H8 A8 ⊢
        clear hw8
        cases hl : alnum (peek s t6) with
        | false =>
          have hend := X2.out
          rw [hl] at hend
          have X3 := Lib.hid hend
          clear hend
          go_wp2_with fail
          go_ret
          rw [X3.out]
          exact ⟨rfl, A8.done H8⟩
        | true =>
          have hend := X2.out
          rw [hl] at hend
          have X3 := Lib.hid hend
          clear hend
          go_wp2_with fail
          refine (next_any H8).mono ?_
          rintro e w9 ⟨rfl, S9, hS9, H9, hf9⟩
          go_wp2_with fail
          go_ret
          rw [X3.out]
          exact ⟨rfl, (A8.step hS9 hf9).done H9⟩
    | true =>
      have HD := Lib.hid hd
      clear hd
      obtain ⟨t4, ht4⟩ : ∃ x, next s t3 = x := ⟨_, rfl⟩
      have T4 := Lib.hid ht4
      refine (accept_any (v := cDot) (H2.keep (by repeat (first | exact Below.refl _ _ | apply below_drew | apply below_drewN | apply below_alloc | apply below_grow)))).mono ?_
      rintro e w8 ⟨rfl, S8, hS8, H8, hf8⟩
      have O8 := Own.made H2 hS8 hf8
      have A8 := Acc.step (Acc.below A2 (by repeat (first | exact Below.refl _ _ | apply below_drew | apply below_drewN | apply below_alloc | apply below_grow))) hS8 hf8
      rw [HD.out]
      rw [accept_t HD.out, ht4] at H8
      clear ht4
      go_wp2_with fail
      refine (peek_any H8).mono ?_
      rintro e w' ⟨rfl, xs, d, rfl⟩
      have H4 := H8.keep (grow_below w8 xs d)
      have A4 := Acc.below A8 (grow_below w8 xs d)
      have O4 := Own.below O8 (grow_below w8 xs d)
      obtain ⟨w4, hw4⟩ : ∃ x, x = grow w8 xs d := ⟨_, rfl⟩
      rw [← hw4] at H4 A4 O4 ⊢
      clear hw4
      by_cases hp : peek s t4 = 46
      · have hfr : numFrac dDec s t3 = (true, { t4 with eb := t3.eb, er := t3.er }) := by unfold numFrac; rw [HD.out, T4.out]; simp [hp]
        have X1 := Lib.hid (X0.out.trans hfr)
        rw [hp]
        clear hfr hp
        obtain ⟨R4, ev4, hL4, hR4, hc4, hr4, he4, l4, u0, u1, u2, u3, u4, u5, u6, u7, u8, u9, fz4⟩ := H4.opened
        have k0 := O4.cell 0
        have k1 := O4.cell 1
        have hsp : t4.sb ≤ t3.eb ∧ t3.eb ≤ 1099511627776 ∧ t4.sr ≤ t3.er ∧ t3.er ≤ t3.eb := by
          have := H2.poss
          rw [← T4.out, (next_same s t3).1, (next_same s t3).2.1]
          exact this
        go_wp2_with fail
        go_ret
        rw [X1.out]
        refine ⟨rfl, Done.trans A4.own A4.fr (Done.only (t' := { t4 with eb := t3.eb, er := t3.er }) H4 hL4 hR4 hr4 he4 (OnlyL.cast (by repeat (first | apply OnlyL.setCell | apply OnlyL.drew | apply OnlyL.drewN | apply OnlyL.alloc | exact OnlyL.refl hc4.out)) ?_) hc4.out rfl rfl hsp)⟩
        simp [cellsL]
      · have hp2 : (peek s t4 == 46) = false := by simpa using hp
        have hfr : numFrac dDec s t3 = numEnd dDec s (acceptRun dDec s t4) := by unfold numFrac; rw [HD.out, T4.out]; simp [hp]
        have X0b := Lib.hid (X0.out.trans hfr)
        have HP := Lib.hid hp
        clear hfr hp
        go_wp2_with fail
        refine (acceptRun_any (v := dDec) H4).mono ?_
        rintro e w9 ⟨rfl, S9, hS9, H9, hf9⟩
        have A9 := Acc.step A4 hS9 hf9
        obtain ⟨t5, ht5⟩ : ∃ x, acceptRun dDec s t4 = x := ⟨_, rfl⟩
        have X1 : Hid (scanNumber s t = numEnd dDec s t5) := Lib.hid (by rw [← ht5]; exact X0b.out)
        rw [ht5] at H9
        clear ht5
        go_wp2_with fail
        cases hE : acceptB ceE s t5 with
        | false =>
          have hne : numEnd dDec s t5 = if alnum (peek s t5) then (false, next s t5) else (true, t5) := by unfold numEnd; simp [hE]
          have X2 := Lib.hid (X1.out.trans hne)
          have HE := Lib.hid hE
          clear hE hne
          refine (accept_any (v := ceE) H9).mono ?_
          rintro e w10 ⟨rfl, S10, hS10, H10, hf10⟩
          have A10 := Acc.step A9 hS10 hf10
          rw [HE.out]
          rw [accept_f HE.out] at H10
          go_wp2_with fail
          refine (peek_any H10).mono ?_
          rintro e w' ⟨rfl, xs, d, rfl⟩
          have H7 := H10.keep (grow_below w10 xs d)
          have A7 := Acc.below A10 (grow_below w10 xs d)
          obtain ⟨w7, hw7⟩ : ∃ x, x = grow w10 xs d := ⟨_, rfl⟩
          rw [← hw7] at H7 A7 ⊢
          clear hw7
          go_wp2_with fail
          refine (alnum_any H7.tabsAt _ (by have := peek_lo s t5; omega) (by have := peek_hi s t5; omega)).mono ?_
          rintro e w' ⟨rfl, ys, d2, rfl⟩
          have H8 := H7.keep (grow_below w7 ys d2)
          have A8 := Acc.below A7 (grow_below w7 ys d2)
          obtain ⟨w8, hw8⟩ : ∃ x, x = grow w7 ys d2 := ⟨_, rfl⟩
          rw [← hw8] at H8 A8 ⊢
          clear hw8
          cases hl : alnum (peek s t5) with
          | false =>
            have hend := X2.out
            rw [hl] at hend
            have X3 := Lib.hid hend
            clear hend
            go_wp2_with fail
            go_ret
            rw [X3.out]
            exact ⟨rfl, A8.done H8⟩
          | true =>
            have hend := X2.out
            rw [hl] at hend
            have X3 := Lib.hid hend
            clear hend
            go_wp2_with fail
            refine (next_any H8).mono ?_
            rintro e w9 ⟨rfl, S9, hS9, H9, hf9⟩
            go_wp2_with fail
            go_ret
            rw [X3.out]
            exact ⟨rfl, (A8.step hS9 hf9).done H9⟩
        | true =>
          obtain ⟨t6, ht6⟩ : ∃ x, acceptRun dDec s (accept cSign s (next s t5)) = x := ⟨_, rfl⟩
          have hne : numEnd dDec s t5 = if alnum (peek s t6) then (false, next s t6) else (true, t6) := by unfold numEnd; simp only [hE, if_true]; rw [ht6]
          have X2 := Lib.hid (X1.out.trans hne)
          have HE := Lib.hid hE
          have T6 := Lib.hid ht6
          clear hE hne ht6
          refine (accept_any (v := ceE) H9).mono ?_
          rintro e w11 ⟨rfl, S11, hS11, H11, hf11⟩
          have A11 := Acc.step A9 hS11 hf11
          rw [HE.out]
          rw [accept_t HE.out] at H11
          go_wp2_with fail
          refine (accept_any (v := cSign) H11).mono ?_
          rintro e w12 ⟨rfl, S12, hS12, H12, hf12⟩
          have A12 := Acc.step A11 hS12 hf12
          go_wp2_with fail
          refine (acceptRun_any (v := dDec) H12).mono ?_
          rintro e w13 ⟨rfl, S13, hS13, H13, hf13⟩
          have A13 := Acc.step A12 hS13 hf13
          rw [T6.out] at H13
          go_wp2_with fail
          refine (peek_any H13).mono ?_
          rintro e w' ⟨rfl, xs, d, rfl⟩
          have H7 := H13.keep (grow_below w13 xs d)
          have A7 := Acc.below A13 (grow_below w13 xs d)
          obtain ⟨w7, hw7⟩ : ∃ x, x = grow w13 xs d := ⟨_, rfl⟩
          rw [← hw7] at H7 A7 ⊢
          clear hw7
          go_wp2_with fail
          refine (alnum_any H7.tabsAt _ (by have := peek_lo s t6; omega) (by have := peek_hi s t6; omega)).mono ?_
          rintro e w' ⟨rfl, ys, d2, rfl⟩
          have H8 := H7.keep (grow_below w7 ys d2)
          have A8 := Acc.below A7 (grow_below w7 ys d2)
          obtain ⟨w8, hw8⟩ : ∃ x, x = grow w7 ys d2 := ⟨_, rfl⟩
          rw [← hw8] at H8 A8 ⊢
          clear hw8
          cases hl : alnum (peek s t6) with
          | false =>
            have hend := X2.out
            rw [hl] at hend
            have X3 := Lib.hid hend
            clear hend
            go_wp2_with fail
            go_ret
            rw [X3.out]
            exact ⟨rfl, A8.done H8⟩
          | true =>
            have hend := X2.out
            rw [hl] at hend
            have X3 := Lib.hid hend
            clear hend
            go_wp2_with fail
            refine (next_any H8).mono ?_
            rintro e w9 ⟨rfl, S9, hS9, H9, hf9⟩
            go_wp2_with fail
            go_ret
            rw [X3.out]
            exact ⟨rfl, (A8.step hS9 hf9).done H9⟩
  | true =>
    cases h1 : acceptB cxX s (next s t) with
    | true =>
      have hpre : numPre s t = (dHex, (next s (next s t))) := by unfold numPre; simp [h0, h1]
      have P0 := Lib.hid h0
      have P1 := Lib.hid h1
      have Hpre := Lib.hid hpre
      clear hpre
      go_enter Tryf.func43, Tryf.ntmps43
      go_wp2_with fail
      refine (accept_any (v := c0) H).mono ?_
      rintro e w14 ⟨rfl, S14, hS14, H14, hf14⟩
      have A14 := Acc.step A0 hS14 hf14
      rw [P0.out]
      rw [accept_t P0.out] at H14
      go_wp2_with fail
      refine (accept_any (v := cxX) H14).mono ?_
      rintro e w15 ⟨rfl, S15, hS15, H15, hf15⟩
      have A15 := Acc.step A14 hS15 hf15
      rw [P1.out]
      rw [accept_t P1.out] at H15
      go_wp2_with fail
      refine (acceptRun_any (v := dHex) H15).mono ?_
      rintro e w16 ⟨rfl, S16, hS16, H16, hf16⟩
      have A16 := Acc.step A15 hS16 hf16
      obtain ⟨t3, ht3⟩ : ∃ x, acceptRun dHex s (next s (next s t)) = x := ⟨_, rfl⟩
      rw [ht3] at H16
      have T3 := Lib.hid ht3
      clear ht3
      obtain ⟨R3, ev3, hL3, hR3, hc3, hr3, he3, l3, q0, q1, q2, q3, q4, q5, q6, q7, q8, q9, fz3⟩ := H16.opened
      go_wp2_with fail
      have hsc : scanNumber s t = numFrac dHex s t3 := by unfold scanNumber; rw [Hpre.out]; dsimp only; rw [T3.out]
      have X0 := Lib.hid hsc
      clear hsc
      cases hd : acceptB cDot s t3 with
      | false =>
        have hfr : numFrac dHex s t3 = numEnd dHex s t3 := by unfold numFrac; simp [hd]
        have X1 := Lib.hid (X0.out.trans hfr)
        clear hfr
        have HD := Lib.hid hd
        clear hd
        refine (accept_any (v := cDot) (H16.keep (by repeat (first | exact Below.refl _ _ | apply below_drew | apply below_drewN | apply below_alloc | apply below_grow)))).mono ?_
        rintro e w17 ⟨rfl, S17, hS17, H17, hf17⟩
        have A17 := Acc.step (Acc.below A16 (by repeat (first | exact Below.refl _ _ | apply below_drew | apply below_drewN | apply below_alloc | apply below_grow))) hS17 hf17
        rw [HD.out]
        rw [accept_f HD.out] at H17
        go_wp2_with fail
        cases hE : acceptB ceE s t3 with
        | false =>
          have hne : numEnd dHex s t3 = if alnum (peek s t3) then (false, next s t3) else (true, t3) := by unfold numEnd; simp [hE]
          have X2 := Lib.hid (X1.out.trans hne)
          have HE := Lib.hid hE
          clear hE hne
          refine (accept_any (v := ceE) H17).mono ?_
          rintro e w18 ⟨rfl, S18, hS18, H18, hf18⟩
          have A18 := Acc.step A17 hS18 hf18
          rw [HE.out]
          rw [accept_f HE.out] at H18
          go_wp2_with fail
          refine (peek_any H18).mono ?_
          rintro e w' ⟨rfl, xs, d, rfl⟩
          have H7 := H18.keep (grow_below w18 xs d)
          have A7 := Acc.below A18 (grow_below w18 xs d)
          obtain ⟨w7, hw7⟩ : ∃ x, x = grow w18 xs d := ⟨_, rfl⟩
          rw [← hw7] at H7 A7 ⊢
          clear hw7
          go_wp2_with fail
          refine (alnum_any H7.tabsAt _ (by have := peek_lo s t3; omega) (by have := peek_hi s t3; omega)).mono ?_
          rintro e w' ⟨rfl, ys, d2, rfl⟩
          have H8 := H7.keep (grow_below w7 ys d2)
          have A8 := Acc.below A7 (grow_below w7 ys d2)
          obtain ⟨w8, hw8⟩ : ∃ x, x = grow w7 ys d2 := ⟨_, rfl⟩
          rw [← hw8] at H8 A8 ⊢
          clear hw8
          cases hl : alnum (peek s t3) with
          | false =>
            have hend := X2.out
            rw [hl] at hend
            have X3 := Lib.hid hend
            clear hend
            go_wp2_with fail
            go_ret
            rw [X3.out]
            exact ⟨rfl, A8.done H8⟩
          | true =>
            have hend := X2.out
            rw [hl] at hend
            have X3 := Lib.hid hend
            clear hend
            go_wp2_with fail
            refine (next_any H8).mono ?_
            rintro e w9 ⟨rfl, S9, hS9, H9, hf9⟩
            go_wp2_with fail
            go_ret
            rw [X3.out]
            exact ⟨rfl, (A8.step hS9 hf9).done H9⟩
        | true =>
          obtain ⟨t6, ht6⟩ : ∃ x, acceptRun dHex s (accept cSign s (next s t3)) = x := ⟨_, rfl⟩
          have hne : numEnd dHex s t3 = if alnum (peek s t6) then (false, next s t6) else (true, t6) := by unfold numEnd; simp only [hE, if_true]; rw [ht6]
          have X2 := Lib.hid (X1.out.trans hne)
          have HE := Lib.hid hE
          have T6 := Lib.hid ht6
          clear hE hne ht6
          refine (accept_any (v := ceE) H17).mono ?_
          rintro e w19 ⟨rfl, S19, hS19, H19, hf19⟩
          have A19 := Acc.step A17 hS19 hf19
          rw [HE.out]
          rw [accept_t HE.out] at H19
          go_wp2_with fail
          refine (accept_any (v := cSign) H19).mono ?_
          rintro e w20 ⟨rfl, S20, hS20, H20, hf20⟩
          have A20 := Acc.step A19 hS20 hf20
          go_wp2_with fail
          refine (acceptRun_any (v := dHex) H20).mono ?_
          rintro e w21 ⟨rfl, S21, hS21, H21, hf21⟩
          have A21 := Acc.step A20 hS21 hf21
          rw [T6.out] at H21
          go_wp2_with fail
          refine (peek_any H21).mono ?_
          rintro e w' ⟨rfl, xs, d, rfl⟩
          have H7 := H21.keep (grow_below w21 xs d)
          have A7 := Acc.below A21 (grow_below w21 xs d)
          obtain ⟨w7, hw7⟩ : ∃ x, x = grow w21 xs d := ⟨_, rfl⟩
          rw [← hw7] at H7 A7 ⊢
          clear hw7
          go_wp2_with fail
          refine (alnum_any H7.tabsAt _ (by have := peek_lo s t6; omega) (by have := peek_hi s t6; omega)).mono ?_
          rintro e w' ⟨rfl, ys, d2, rfl⟩
          have H8 := H7.keep (grow_below w7 ys d2)
          have A8 := Acc.below A7 (grow_below w7 ys d2)
          obtain ⟨w8, hw8⟩ : ∃ x, x = grow w7 ys d2 := ⟨_, rfl⟩
          rw [← hw8] at H8 A8 ⊢
          clear hw8
          cases hl : alnum (peek s t6) with
          | false =>
            have hend := X2.out
            rw [hl] at hend
            have X3 := Lib.hid hend
            clear hend
            go_wp2_with fail
            go_ret
            rw [X3.out]
            exact ⟨rfl, A8.done H8⟩
          | true =>
            have hend := X2.out
            rw [hl] at hend
            have X3 := Lib.hid hend
            clear hend
            go_wp2_with fail
            refine (next_any H8).mono ?_
            rintro e w9 ⟨rfl, S9, hS9, H9, hf9⟩
            go_wp2_with fail
            go_ret
            rw [X3.out]
            exact ⟨rfl, (A8.step hS9 hf9).done H9⟩
      | true =>
        have HD := Lib.hid hd
        clear hd
        obtain ⟨t4, ht4⟩ : ∃ x, next s t3 = x := ⟨_, rfl⟩
        have T4 := Lib.hid ht4
        refine (accept_any (v := cDot) (H16.keep (by repeat (first | exact Below.refl _ _ | apply below_drew | apply below_drewN | apply below_alloc | apply below_grow)))).mono ?_
        rintro e w22 ⟨rfl, S22, hS22, H22, hf22⟩
        have O22 := Own.made H16 hS22 hf22
        have A22 := Acc.step (Acc.below A16 (by repeat (first | exact Below.refl _ _ | apply below_drew | apply below_drewN | apply below_alloc | apply below_grow))) hS22 hf22
        rw [HD.out]
        rw [accept_t HD.out, ht4] at H22
        clear ht4
        go_wp2_with fail
        refine (peek_any H22).mono ?_
        rintro e w' ⟨rfl, xs, d, rfl⟩
        have H4 := H22.keep (grow_below w22 xs d)
        have A4 := Acc.below A22 (grow_below w22 xs d)
        have O4 := Own.below O22 (grow_below w22 xs d)
        obtain ⟨w4, hw4⟩ : ∃ x, x = grow w22 xs d := ⟨_, rfl⟩
        rw [← hw4] at H4 A4 O4 ⊢
        clear hw4
        by_cases hp : peek s t4 = 46
        · have hfr : numFrac dHex s t3 = (true, { t4 with eb := t3.eb, er := t3.er }) := by unfold numFrac; rw [HD.out, T4.out]; simp [hp]
          have X1 := Lib.hid (X0.out.trans hfr)
          rw [hp]
          clear hfr hp
          obtain ⟨R4, ev4, hL4, hR4, hc4, hr4, he4, l4, u0, u1, u2, u3, u4, u5, u6, u7, u8, u9, fz4⟩ := H4.opened
          have k0 := O4.cell 0
          have k1 := O4.cell 1
          have hsp : t4.sb ≤ t3.eb ∧ t3.eb ≤ 1099511627776 ∧ t4.sr ≤ t3.er ∧ t3.er ≤ t3.eb := by
            have := H16.poss
            rw [← T4.out, (next_same s t3).1, (next_same s t3).2.1]
            exact this
          go_wp2_with fail
          go_ret
          rw [X1.out]
          refine ⟨rfl, Done.trans A4.own A4.fr (Done.only (t' := { t4 with eb := t3.eb, er := t3.er }) H4 hL4 hR4 hr4 he4 (OnlyL.cast (by repeat (first | apply OnlyL.setCell | apply OnlyL.drew | apply OnlyL.drewN | apply OnlyL.alloc | exact OnlyL.refl hc4.out)) ?_) hc4.out rfl rfl hsp)⟩
          simp [cellsL]
        · have hp2 : (peek s t4 == 46) = false := by simpa using hp
          have hfr : numFrac dHex s t3 = numEnd dHex s (acceptRun dHex s t4) := by unfold numFrac; rw [HD.out, T4.out]; simp [hp]
          have X0b := Lib.hid (X0.out.trans hfr)
          have HP := Lib.hid hp
          clear hfr hp
          go_wp2_with fail
          refine (acceptRun_any (v := dHex) H4).mono ?_
          rintro e w23 ⟨rfl, S23, hS23, H23, hf23⟩
          have A23 := Acc.step A4 hS23 hf23
          obtain ⟨t5, ht5⟩ : ∃ x, acceptRun dHex s t4 = x := ⟨_, rfl⟩
          have X1 : Hid (scanNumber s t = numEnd dHex s t5) := Lib.hid (by rw [← ht5]; exact X0b.out)
          rw [ht5] at H23
          clear ht5
          go_wp2_with fail
          cases hE : acceptB ceE s t5 with
          | false =>
            have hne : numEnd dHex s t5 = if alnum (peek s t5) then (false, next s t5) else (true, t5) := by unfold numEnd; simp [hE]
            have X2 := Lib.hid (X1.out.trans hne)
            have HE := Lib.hid hE
            clear hE hne
            refine (accept_any (v := ceE) H23).mono ?_
            rintro e w24 ⟨rfl, S24, hS24, H24, hf24⟩
            have A24 := Acc.step A23 hS24 hf24
            rw [HE.out]
            rw [accept_f HE.out] at H24
            go_wp2_with fail
            refine (peek_any H24).mono ?_
            rintro e w' ⟨rfl, xs, d, rfl⟩
            have H7 := H24.keep (grow_below w24 xs d)
            have A7 := Acc.below A24 (grow_below w24 xs d)
            obtain ⟨w7, hw7⟩ : ∃ x, x = grow w24 xs d := ⟨_, rfl⟩
            rw [← hw7] at H7 A7 ⊢
            clear hw7
            go_wp2_with fail
            refine (alnum_any H7.tabsAt _ (by have := peek_lo s t5; omega) (by have := peek_hi s t5; omega)).mono ?_
            rintro e w' ⟨rfl, ys, d2, rfl⟩
            have H8 := H7.keep (grow_below w7 ys d2)
            have A8 := Acc.below A7 (grow_below w7 ys d2)
            obtain ⟨w8, hw8⟩ : ∃ x, x = grow w7 ys d2 := ⟨_, rfl⟩
            rw [← hw8] at H8 A8 ⊢
            clear hw8
            cases hl : alnum (peek s t5) with
            | false =>
              have hend := X2.out
              rw [hl] at hend
              have X3 := Lib.hid hend
              clear hend
              go_wp2_with fail
              go_ret
              rw [X3.out]
              exact ⟨rfl, A8.done H8⟩
            | true =>
              have hend := X2.out
              rw [hl] at hend
              have X3 := Lib.hid hend
              clear hend
              go_wp2_with fail
              refine (next_any H8).mono ?_
              rintro e w9 ⟨rfl, S9, hS9, H9, hf9⟩
              go_wp2_with fail
              go_ret
              rw [X3.out]
              exact ⟨rfl, (A8.step hS9 hf9).done H9⟩
          | true =>
            obtain ⟨t6, ht6⟩ : ∃ x, acceptRun dHex s (accept cSign s (next s t5)) = x := ⟨_, rfl⟩
            have hne : numEnd dHex s t5 = if alnum (peek s t6) then (false, next s t6) else (true, t6) := by unfold numEnd; simp only [hE, if_true]; rw [ht6]
            have X2 := Lib.hid (X1.out.trans hne)
            have HE := Lib.hid hE
            have T6 := Lib.hid ht6
            clear hE hne ht6
            refine (accept_any (v := ceE) H23).mono ?_
            rintro e w25 ⟨rfl, S25, hS25, H25, hf25⟩
            have A25 := Acc.step A23 hS25 hf25
            rw [HE.out]
            rw [accept_t HE.out] at H25
            go_wp2_with fail
            refine (accept_any (v := cSign) H25).mono ?_
            rintro e w26 ⟨rfl, S26, hS26, H26, hf26⟩
            have A26 := Acc.step A25 hS26 hf26
            go_wp2_with fail
            refine (acceptRun_any (v := dHex) H26).mono ?_
            rintro e w27 ⟨rfl, S27, hS27, H27, hf27⟩
            have A27 := Acc.step A26 hS27 hf27
            rw [T6.out] at H27
            go_wp2_with fail
            refine (peek_any H27).mono ?_
            rintro e w' ⟨rfl, xs, d, rfl⟩
            have H7 := H27.keep (grow_below w27 xs d)
            have A7 := Acc.below A27 (grow_below w27 xs d)
            obtain ⟨w7, hw7⟩ : ∃ x, x = grow w27 xs d := ⟨_, rfl⟩
            rw [← hw7] at H7 A7 ⊢
            clear hw7
            go_wp2_with fail
            refine (alnum_any H7.tabsAt _ (by have := peek_lo s t6; omega) (by have := peek_hi s t6; omega)).mono ?_
            rintro e w' ⟨rfl, ys, d2, rfl⟩
            have H8 := H7.keep (grow_below w7 ys d2)
            have A8 := Acc.below A7 (grow_below w7 ys d2)
            obtain ⟨w8, hw8⟩ : ∃ x, x = grow w7 ys d2 := ⟨_, rfl⟩
            rw [← hw8] at H8 A8 ⊢
            clear hw8
            cases hl : alnum (peek s t6) with
            | false =>
              have hend := X2.out
              rw [hl] at hend
              have X3 := Lib.hid hend
              clear hend
              go_wp2_with fail
              go_ret
              rw [X3.out]
              exact ⟨rfl, A8.done H8⟩
            | true =>
              have hend := X2.out
              rw [hl] at hend
              have X3 := Lib.hid hend
              clear hend
              go_wp2_with fail
              refine (next_any H8).mono ?_
              rintro e w9 ⟨rfl, S9, hS9, H9, hf9⟩
              go_wp2_with fail
              go_ret
              rw [X3.out]
              exact ⟨rfl, (A8.step hS9 hf9).done H9⟩
    | false =>
      cases h2 : acceptB coO s (next s t) with
      | true =>
        have hpre : numPre s t = (dOct, (next s (next s t))) := by unfold numPre; simp [h0, h1, h2]
        have P0 := Lib.hid h0
        have P1 := Lib.hid h1
        have P2 := Lib.hid h2
        have Hpre := Lib.hid hpre
        clear hpre
        go_enter Tryf.func43, Tryf.ntmps43
        go_wp2_with fail
        refine (accept_any (v := c0) H).mono ?_
        rintro e w28 ⟨rfl, S28, hS28, H28, hf28⟩
        have A28 := Acc.step A0 hS28 hf28
        rw [P0.out]
        rw [accept_t P0.out] at H28
        go_wp2_with fail
        refine (accept_any (v := cxX) H28).mono ?_
        rintro e w29 ⟨rfl, S29, hS29, H29, hf29⟩
        have A29 := Acc.step A28 hS29 hf29
        rw [P1.out]
        rw [accept_f P1.out] at H29
        go_wp2_with fail
        refine (accept_any (v := coO) H29).mono ?_
        rintro e w30 ⟨rfl, S30, hS30, H30, hf30⟩
        have A30 := Acc.step A29 hS30 hf30
        rw [P2.out]
        rw [accept_t P2.out] at H30
        go_wp2_with fail
        refine (acceptRun_any (v := dOct) H30).mono ?_
        rintro e w31 ⟨rfl, S31, hS31, H31, hf31⟩
        have A31 := Acc.step A30 hS31 hf31
        obtain ⟨t3, ht3⟩ : ∃ x, acceptRun dOct s (next s (next s t)) = x := ⟨_, rfl⟩
        rw [ht3] at H31
        have T3 := Lib.hid ht3
        clear ht3
        obtain ⟨R3, ev3, hL3, hR3, hc3, hr3, he3, l3, q0, q1, q2, q3, q4, q5, q6, q7, q8, q9, fz3⟩ := H31.opened
        go_wp2_with fail
        have hsc : scanNumber s t = numFrac dOct s t3 := by unfold scanNumber; rw [Hpre.out]; dsimp only; rw [T3.out]
        have X0 := Lib.hid hsc
        clear hsc
        cases hd : acceptB cDot s t3 with
        | false =>
          have hfr : numFrac dOct s t3 = numEnd dOct s t3 := by unfold numFrac; simp [hd]
          have X1 := Lib.hid (X0.out.trans hfr)
          clear hfr
          have HD := Lib.hid hd
          clear hd
          refine (accept_any (v := cDot) (H31.keep (by repeat (first | exact Below.refl _ _ | apply below_drew | apply below_drewN | apply below_alloc | apply below_grow)))).mono ?_
          rintro e w32 ⟨rfl, S32, hS32, H32, hf32⟩
          have A32 := Acc.step (Acc.below A31 (by repeat (first | exact Below.refl _ _ | apply below_drew | apply below_drewN | apply below_alloc | apply below_grow))) hS32 hf32
          rw [HD.out]
          rw [accept_f HD.out] at H32
          go_wp2_with fail
          cases hE : acceptB ceE s t3 with
          | false =>
            have hne : numEnd dOct s t3 = if alnum (peek s t3) then (false, next s t3) else (true, t3) := by unfold numEnd; simp [hE]
            have X2 := Lib.hid (X1.out.trans hne)
            have HE := Lib.hid hE
            clear hE hne
            refine (accept_any (v := ceE) H32).mono ?_
            rintro e w33 ⟨rfl, S33, hS33, H33, hf33⟩
            have A33 := Acc.step A32 hS33 hf33
            rw [HE.out]
            rw [accept_f HE.out] at H33
            go_wp2_with fail
            refine (peek_any H33).mono ?_
            rintro e w' ⟨rfl, xs, d, rfl⟩
            have H7 := H33.keep (grow_below w33 xs d)
            have A7 := Acc.below A33 (grow_below w33 xs d)
            obtain ⟨w7, hw7⟩ : ∃ x, x = grow w33 xs d := ⟨_, rfl⟩
            rw [← hw7] at H7 A7 ⊢
            clear hw7
            go_wp2_with fail
            refine (alnum_any H7.tabsAt _ (by have := peek_lo s t3; omega) (by have := peek_hi s t3; omega)).mono ?_
            rintro e w' ⟨rfl, ys, d2, rfl⟩
            have H8 := H7.keep (grow_below w7 ys d2)
            have A8 := Acc.below A7 (grow_below w7 ys d2)
            obtain ⟨w8, hw8⟩ : ∃ x, x = grow w7 ys d2 := ⟨_, rfl⟩
            rw [← hw8] at H8 A8 ⊢
            clear hw8
            cases hl : alnum (peek s t3) with
            | false =>
              have hend := X2.out
              rw [hl] at hend
              have X3 := Lib.hid hend
              clear hend
              go_wp2_with fail
              go_ret
              rw [X3.out]
              exact ⟨rfl, A8.done H8⟩
            | true =>
              have hend := X2.out
              rw [hl] at hend
              have X3 := Lib.hid hend
              clear hend
              go_wp2_with fail
              refine (next_any H8).mono ?_
              rintro e w9 ⟨rfl, S9, hS9, H9, hf9⟩
              go_wp2_with fail
              go_ret
              rw [X3.out]
              exact ⟨rfl, (A8.step hS9 hf9).done H9⟩
          | true =>
            obtain ⟨t6, ht6⟩ : ∃ x, acceptRun dOct s (accept cSign s (next s t3)) = x := ⟨_, rfl⟩
            have hne : numEnd dOct s t3 = if alnum (peek s t6) then (false, next s t6) else (true, t6) := by unfold numEnd; simp only [hE, if_true]; rw [ht6]
            have X2 := Lib.hid (X1.out.trans hne)
            have HE := Lib.hid hE
            have T6 := Lib.hid ht6
            clear hE hne ht6
            refine (accept_any (v := ceE) H32).mono ?_
            rintro e w34 ⟨rfl, S34, hS34, H34, hf34⟩
            have A34 := Acc.step A32 hS34 hf34
            rw [HE.out]
            rw [accept_t HE.out] at H34
            go_wp2_with fail
            refine (accept_any (v := cSign) H34).mono ?_
            rintro e w35 ⟨rfl, S35, hS35, H35, hf35⟩
            have A35 := Acc.step A34 hS35 hf35
            go_wp2_with fail
            refine (acceptRun_any (v := dOct) H35).mono ?_
            rintro e w36 ⟨rfl, S36, hS36, H36, hf36⟩
            have A36 := Acc.step A35 hS36 hf36
            rw [T6.out] at H36
            go_wp2_with fail
            refine (peek_any H36).mono ?_
            rintro e w' ⟨rfl, xs, d, rfl⟩
            have H7 := H36.keep (grow_below w36 xs d)
            have A7 := Acc.below A36 (grow_below w36 xs d)
            obtain ⟨w7, hw7⟩ : ∃ x, x = grow w36 xs d := ⟨_, rfl⟩
            rw [← hw7] at H7 A7 ⊢
            clear hw7
            go_wp2_with fail
            refine (alnum_any H7.tabsAt _ (by have := peek_lo s t6; omega) (by have := peek_hi s t6; omega)).mono ?_
            rintro e w' ⟨rfl, ys, d2, rfl⟩
            have H8 := H7.keep (grow_below w7 ys d2)
            have A8 := Acc.below A7 (grow_below w7 ys d2)
            obtain ⟨w8, hw8⟩ : ∃ x, x = grow w7 ys d2 := ⟨_, rfl⟩
            rw [← hw8] at H8 A8 ⊢
            clear hw8
            cases hl : alnum (peek s t6) with
            | false =>
              have hend := X2.out
              rw [hl] at hend
              have X3 := Lib.hid hend
              clear hend
              go_wp2_with fail
              go_ret
              rw [X3.out]
              exact ⟨rfl, A8.done H8⟩
            | true =>
              have hend := X2.out
              rw [hl] at hend
              have X3 := Lib.hid hend
              clear hend
              go_wp2_with fail
              refine (next_any H8).mono ?_
              rintro e w9 ⟨rfl, S9, hS9, H9, hf9⟩
              go_wp2_with fail
              go_ret
              rw [X3.out]
              exact ⟨rfl, (A8.step hS9 hf9).done H9⟩
        | true =>
          have HD := Lib.hid hd
          clear hd
          obtain ⟨t4, ht4⟩ : ∃ x, next s t3 = x := ⟨_, rfl⟩
          have T4 := Lib.hid ht4
          refine (accept_any (v := cDot) (H31.keep (by repeat (first | exact Below.refl _ _ | apply below_drew | apply below_drewN | apply below_alloc | apply below_grow)))).mono ?_
          rintro e w37 ⟨rfl, S37, hS37, H37, hf37⟩
          have O37 := Own.made H31 hS37 hf37
          have A37 := Acc.step (Acc.below A31 (by repeat (first | exact Below.refl _ _ | apply below_drew | apply below_drewN | apply below_alloc | apply below_grow))) hS37 hf37
          rw [HD.out]
          rw [accept_t HD.out, ht4] at H37
          clear ht4
          go_wp2_with fail
          refine (peek_any H37).mono ?_
          rintro e w' ⟨rfl, xs, d, rfl⟩
          have H4 := H37.keep (grow_below w37 xs d)
          have A4 := Acc.below A37 (grow_below w37 xs d)
          have O4 := Own.below O37 (grow_below w37 xs d)
          obtain ⟨w4, hw4⟩ : ∃ x, x = grow w37 xs d := ⟨_, rfl⟩
          rw [← hw4] at H4 A4 O4 ⊢
          clear hw4
          by_cases hp : peek s t4 = 46
          · have hfr : numFrac dOct s t3 = (true, { t4 with eb := t3.eb, er := t3.er }) := by unfold numFrac; rw [HD.out, T4.out]; simp [hp]
            have X1 := Lib.hid (X0.out.trans hfr)
            rw [hp]
            clear hfr hp
            obtain ⟨R4, ev4, hL4, hR4, hc4, hr4, he4, l4, u0, u1, u2, u3, u4, u5, u6, u7, u8, u9, fz4⟩ := H4.opened
            have k0 := O4.cell 0
            have k1 := O4.cell 1
            have hsp : t4.sb ≤ t3.eb ∧ t3.eb ≤ 1099511627776 ∧ t4.sr ≤ t3.er ∧ t3.er ≤ t3.eb := by
              have := H31.poss
              rw [← T4.out, (next_same s t3).1, (next_same s t3).2.1]
              exact this
            go_wp2_with fail
            go_ret
            rw [X1.out]
            refine ⟨rfl, Done.trans A4.own A4.fr (Done.only (t' := { t4 with eb := t3.eb, er := t3.er }) H4 hL4 hR4 hr4 he4 (OnlyL.cast (by repeat (first | apply OnlyL.setCell | apply OnlyL.drew | apply OnlyL.drewN | apply OnlyL.alloc | exact OnlyL.refl hc4.out)) ?_) hc4.out rfl rfl hsp)⟩
            simp [cellsL]
          · have hp2 : (peek s t4 == 46) = false := by simpa using hp
            have hfr : numFrac dOct s t3 = numEnd dOct s (acceptRun dOct s t4) := by unfold numFrac; rw [HD.out, T4.out]; simp [hp]
            have X0b := Lib.hid (X0.out.trans hfr)
            have HP := Lib.hid hp
            clear hfr hp
            go_wp2_with fail
            refine (acceptRun_any (v := dOct) H4).mono ?_
            rintro e w38 ⟨rfl, S38, hS38, H38, hf38⟩
            have A38 := Acc.step A4 hS38 hf38
            obtain ⟨t5, ht5⟩ : ∃ x, acceptRun dOct s t4 = x := ⟨_, rfl⟩
            have X1 : Hid (scanNumber s t = numEnd dOct s t5) := Lib.hid (by rw [← ht5]; exact X0b.out)
            rw [ht5] at H38
            clear ht5
            go_wp2_with fail
            cases hE : acceptB ceE s t5 with
            | false =>
              have hne : numEnd dOct s t5 = if alnum (peek s t5) then (false, next s t5) else (true, t5) := by unfold numEnd; simp [hE]
              have X2 := Lib.hid (X1.out.trans hne)
              have HE := Lib.hid hE
              clear hE hne
              refine (accept_any (v := ceE) H38).mono ?_
              rintro e w39 ⟨rfl, S39, hS39, H39, hf39⟩
              have A39 := Acc.step A38 hS39 hf39
              rw [HE.out]
              rw [accept_f HE.out] at H39
              go_wp2_with fail
              refine (peek_any H39).mono ?_
              rintro e w' ⟨rfl, xs, d, rfl⟩
              have H7 := H39.keep (grow_below w39 xs d)
              have A7 := Acc.below A39 (grow_below w39 xs d)
              obtain ⟨w7, hw7⟩ : ∃ x, x = grow w39 xs d := ⟨_, rfl⟩
              rw [← hw7] at H7 A7 ⊢
              clear hw7
              go_wp2_with fail
              refine (alnum_any H7.tabsAt _ (by have := peek_lo s t5; omega) (by have := peek_hi s t5; omega)).mono ?_
              rintro e w' ⟨rfl, ys, d2, rfl⟩
              have H8 := H7.keep (grow_below w7 ys d2)
              have A8 := Acc.below A7 (grow_below w7 ys d2)
              obtain ⟨w8, hw8⟩ : ∃ x, x = grow w7 ys d2 := ⟨_, rfl⟩
              rw [← hw8] at H8 A8 ⊢
              clear hw8
              cases hl : alnum (peek s t5) with
              | false =>
                have hend := X2.out
                rw [hl] at hend
                have X3 := Lib.hid hend
                clear hend
                go_wp2_with fail
                go_ret
                rw [X3.out]
                exact ⟨rfl, A8.done H8⟩
              | true =>
                have hend := X2.out
                rw [hl] at hend
                have X3 := Lib.hid hend
                clear hend
                go_wp2_with fail
                refine (next_any H8).mono ?_
                rintro e w9 ⟨rfl, S9, hS9, H9, hf9⟩
                go_wp2_with fail
                go_ret
                rw [X3.out]
                exact ⟨rfl, (A8.step hS9 hf9).done H9⟩
            | true =>
              obtain ⟨t6, ht6⟩ : ∃ x, acceptRun dOct s (accept cSign s (next s t5)) = x := ⟨_, rfl⟩
              have hne : numEnd dOct s t5 = if alnum (peek s t6) then (false, next s t6) else (true, t6) := by unfold numEnd; simp only [hE, if_true]; rw [ht6]
              have X2 := Lib.hid (X1.out.trans hne)
              have HE := Lib.hid hE
              have T6 := Lib.hid ht6
              clear hE hne ht6
              refine (accept_any (v := ceE) H38).mono ?_
              rintro e w40 ⟨rfl, S40, hS40, H40, hf40⟩
              have A40 := Acc.step A38 hS40 hf40
              rw [HE.out]
              rw [accept_t HE.out] at H40
              go_wp2_with fail
              refine (accept_any (v := cSign) H40).mono ?_
              rintro e w41 ⟨rfl, S41, hS41, H41, hf41⟩
              have A41 := Acc.step A40 hS41 hf41
              go_wp2_with fail
              refine (acceptRun_any (v := dOct) H41).mono ?_
              rintro e w42 ⟨rfl, S42, hS42, H42, hf42⟩
              have A42 := Acc.step A41 hS42 hf42
              rw [T6.out] at H42
              go_wp2_with fail
              refine (peek_any H42).mono ?_
              rintro e w' ⟨rfl, xs, d, rfl⟩
              have H7 := H42.keep (grow_below w42 xs d)
              have A7 := Acc.below A42 (grow_below w42 xs d)
              obtain ⟨w7, hw7⟩ : ∃ x, x = grow w42 xs d := ⟨_, rfl⟩
              rw [← hw7] at H7 A7 ⊢
              clear hw7
              go_wp2_with fail
              refine (alnum_any H7.tabsAt _ (by have := peek_lo s t6; omega) (by have := peek_hi s t6; omega)).mono ?_
              rintro e w' ⟨rfl, ys, d2, rfl⟩
              have H8 := H7.keep (grow_below w7 ys d2)
              have A8 := Acc.below A7 (grow_below w7 ys d2)
              obtain ⟨w8, hw8⟩ : ∃ x, x = grow w7 ys d2 := ⟨_, rfl⟩
              rw [← hw8] at H8 A8 ⊢
              clear hw8
              cases hl : alnum (peek s t6) with
              | false =>
                have hend := X2.out
                rw [hl] at hend
                have X3 := Lib.hid hend
                clear hend
                go_wp2_with fail
                go_ret
                rw [X3.out]
                exact ⟨rfl, A8.done H8⟩
              | true =>
                have hend := X2.out
                rw [hl] at hend
                have X3 := Lib.hid hend
                clear hend
                go_wp2_with fail
                refine (next_any H8).mono ?_
                rintro e w9 ⟨rfl, S9, hS9, H9, hf9⟩
                go_wp2_with fail
                go_ret
                rw [X3.out]
                exact ⟨rfl, (A8.step hS9 hf9).done H9⟩
      | false =>
        cases h3 : acceptB cbB s (next s t) with
        | true =>
          have hpre : numPre s t = (dBin, (next s (next s t))) := by unfold numPre; simp [h0, h1, h2, h3]
          have P0 := Lib.hid h0
          have P1 := Lib.hid h1
          have P2 := Lib.hid h2
          have P3 := Lib.hid h3
          have Hpre := Lib.hid hpre
          clear hpre
          go_enter Tryf.func43, Tryf.ntmps43
          go_wp2_with fail
          refine (accept_any (v := c0) H).mono ?_
          rintro e w43 ⟨rfl, S43, hS43, H43, hf43⟩
          have A43 := Acc.step A0 hS43 hf43
          rw [P0.out]
          rw [accept_t P0.out] at H43
          go_wp2_with fail
          refine (accept_any (v := cxX) H43).mono ?_
          rintro e w44 ⟨rfl, S44, hS44, H44, hf44⟩
          have A44 := Acc.step A43 hS44 hf44
          rw [P1.out]
          rw [accept_f P1.out] at H44
          go_wp2_with fail
          refine (accept_any (v := coO) H44).mono ?_
          rintro e w45 ⟨rfl, S45, hS45, H45, hf45⟩
          have A45 := Acc.step A44 hS45 hf45
          rw [P2.out]
          rw [accept_f P2.out] at H45
          go_wp2_with fail
          refine (accept_any (v := cbB) H45).mono ?_
          rintro e w46 ⟨rfl, S46, hS46, H46, hf46⟩
          have A46 := Acc.step A45 hS46 hf46
          rw [P3.out]
          rw [accept_t P3.out] at H46
          go_wp2_with fail
          refine (acceptRun_any (v := dBin) H46).mono ?_
          rintro e w47 ⟨rfl, S47, hS47, H47, hf47⟩
          have A47 := Acc.step A46 hS47 hf47
          obtain ⟨t3, ht3⟩ : ∃ x, acceptRun dBin s (next s (next s t)) = x := ⟨_, rfl⟩
          rw [ht3] at H47
          have T3 := Lib.hid ht3
          clear ht3
          obtain ⟨R3, ev3, hL3, hR3, hc3, hr3, he3, l3, q0, q1, q2, q3, q4, q5, q6, q7, q8, q9, fz3⟩ := H47.opened
          go_wp2_with fail
          have hsc : scanNumber s t = numFrac dBin s t3 := by unfold scanNumber; rw [Hpre.out]; dsimp only; rw [T3.out]
          have X0 := Lib.hid hsc
          clear hsc
          cases hd : acceptB cDot s t3 with
          | false =>
            have hfr : numFrac dBin s t3 = numEnd dBin s t3 := by unfold numFrac; simp [hd]
            have X1 := Lib.hid (X0.out.trans hfr)
            clear hfr
            have HD := Lib.hid hd
            clear hd
            refine (accept_any (v := cDot) (H47.keep (by repeat (first | exact Below.refl _ _ | apply below_drew | apply below_drewN | apply below_alloc | apply below_grow)))).mono ?_
            rintro e w48 ⟨rfl, S48, hS48, H48, hf48⟩
            have A48 := Acc.step (Acc.below A47 (by repeat (first | exact Below.refl _ _ | apply below_drew | apply below_drewN | apply below_alloc | apply below_grow))) hS48 hf48
            rw [HD.out]
            rw [accept_f HD.out] at H48
            go_wp2_with fail
            cases hE : acceptB ceE s t3 with
            | false =>
              have hne : numEnd dBin s t3 = if alnum (peek s t3) then (false, next s t3) else (true, t3) := by unfold numEnd; simp [hE]
              have X2 := Lib.hid (X1.out.trans hne)
              have HE := Lib.hid hE
              clear hE hne
              refine (accept_any (v := ceE) H48).mono ?_
              rintro e w49 ⟨rfl, S49, hS49, H49, hf49⟩
              have A49 := Acc.step A48 hS49 hf49
              rw [HE.out]
              rw [accept_f HE.out] at H49
              go_wp2_with fail
              refine (peek_any H49).mono ?_
              rintro e w' ⟨rfl, xs, d, rfl⟩
              have H7 := H49.keep (grow_below w49 xs d)
              have A7 := Acc.below A49 (grow_below w49 xs d)
              obtain ⟨w7, hw7⟩ : ∃ x, x = grow w49 xs d := ⟨_, rfl⟩
              rw [← hw7] at H7 A7 ⊢
              clear hw7
              go_wp2_with fail
              refine (alnum_any H7.tabsAt _ (by have := peek_lo s t3; omega) (by have := peek_hi s t3; omega)).mono ?_
              rintro e w' ⟨rfl, ys, d2, rfl⟩
              have H8 := H7.keep (grow_below w7 ys d2)
              have A8 := Acc.below A7 (grow_below w7 ys d2)
              obtain ⟨w8, hw8⟩ : ∃ x, x = grow w7 ys d2 := ⟨_, rfl⟩
              rw [← hw8] at H8 A8 ⊢
              clear hw8
              cases hl : alnum (peek s t3) with
              | false =>
                have hend := X2.out
                rw [hl] at hend
                have X3 := Lib.hid hend
                clear hend
                go_wp2_with fail
                go_ret
                rw [X3.out]
                exact ⟨rfl, A8.done H8⟩
              | true =>
                have hend := X2.out
                rw [hl] at hend
                have X3 := Lib.hid hend
                clear hend
                go_wp2_with fail
                refine (next_any H8).mono ?_
                rintro e w9 ⟨rfl, S9, hS9, H9, hf9⟩
                go_wp2_with fail
                go_ret
                rw [X3.out]
                exact ⟨rfl, (A8.step hS9 hf9).done H9⟩
            | true =>
              obtain ⟨t6, ht6⟩ : ∃ x, acceptRun dBin s (accept cSign s (next s t3)) = x := ⟨_, rfl⟩
              have hne : numEnd dBin s t3 = if alnum (peek s t6) then (false, next s t6) else (true, t6) := by unfold numEnd; simp only [hE, if_true]; rw [ht6]
              have X2 := Lib.hid (X1.out.trans hne)
              have HE := Lib.hid hE
              have T6 := Lib.hid ht6
              clear hE hne ht6
              refine (accept_any (v := ceE) H48).mono ?_
              rintro e w50 ⟨rfl, S50, hS50, H50, hf50⟩
              have A50 := Acc.step A48 hS50 hf50
              rw [HE.out]
              rw [accept_t HE.out] at H50
              go_wp2_with fail
              refine (accept_any (v := cSign) H50).mono ?_
              rintro e w51 ⟨rfl, S51, hS51, H51, hf51⟩
              have A51 := Acc.step A50 hS51 hf51
              go_wp2_with fail
              refine (acceptRun_any (v := dBin) H51).mono ?_
              rintro e w52 ⟨rfl, S52, hS52, H52, hf52⟩
              have A52 := Acc.step A51 hS52 hf52
              rw [T6.out] at H52
              go_wp2_with fail
              refine (peek_any H52).mono ?_
              rintro e w' ⟨rfl, xs, d, rfl⟩
              have H7 := H52.keep (grow_below w52 xs d)
              have A7 := Acc.below A52 (grow_below w52 xs d)
              obtain ⟨w7, hw7⟩ : ∃ x, x = grow w52 xs d := ⟨_, rfl⟩
              rw [← hw7] at H7 A7 ⊢
              clear hw7
              go_wp2_with fail
              refine (alnum_any H7.tabsAt _ (by have := peek_lo s t6; omega) (by have := peek_hi s t6; omega)).mono ?_
              rintro e w' ⟨rfl, ys, d2, rfl⟩
              have H8 := H7.keep (grow_below w7 ys d2)
              have A8 := Acc.below A7 (grow_below w7 ys d2)
              obtain ⟨w8, hw8⟩ : ∃ x, x = grow w7 ys d2 := ⟨_, rfl⟩
              rw [← hw8] at H8 A8 ⊢
              clear hw8
              cases hl : alnum (peek s t6) with
              | false =>
                have hend := X2.out
                rw [hl] at hend
                have X3 := Lib.hid hend
                clear hend
                go_wp2_with fail
                go_ret
                rw [X3.out]
                exact ⟨rfl, A8.done H8⟩
              | true =>
                have hend := X2.out
                rw [hl] at hend
                have X3 := Lib.hid hend
                clear hend
                go_wp2_with fail
                refine (next_any H8).mono ?_
                rintro e w9 ⟨rfl, S9, hS9, H9, hf9⟩
                go_wp2_with fail
                go_ret
                rw [X3.out]
                exact ⟨rfl, (A8.step hS9 hf9).done H9⟩
          | true =>
            have HD := Lib.hid hd
            clear hd
            obtain ⟨t4, ht4⟩ : ∃ x, next s t3 = x := ⟨_, rfl⟩
            have T4 := Lib.hid ht4
            refine (accept_any (v := cDot) (H47.keep (by repeat (first | exact Below.refl _ _ | apply below_drew | apply below_drewN | apply below_alloc | apply below_grow)))).mono ?_
            rintro e w53 ⟨rfl, S53, hS53, H53, hf53⟩
            have O53 := Own.made H47 hS53 hf53
            have A53 := Acc.step (Acc.below A47 (by repeat (first | exact Below.refl _ _ | apply below_drew | apply below_drewN | apply below_alloc | apply below_grow))) hS53 hf53
            rw [HD.out]
            rw [accept_t HD.out, ht4] at H53
            clear ht4
            go_wp2_with fail
            refine (peek_any H53).mono ?_
            rintro e w' ⟨rfl, xs, d, rfl⟩
            have H4 := H53.keep (grow_below w53 xs d)
            have A4 := Acc.below A53 (grow_below w53 xs d)
            have O4 := Own.below O53 (grow_below w53 xs d)
            obtain ⟨w4, hw4⟩ : ∃ x, x = grow w53 xs d := ⟨_, rfl⟩
            rw [← hw4] at H4 A4 O4 ⊢
            clear hw4
            by_cases hp : peek s t4 = 46
            · have hfr : numFrac dBin s t3 = (true, { t4 with eb := t3.eb, er := t3.er }) := by unfold numFrac; rw [HD.out, T4.out]; simp [hp]
              have X1 := Lib.hid (X0.out.trans hfr)
              rw [hp]
              clear hfr hp
              obtain ⟨R4, ev4, hL4, hR4, hc4, hr4, he4, l4, u0, u1, u2, u3, u4, u5, u6, u7, u8, u9, fz4⟩ := H4.opened
              have k0 := O4.cell 0
              have k1 := O4.cell 1
              have hsp : t4.sb ≤ t3.eb ∧ t3.eb ≤ 1099511627776 ∧ t4.sr ≤ t3.er ∧ t3.er ≤ t3.eb := by
                have := H47.poss
                rw [← T4.out, (next_same s t3).1, (next_same s t3).2.1]
                exact this
              go_wp2_with fail
              go_ret
              rw [X1.out]
              refine ⟨rfl, Done.trans A4.own A4.fr (Done.only (t' := { t4 with eb := t3.eb, er := t3.er }) H4 hL4 hR4 hr4 he4 (OnlyL.cast (by repeat (first | apply OnlyL.setCell | apply OnlyL.drew | apply OnlyL.drewN | apply OnlyL.alloc | exact OnlyL.refl hc4.out)) ?_) hc4.out rfl rfl hsp)⟩
              simp [cellsL]
            · have hp2 : (peek s t4 == 46) = false := by simpa using hp
              have hfr : numFrac dBin s t3 = numEnd dBin s (acceptRun dBin s t4) := by unfold numFrac; rw [HD.out, T4.out]; simp [hp]
              have X0b := Lib.hid (X0.out.trans hfr)
              have HP := Lib.hid hp
              clear hfr hp
              go_wp2_with fail
              refine (acceptRun_any (v := dBin) H4).mono ?_
              rintro e w54 ⟨rfl, S54, hS54, H54, hf54⟩
              have A54 := Acc.step A4 hS54 hf54
              obtain ⟨t5, ht5⟩ : ∃ x, acceptRun dBin s t4 = x := ⟨_, rfl⟩
              have X1 : Hid (scanNumber s t = numEnd dBin s t5) := Lib.hid (by rw [← ht5]; exact X0b.out)
              rw [ht5] at H54
              clear ht5
              go_wp2_with fail
              cases hE : acceptB ceE s t5 with
              | false =>
                have hne : numEnd dBin s t5 = if alnum (peek s t5) then (false, next s t5) else (true, t5) := by unfold numEnd; simp [hE]
                have X2 := Lib.hid (X1.out.trans hne)
                have HE := Lib.hid hE
                clear hE hne
                refine (accept_any (v := ceE) H54).mono ?_
                rintro e w55 ⟨rfl, S55, hS55, H55, hf55⟩
                have A55 := Acc.step A54 hS55 hf55
                rw [HE.out]
                rw [accept_f HE.out] at H55
                go_wp2_with fail
                refine (peek_any H55).mono ?_
                rintro e w' ⟨rfl, xs, d, rfl⟩
                have H7 := H55.keep (grow_below w55 xs d)
                have A7 := Acc.below A55 (grow_below w55 xs d)
                obtain ⟨w7, hw7⟩ : ∃ x, x = grow w55 xs d := ⟨_, rfl⟩
                rw [← hw7] at H7 A7 ⊢
                clear hw7
                go_wp2_with fail
                refine (alnum_any H7.tabsAt _ (by have := peek_lo s t5; omega) (by have := peek_hi s t5; omega)).mono ?_
                rintro e w' ⟨rfl, ys, d2, rfl⟩
                have H8 := H7.keep (grow_below w7 ys d2)
                have A8 := Acc.below A7 (grow_below w7 ys d2)
                obtain ⟨w8, hw8⟩ : ∃ x, x = grow w7 ys d2 := ⟨_, rfl⟩
                rw [← hw8] at H8 A8 ⊢
                clear hw8
                cases hl : alnum (peek s t5) with
                | false =>
                  have hend := X2.out
                  rw [hl] at hend
                  have X3 := Lib.hid hend
                  clear hend
                  go_wp2_with fail
                  go_ret
                  rw [X3.out]
                  exact ⟨rfl, A8.done H8⟩
                | true =>
                  have hend := X2.out
                  rw [hl] at hend
                  have X3 := Lib.hid hend
                  clear hend
                  go_wp2_with fail
                  refine (next_any H8).mono ?_
                  rintro e w9 ⟨rfl, S9, hS9, H9, hf9⟩
                  go_wp2_with fail
                  go_ret
                  rw [X3.out]
                  exact ⟨rfl, (A8.step hS9 hf9).done H9⟩
              | true =>
                obtain ⟨t6, ht6⟩ : ∃ x, acceptRun dBin s (accept cSign s (next s t5)) = x := ⟨_, rfl⟩
                have hne : numEnd dBin s t5 = if alnum (peek s t6) then (false, next s t6) else (true, t6) := by unfold numEnd; simp only [hE, if_true]; rw [ht6]
                have X2 := Lib.hid (X1.out.trans hne)
                have HE := Lib.hid hE
                have T6 := Lib.hid ht6
                clear hE hne ht6
                refine (accept_any (v := ceE) H54).mono ?_
                rintro e w56 ⟨rfl, S56, hS56, H56, hf56⟩
                have A56 := Acc.step A54 hS56 hf56
                rw [HE.out]
                rw [accept_t HE.out] at H56
                go_wp2_with fail
                refine (accept_any (v := cSign) H56).mono ?_
                rintro e w57 ⟨rfl, S57, hS57, H57, hf57⟩
                have A57 := Acc.step A56 hS57 hf57
                go_wp2_with fail
                refine (acceptRun_any (v := dBin) H57).mono ?_
                rintro e w58 ⟨rfl, S58, hS58, H58, hf58⟩
                have A58 := Acc.step A57 hS58 hf58
                rw [T6.out] at H58
                go_wp2_with fail
                refine (peek_any H58).mono ?_
                rintro e w' ⟨rfl, xs, d, rfl⟩
                have H7 := H58.keep (grow_below w58 xs d)
                have A7 := Acc.below A58 (grow_below w58 xs d)
                obtain ⟨w7, hw7⟩ : ∃ x, x = grow w58 xs d := ⟨_, rfl⟩
                rw [← hw7] at H7 A7 ⊢
                clear hw7
                go_wp2_with fail
                refine (alnum_any H7.tabsAt _ (by have := peek_lo s t6; omega) (by have := peek_hi s t6; omega)).mono ?_
                rintro e w' ⟨rfl, ys, d2, rfl⟩
                have H8 := H7.keep (grow_below w7 ys d2)
                have A8 := Acc.below A7 (grow_below w7 ys d2)
                obtain ⟨w8, hw8⟩ : ∃ x, x = grow w7 ys d2 := ⟨_, rfl⟩
                rw [← hw8] at H8 A8 ⊢
                clear hw8
                cases hl : alnum (peek s t6) with
                | false =>
                  have hend := X2.out
                  rw [hl] at hend
                  have X3 := Lib.hid hend
                  clear hend
                  go_wp2_with fail
                  go_ret
                  rw [X3.out]
                  exact ⟨rfl, A8.done H8⟩
                | true =>
                  have hend := X2.out
                  rw [hl] at hend
                  have X3 := Lib.hid hend
                  clear hend
                  go_wp2_with fail
                  refine (next_any H8).mono ?_
                  rintro e w9 ⟨rfl, S9, hS9, H9, hf9⟩
                  go_wp2_with fail
                  go_ret
                  rw [X3.out]
                  exact ⟨rfl, (A8.step hS9 hf9).done H9⟩
        | false =>
          have hpre : numPre s t = (dDec, (next s t)) := by unfold numPre; simp [h0, h1, h2, h3]
          have P0 := Lib.hid h0
          have P1 := Lib.hid h1
          have P2 := Lib.hid h2
          have P3 := Lib.hid h3
          have Hpre := Lib.hid hpre
          clear hpre
          go_enter Tryf.func43, Tryf.ntmps43
          go_wp2_with fail
          refine (accept_any (v := c0) H).mono ?_
          rintro e w59 ⟨rfl, S59, hS59, H59, hf59⟩
          have A59 := Acc.step A0 hS59 hf59
          rw [P0.out]
          rw [accept_t P0.out] at H59
          go_wp2_with fail
          refine (accept_any (v := cxX) H59).mono ?_
          rintro e w60 ⟨rfl, S60, hS60, H60, hf60⟩
          have A60 := Acc.step A59 hS60 hf60
          rw [P1.out]
          rw [accept_f P1.out] at H60
          go_wp2_with fail
          refine (accept_any (v := coO) H60).mono ?_
          rintro e w61 ⟨rfl, S61, hS61, H61, hf61⟩
          have A61 := Acc.step A60 hS61 hf61
          rw [P2.out]
          rw [accept_f P2.out] at H61
          go_wp2_with fail
          refine (accept_any (v := cbB) H61).mono ?_
          rintro e w62 ⟨rfl, S62, hS62, H62, hf62⟩
          have A62 := Acc.step A61 hS62 hf62
          rw [P3.out]
          rw [accept_f P3.out] at H62
          go_wp2_with fail
          refine (acceptRun_any (v := dDec) H62).mono ?_
          rintro e w63 ⟨rfl, S63, hS63, H63, hf63⟩
          have A63 := Acc.step A62 hS63 hf63
          obtain ⟨t3, ht3⟩ : ∃ x, acceptRun dDec s (next s t) = x := ⟨_, rfl⟩
          rw [ht3] at H63
          have T3 := Lib.hid ht3
          clear ht3
          obtain ⟨R3, ev3, hL3, hR3, hc3, hr3, he3, l3, q0, q1, q2, q3, q4, q5, q6, q7, q8, q9, fz3⟩ := H63.opened
          go_wp2_with fail
          have hsc : scanNumber s t = numFrac dDec s t3 := by unfold scanNumber; rw [Hpre.out]; dsimp only; rw [T3.out]
          have X0 := Lib.hid hsc
          clear hsc
          cases hd : acceptB cDot s t3 with
          | false =>
            have hfr : numFrac dDec s t3 = numEnd dDec s t3 := by unfold numFrac; simp [hd]
            have X1 := Lib.hid (X0.out.trans hfr)
            clear hfr
            have HD := Lib.hid hd
            clear hd
            refine (accept_any (v := cDot) (H63.keep (by repeat (first | exact Below.refl _ _ | apply below_drew | apply below_drewN | apply below_alloc | apply below_grow)))).mono ?_
            rintro e w64 ⟨rfl, S64, hS64, H64, hf64⟩
            have A64 := Acc.step (Acc.below A63 (by repeat (first | exact Below.refl _ _ | apply below_drew | apply below_drewN | apply below_alloc | apply below_grow))) hS64 hf64
            rw [HD.out]
            rw [accept_f HD.out] at H64
            go_wp2_with fail
            cases hE : acceptB ceE s t3 with
            | false =>
              have hne : numEnd dDec s t3 = if alnum (peek s t3) then (false, next s t3) else (true, t3) := by unfold numEnd; simp [hE]
              have X2 := Lib.hid (X1.out.trans hne)
              have HE := Lib.hid hE
              clear hE hne
              refine (accept_any (v := ceE) H64).mono ?_
              rintro e w65 ⟨rfl, S65, hS65, H65, hf65⟩
              have A65 := Acc.step A64 hS65 hf65
              rw [HE.out]
              rw [accept_f HE.out] at H65
              go_wp2_with fail
              refine (peek_any H65).mono ?_
              rintro e w' ⟨rfl, xs, d, rfl⟩
              have H7 := H65.keep (grow_below w65 xs d)
              have A7 := Acc.below A65 (grow_below w65 xs d)
              obtain ⟨w7, hw7⟩ : ∃ x, x = grow w65 xs d := ⟨_, rfl⟩
              rw [← hw7] at H7 A7 ⊢
              clear hw7
              go_wp2_with fail
              refine (alnum_any H7.tabsAt _ (by have := peek_lo s t3; omega) (by have := peek_hi s t3; omega)).mono ?_
              rintro e w' ⟨rfl, ys, d2, rfl⟩
              have H8 := H7.keep (grow_below w7 ys d2)
              have A8 := Acc.below A7 (grow_below w7 ys d2)
              obtain ⟨w8, hw8⟩ : ∃ x, x = grow w7 ys d2 := ⟨_, rfl⟩
              rw [← hw8] at H8 A8 ⊢
              clear hw8
              cases hl : alnum (peek s t3) with
              | false =>
                have hend := X2.out
                rw [hl] at hend
                have X3 := Lib.hid hend
                clear hend
                go_wp2_with fail
                go_ret
                rw [X3.out]
                exact ⟨rfl, A8.done H8⟩
              | true =>
                have hend := X2.out
                rw [hl] at hend
                have X3 := Lib.hid hend
                clear hend
                go_wp2_with fail
                refine (next_any H8).mono ?_
                rintro e w9 ⟨rfl, S9, hS9, H9, hf9⟩
                go_wp2_with fail
                go_ret
                rw [X3.out]
                exact ⟨rfl, (A8.step hS9 hf9).done H9⟩
            | true =>
              obtain ⟨t6, ht6⟩ : ∃ x, acceptRun dDec s (accept cSign s (next s t3)) = x := ⟨_, rfl⟩
              have hne : numEnd dDec s t3 = if alnum (peek s t6) then (false, next s t6) else (true, t6) := by unfold numEnd; simp only [hE, if_true]; rw [ht6]
              have X2 := Lib.hid (X1.out.trans hne)
              have HE := Lib.hid hE
              have T6 := Lib.hid ht6
              clear hE hne ht6
              refine (accept_any (v := ceE) H64).mono ?_
              rintro e w66 ⟨rfl, S66, hS66, H66, hf66⟩
              have A66 := Acc.step A64 hS66 hf66
              rw [HE.out]
              rw [accept_t HE.out] at H66
              go_wp2_with fail
              refine (accept_any (v := cSign) H66).mono ?_
              rintro e w67 ⟨rfl, S67, hS67, H67, hf67⟩
              have A67 := Acc.step A66 hS67 hf67
              go_wp2_with fail
              refine (acceptRun_any (v := dDec) H67).mono ?_
              rintro e w68 ⟨rfl, S68, hS68, H68, hf68⟩
              have A68 := Acc.step A67 hS68 hf68
              rw [T6.out] at H68
              go_wp2_with fail
              refine (peek_any H68).mono ?_
              rintro e w' ⟨rfl, xs, d, rfl⟩
              have H7 := H68.keep (grow_below w68 xs d)
              have A7 := Acc.below A68 (grow_below w68 xs d)
              obtain ⟨w7, hw7⟩ : ∃ x, x = grow w68 xs d := ⟨_, rfl⟩
              rw [← hw7] at H7 A7 ⊢
              clear hw7
              go_wp2_with fail
              refine (alnum_any H7.tabsAt _ (by have := peek_lo s t6; omega) (by have := peek_hi s t6; omega)).mono ?_
              rintro e w' ⟨rfl, ys, d2, rfl⟩
              have H8 := H7.keep (grow_below w7 ys d2)
              have A8 := Acc.below A7 (grow_below w7 ys d2)
              obtain ⟨w8, hw8⟩ : ∃ x, x = grow w7 ys d2 := ⟨_, rfl⟩
              rw [← hw8] at H8 A8 ⊢
              clear hw8
              cases hl : alnum (peek s t6) with
              | false =>
                have hend := X2.out
                rw [hl] at hend
                have X3 := Lib.hid hend
                clear hend
                go_wp2_with fail
                go_ret
                rw [X3.out]
                exact ⟨rfl, A8.done H8⟩
              | true =>
                have hend := X2.out
                rw [hl] at hend
                have X3 := Lib.hid hend
                clear hend
                go_wp2_with fail
                refine (next_any H8).mono ?_
                rintro e w9 ⟨rfl, S9, hS9, H9, hf9⟩
                go_wp2_with fail
                go_ret
                rw [X3.out]
                exact ⟨rfl, (A8.step hS9 hf9).done H9⟩
          | true =>
            have HD := Lib.hid hd
            clear hd
            obtain ⟨t4, ht4⟩ : ∃ x, next s t3 = x := ⟨_, rfl⟩
            have T4 := Lib.hid ht4
            refine (accept_any (v := cDot) (H63.keep (by repeat (first | exact Below.refl _ _ | apply below_drew | apply below_drewN | apply below_alloc | apply below_grow)))).mono ?_
            rintro e w69 ⟨rfl, S69, hS69, H69, hf69⟩
            have O69 := Own.made H63 hS69 hf69
            have A69 := Acc.step (Acc.below A63 (by repeat (first | exact Below.refl _ _ | apply below_drew | apply below_drewN | apply below_alloc | apply below_grow))) hS69 hf69
            rw [HD.out]
            rw [accept_t HD.out, ht4] at H69
            clear ht4
            go_wp2_with fail
            refine (peek_any H69).mono ?_
            rintro e w' ⟨rfl, xs, d, rfl⟩
            have H4 := H69.keep (grow_below w69 xs d)
            have A4 := Acc.below A69 (grow_below w69 xs d)
            have O4 := Own.below O69 (grow_below w69 xs d)
            obtain ⟨w4, hw4⟩ : ∃ x, x = grow w69 xs d := ⟨_, rfl⟩
            rw [← hw4] at H4 A4 O4 ⊢
            clear hw4
            by_cases hp : peek s t4 = 46
            · have hfr : numFrac dDec s t3 = (true, { t4 with eb := t3.eb, er := t3.er }) := by unfold numFrac; rw [HD.out, T4.out]; simp [hp]
              have X1 := Lib.hid (X0.out.trans hfr)
              rw [hp]
              clear hfr hp
              obtain ⟨R4, ev4, hL4, hR4, hc4, hr4, he4, l4, u0, u1, u2, u3, u4, u5, u6, u7, u8, u9, fz4⟩ := H4.opened
              have k0 := O4.cell 0
              have k1 := O4.cell 1
              have hsp : t4.sb ≤ t3.eb ∧ t3.eb ≤ 1099511627776 ∧ t4.sr ≤ t3.er ∧ t3.er ≤ t3.eb := by
                have := H63.poss
                rw [← T4.out, (next_same s t3).1, (next_same s t3).2.1]
                exact this
              go_wp2_with fail
              go_ret
              rw [X1.out]
              refine ⟨rfl, Done.trans A4.own A4.fr (Done.only (t' := { t4 with eb := t3.eb, er := t3.er }) H4 hL4 hR4 hr4 he4 (OnlyL.cast (by repeat (first | apply OnlyL.setCell | apply OnlyL.drew | apply OnlyL.drewN | apply OnlyL.alloc | exact OnlyL.refl hc4.out)) ?_) hc4.out rfl rfl hsp)⟩
              simp [cellsL]
            · have hp2 : (peek s t4 == 46) = false := by simpa using hp
              have hfr : numFrac dDec s t3 = numEnd dDec s (acceptRun dDec s t4) := by unfold numFrac; rw [HD.out, T4.out]; simp [hp]
              have X0b := Lib.hid (X0.out.trans hfr)
              have HP := Lib.hid hp
              clear hfr hp
              go_wp2_with fail
              refine (acceptRun_any (v := dDec) H4).mono ?_
              rintro e w70 ⟨rfl, S70, hS70, H70, hf70⟩
              have A70 := Acc.step A4 hS70 hf70
              obtain ⟨t5, ht5⟩ : ∃ x, acceptRun dDec s t4 = x := ⟨_, rfl⟩
              have X1 : Hid (scanNumber s t = numEnd dDec s t5) := Lib.hid (by rw [← ht5]; exact X0b.out)
              rw [ht5] at H70
              clear ht5
              go_wp2_with fail
              cases hE : acceptB ceE s t5 with
              | false =>
                have hne : numEnd dDec s t5 = if alnum (peek s t5) then (false, next s t5) else (true, t5) := by unfold numEnd; simp [hE]
                have X2 := Lib.hid (X1.out.trans hne)
                have HE := Lib.hid hE
                clear hE hne
                refine (accept_any (v := ceE) H70).mono ?_
                rintro e w71 ⟨rfl, S71, hS71, H71, hf71⟩
                have A71 := Acc.step A70 hS71 hf71
                rw [HE.out]
                rw [accept_f HE.out] at H71
                go_wp2_with fail
                refine (peek_any H71).mono ?_
                rintro e w' ⟨rfl, xs, d, rfl⟩
                have H7 := H71.keep (grow_below w71 xs d)
                have A7 := Acc.below A71 (grow_below w71 xs d)
                obtain ⟨w7, hw7⟩ : ∃ x, x = grow w71 xs d := ⟨_, rfl⟩
                rw [← hw7] at H7 A7 ⊢
                clear hw7
                go_wp2_with fail
                refine (alnum_any H7.tabsAt _ (by have := peek_lo s t5; omega) (by have := peek_hi s t5; omega)).mono ?_
                rintro e w' ⟨rfl, ys, d2, rfl⟩
                have H8 := H7.keep (grow_below w7 ys d2)
                have A8 := Acc.below A7 (grow_below w7 ys d2)
                obtain ⟨w8, hw8⟩ : ∃ x, x = grow w7 ys d2 := ⟨_, rfl⟩
                rw [← hw8] at H8 A8 ⊢
                clear hw8
                cases hl : alnum (peek s t5) with
                | false =>
                  have hend := X2.out
                  rw [hl] at hend
                  have X3 := Lib.hid hend
                  clear hend
                  go_wp2_with fail
                  go_ret
                  rw [X3.out]
                  exact ⟨rfl, A8.done H8⟩
                | true =>
                  have hend := X2.out
                  rw [hl] at hend
                  have X3 := Lib.hid hend
                  clear hend
                  go_wp2_with fail
                  refine (next_any H8).mono ?_
                  rintro e w9 ⟨rfl, S9, hS9, H9, hf9⟩
                  go_wp2_with fail
                  go_ret
                  rw [X3.out]
                  exact ⟨rfl, (A8.step hS9 hf9).done H9⟩
              | true =>
                obtain ⟨t6, ht6⟩ : ∃ x, acceptRun dDec s (accept cSign s (next s t5)) = x := ⟨_, rfl⟩
                have hne : numEnd dDec s t5 = if alnum (peek s t6) then (false, next s t6) else (true, t6) := by unfold numEnd; simp only [hE, if_true]; rw [ht6]
                have X2 := Lib.hid (X1.out.trans hne)
                have HE := Lib.hid hE
                have T6 := Lib.hid ht6
                clear hE hne ht6
                refine (accept_any (v := ceE) H70).mono ?_
                rintro e w72 ⟨rfl, S72, hS72, H72, hf72⟩
                have A72 := Acc.step A70 hS72 hf72
                rw [HE.out]
                rw [accept_t HE.out] at H72
                go_wp2_with fail
                refine (accept_any (v := cSign) H72).mono ?_
                rintro e w73 ⟨rfl, S73, hS73, H73, hf73⟩
                have A73 := Acc.step A72 hS73 hf73
                go_wp2_with fail
                refine (acceptRun_any (v := dDec) H73).mono ?_
                rintro e w74 ⟨rfl, S74, hS74, H74, hf74⟩
                have A74 := Acc.step A73 hS74 hf74
                rw [T6.out] at H74
                go_wp2_with fail
                refine (peek_any H74).mono ?_
                rintro e w' ⟨rfl, xs, d, rfl⟩
                have H7 := H74.keep (grow_below w74 xs d)
                have A7 := Acc.below A74 (grow_below w74 xs d)
                obtain ⟨w7, hw7⟩ : ∃ x, x = grow w74 xs d := ⟨_, rfl⟩
                rw [← hw7] at H7 A7 ⊢
                clear hw7
                go_wp2_with fail
                refine (alnum_any H7.tabsAt _ (by have := peek_lo s t6; omega) (by have := peek_hi s t6; omega)).mono ?_
                rintro e w' ⟨rfl, ys, d2, rfl⟩
                have H8 := H7.keep (grow_below w7 ys d2)
                have A8 := Acc.below A7 (grow_below w7 ys d2)
                obtain ⟨w8, hw8⟩ : ∃ x, x = grow w7 ys d2 := ⟨_, rfl⟩
                rw [← hw8] at H8 A8 ⊢
                clear hw8
                cases hl : alnum (peek s t6) with
                | false =>
                  have hend := X2.out
                  rw [hl] at hend
                  have X3 := Lib.hid hend
                  clear hend
                  go_wp2_with fail
                  go_ret
                  rw [X3.out]
                  exact ⟨rfl, A8.done H8⟩
                | true =>
                  have hend := X2.out
                  rw [hl] at hend
                  have X3 := Lib.hid hend
                  clear hend
                  go_wp2_with fail
                  refine (next_any H8).mono ?_
                  rintro e w9 ⟨rfl, S9, hS9, H9, hf9⟩
                  go_wp2_with fail
                  go_ret
                  rw [X3.out]
                  exact ⟨rfl, (A8.step hS9 hf9).done H9⟩

end Go.Proofs.YtdpdgppjeekcmaaFmt
