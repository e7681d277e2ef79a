/-
  Walks: the states identifier, not, pointer (printed by genident.py).
-/
import Derived.Test.YtkplkccjeacniaaFmtAccs
import Derived.Test.YtkplkccjeacniaaFmtJA
import Derived.Test.YtkplkccjeacniaaFmtEmitA
namespace Go.Proofs.YtkplkccjeacniaaFmt
open Go Go.Lib Go.RowKit Go.Proofs

theorem str_ne {v : ByteArray} {l : List UInt8} (h : ¬ v = ⟨l.toArray⟩) : (v.toList == l) = false := by
  rw [beq_eq_false_iff_ne, ByteArray.toList_eq]
  intro e
  apply h
  apply ByteArray.ext
  apply Array.ext'
  simpa using e
theorem str_eq {v : ByteArray} {l : List UInt8} (h : v = ⟨l.toArray⟩) : (v.toList == l) = true := by
  rw [beq_iff_eq, ByteArray.toList_eq, h]
theorem Acc.trans {W0 : World} {S S2 : Nat → Prop} {w w2 w3 : World} {L : Nat} {s : ByteArray} {t : St} (a : Acc S w S2 w2) (h : Done W0 S2 w2 L s t w3) : Done W0 S w L s t w3 := by
  obtain ⟨S3, h1, h2, h3⟩ := h
  exact (Acc.step a h1 h3).done h2

set_option maxHeartbeats 4000000 in
set_option maxRecDepth 100000 in
theorem identifier_any {W0 w : World} {S : Nat → Prop} {L : Nat} {s : ByteArray} {t : St} (H : Lx W0 S w L s t) (hB : Back s t) (hn : t.toks.length ≤ 9) :
    Calls Tryf.prog 45 #[.pointer (some ⟨L, 0, none⟩)] w fun e w' => e = .returned (qVal (identifier s t).1) ∧ Done W0 S w L s (identifier s t).2 w' := by
  have A0 := Acc.refl S w
  have hrd := reads_alnumSkip s t
  go_enter Tryf.func45, Tryf.ntmps45
  go_wp2_with fail
  go_step3
  go_wp2_with fail
  go_step3
  go_wp2_with fail
  go_loopg [] (s.size - t.eb + 1) (fun g wr => ∃ S1 t1, Acc S w S1 wr ∧ Lx W0 S1 wr L s t1 ∧ Back s t1 ∧ Hid (alnumSkip s t1 = alnumSkip s t) ∧ s.size - t1.eb < g)
  case atStart => exact ⟨S, t, A0, H, hB, Lib.hid rfl, by omega⟩
  case round =>
    obtain ⟨S1, t1, A1, H1, hB1, heq, hg⟩ := hrel
    have hm := alnumSkip_eq s t1
    rw [heq.out] at hm
    clear heq
    have hlo := peek_lo s t1
    have hhi := peek_hi s t1
    cases hal : alnum (peek s t1) with
    | true =>
      have hl := alnum_in hal
      have hsub := next_sub hl
      rw [hal, if_pos rfl] at hm
      have Hm := Lib.hid hm.symm
      have Hal := Lib.hid hal
      clear hm hal
      go_wp2_with fail
      refine (next_any H1).mono ?_
      rintro e w2 ⟨rfl, S2, hS2, H2, hf2⟩
      have A2 := Acc.step A1 hS2 hf2
      go_wp2_with fail
      refine (alnum_any H2.tabsAt _ (by omega) (by omega)).mono ?_
      rintro e w' ⟨rfl, ys, d2, rfl⟩
      have H3 := H2.keep (grow_below w2 ys d2)
      have A3 := Acc.below A2 (grow_below w2 ys d2)
      rw [Hal.out]
      go_wp2_with fail
      go_roundg (s.size - (next s t1).eb + 1)
      case measure => omega
      case rel => exact ⟨S2, next s t1, A3, H3, hB1.next hl, Hm, by omega⟩
    | false =>
      rw [hal, if_neg (by decide)] at hm
      have hbk := backup_next hB1
      have hns := next_same s t1
      have hps := H1.poss
      have hle1 := hB1.le
      have Hm := Lib.hid hm
      have Hal := Lib.hid hal
      have Bk := Lib.hid hbk
      clear hm hal hbk
      go_wp2_with fail
      refine (next_any H1).mono ?_
      rintro e w2 ⟨rfl, S2, hS2, H2, hf2⟩
      have A2 := Acc.step A1 hS2 hf2
      go_wp2_with fail
      refine (alnum_any H2.tabsAt _ (by omega) (by omega)).mono ?_
      rintro e w' ⟨rfl, ys, d2, rfl⟩
      have H3 := H2.keep (grow_below w2 ys d2)
      have A3 := Acc.below A2 (grow_below w2 ys d2)
      obtain ⟨w3, hw3⟩ : ∃ x, x = grow w2 ys d2 := ⟨_, rfl⟩
      rw [← hw3] at H3 A3 ⊢
      clear hw3
      rw [Hal.out]
      go_wp2_with fail
      refine (backup_any H3 (next_le hle1) (by rw [Bk.out, hns.1, hns.2.1]; omega)).mono ?_
      rintro e w4 ⟨rfl, S4, hS4, H4, hf4⟩
      have A4 := Acc.step A3 hS4 hf4
      rw [Bk.out] at H4
      go_wp2_with fail
      refine (word_any H4 hle1).mono ?_
      rintro e w' ⟨rfl, xs5, d5, rfl⟩
      have H5 := H4.keep (grow_below w4 xs5 d5)
      have A5 := Acc.below A4 (grow_below w4 xs5 d5)
      obtain ⟨w5, hw5⟩ : ∃ x, x = grow w4 xs5 d5 := ⟨_, rfl⟩
      rw [← hw5] at H5 A5 ⊢
      have HW5 := Lib.hid hw5
      clear hw5
      have hn1 : t1.toks.length ≤ 9 := by rw [← Hm.out, hrd.toks]; exact hn
      have hdis : t1.dis = t.dis := by rw [← Hm.out, hrd.dis]
      have hst : identifier s t = identEnd s t.dis t1 (kwOf (word s t1)) := by unfold identifier; rw [Hm.out]
      obtain ⟨v, hv⟩ : ∃ v, word s t1 = v := ⟨_, rfl⟩
      rw [hv] at hst ⊢
      have Hv := Lib.hid hv
      clear hv
      by_cases k0 : v = kwNot
      · have hkw : kwOf v = .kNot := by unfold kwOf; rw [if_pos k0]
        rw [hkw] at hst
        have Hst := Lib.hid hst
        clear hst hkw
        have f0 := str_eq (l := [110, 111, 116]) k0
        clear k0
        go_wp2_with fail
        rw [Exit.noGoto_ret]
        go_ret
        rw [Hst.out]
        exact ⟨rfl, A5.done H5⟩
      by_cases k1 : v = kwIn
      · have hkw : kwOf v = .op := by unfold kwOf; rw [if_neg k0]; rw [if_pos k1]
        rw [hkw] at hst
        have Hst := Lib.hid hst
        clear hst hkw
        have f0 := str_ne (l := [110, 111, 116]) k0
        have f1 := str_eq (l := [105, 110]) k1
        clear k0
        clear k1
        go_wp2_with fail
        refine (emit_any H5 hle1 hn1 kOperator).mono ?_
        rintro e w6 ⟨rfl, S6, hS6, H6, hf6⟩
        have A6 := Acc.step A5 hS6 hf6
        go_wp2_with fail
        rw [Exit.noGoto_ret]
        go_ret
        rw [Hst.out]
        exact ⟨rfl, A6.done H6⟩
      by_cases k2 : v = kwOr
      · have hkw : kwOf v = .op := by unfold kwOf; rw [if_neg k0]; rw [if_neg k1]; rw [if_pos k2]
        rw [hkw] at hst
        have Hst := Lib.hid hst
        clear hst hkw
        have f0 := str_ne (l := [110, 111, 116]) k0
        have f1 := str_ne (l := [105, 110]) k1
        have f2 := str_eq (l := [111, 114]) k2
        clear k0
        clear k1
        clear k2
        go_wp2_with fail
        refine (emit_any H5 hle1 hn1 kOperator).mono ?_
        rintro e w6 ⟨rfl, S6, hS6, H6, hf6⟩
        have A6 := Acc.step A5 hS6 hf6
        go_wp2_with fail
        rw [Exit.noGoto_ret]
        go_ret
        rw [Hst.out]
        exact ⟨rfl, A6.done H6⟩
      by_cases k3 : v = kwAnd
      · have hkw : kwOf v = .op := by unfold kwOf; rw [if_neg k0]; rw [if_neg k1]; rw [if_neg k2]; rw [if_pos k3]
        rw [hkw] at hst
        have Hst := Lib.hid hst
        clear hst hkw
        have f0 := str_ne (l := [110, 111, 116]) k0
        have f1 := str_ne (l := [105, 110]) k1
        have f2 := str_ne (l := [111, 114]) k2
        have f3 := str_eq (l := [97, 110, 100]) k3
        clear k0
        clear k1
        clear k2
        clear k3
        go_wp2_with fail
        refine (emit_any H5 hle1 hn1 kOperator).mono ?_
        rintro e w6 ⟨rfl, S6, hS6, H6, hf6⟩
        have A6 := Acc.step A5 hS6 hf6
        go_wp2_with fail
        rw [Exit.noGoto_ret]
        go_ret
        rw [Hst.out]
        exact ⟨rfl, A6.done H6⟩
      by_cases k4 : v = kwMatches
      · have hkw : kwOf v = .op := by unfold kwOf; rw [if_neg k0]; rw [if_neg k1]; rw [if_neg k2]; rw [if_neg k3]; rw [if_pos k4]
        rw [hkw] at hst
        have Hst := Lib.hid hst
        clear hst hkw
        have f0 := str_ne (l := [110, 111, 116]) k0
        have f1 := str_ne (l := [105, 110]) k1
        have f2 := str_ne (l := [111, 114]) k2
        have f3 := str_ne (l := [97, 110, 100]) k3
        have f4 := str_eq (l := [109, 97, 116, 99, 104, 101, 115]) k4
        clear k0
        clear k1
        clear k2
        clear k3
        clear k4
        go_wp2_with fail
        refine (emit_any H5 hle1 hn1 kOperator).mono ?_
        rintro e w6 ⟨rfl, S6, hS6, H6, hf6⟩
        have A6 := Acc.step A5 hS6 hf6
        go_wp2_with fail
        rw [Exit.noGoto_ret]
        go_ret
        rw [Hst.out]
        exact ⟨rfl, A6.done H6⟩
      by_cases k5 : v = kwContains
      · have hkw : kwOf v = .op := by unfold kwOf; rw [if_neg k0]; rw [if_neg k1]; rw [if_neg k2]; rw [if_neg k3]; rw [if_neg k4]; rw [if_pos k5]
        rw [hkw] at hst
        have Hst := Lib.hid hst
        clear hst hkw
        have f0 := str_ne (l := [110, 111, 116]) k0
        have f1 := str_ne (l := [105, 110]) k1
        have f2 := str_ne (l := [111, 114]) k2
        have f3 := str_ne (l := [97, 110, 100]) k3
        have f4 := str_ne (l := [109, 97, 116, 99, 104, 101, 115]) k4
        have f5 := str_eq (l := [99, 111, 110, 116, 97, 105, 110, 115]) k5
        clear k0
        clear k1
        clear k2
        clear k3
        clear k4
        clear k5
        go_wp2_with fail
        refine (emit_any H5 hle1 hn1 kOperator).mono ?_
        rintro e w6 ⟨rfl, S6, hS6, H6, hf6⟩
        have A6 := Acc.step A5 hS6 hf6
        go_wp2_with fail
        rw [Exit.noGoto_ret]
        go_ret
        rw [Hst.out]
        exact ⟨rfl, A6.done H6⟩
      by_cases k6 : v = kwStartsWith
      · have hkw : kwOf v = .op := by unfold kwOf; rw [if_neg k0]; rw [if_neg k1]; rw [if_neg k2]; rw [if_neg k3]; rw [if_neg k4]; rw [if_neg k5]; rw [if_pos k6]
        rw [hkw] at hst
        have Hst := Lib.hid hst
        clear hst hkw
        have f0 := str_ne (l := [110, 111, 116]) k0
        have f1 := str_ne (l := [105, 110]) k1
        have f2 := str_ne (l := [111, 114]) k2
        have f3 := str_ne (l := [97, 110, 100]) k3
        have f4 := str_ne (l := [109, 97, 116, 99, 104, 101, 115]) k4
        have f5 := str_ne (l := [99, 111, 110, 116, 97, 105, 110, 115]) k5
        have f6 := str_eq (l := [115, 116, 97, 114, 116, 115, 87, 105, 116, 104]) k6
        clear k0
        clear k1
        clear k2
        clear k3
        clear k4
        clear k5
        clear k6
        go_wp2_with fail
        refine (emit_any H5 hle1 hn1 kOperator).mono ?_
        rintro e w6 ⟨rfl, S6, hS6, H6, hf6⟩
        have A6 := Acc.step A5 hS6 hf6
        go_wp2_with fail
        rw [Exit.noGoto_ret]
        go_ret
        rw [Hst.out]
        exact ⟨rfl, A6.done H6⟩
      by_cases k7 : v = kwEndsWith
      · have hkw : kwOf v = .op := by unfold kwOf; rw [if_neg k0]; rw [if_neg k1]; rw [if_neg k2]; rw [if_neg k3]; rw [if_neg k4]; rw [if_neg k5]; rw [if_neg k6]; rw [if_pos k7]
        rw [hkw] at hst
        have Hst := Lib.hid hst
        clear hst hkw
        have f0 := str_ne (l := [110, 111, 116]) k0
        have f1 := str_ne (l := [105, 110]) k1
        have f2 := str_ne (l := [111, 114]) k2
        have f3 := str_ne (l := [97, 110, 100]) k3
        have f4 := str_ne (l := [109, 97, 116, 99, 104, 101, 115]) k4
        have f5 := str_ne (l := [99, 111, 110, 116, 97, 105, 110, 115]) k5
        have f6 := str_ne (l := [115, 116, 97, 114, 116, 115, 87, 105, 116, 104]) k6
        have f7 := str_eq (l := [101, 110, 100, 115, 87, 105, 116, 104]) k7
        clear k0
        clear k1
        clear k2
        clear k3
        clear k4
        clear k5
        clear k6
        clear k7
        go_wp2_with fail
        refine (emit_any H5 hle1 hn1 kOperator).mono ?_
        rintro e w6 ⟨rfl, S6, hS6, H6, hf6⟩
        have A6 := Acc.step A5 hS6 hf6
        go_wp2_with fail
        rw [Exit.noGoto_ret]
        go_ret
        rw [Hst.out]
        exact ⟨rfl, A6.done H6⟩
      by_cases k8 : v = kwLet
      · have hkw : kwOf v = .op := by unfold kwOf; rw [if_neg k0]; rw [if_neg k1]; rw [if_neg k2]; rw [if_neg k3]; rw [if_neg k4]; rw [if_neg k5]; rw [if_neg k6]; rw [if_neg k7]; rw [if_pos k8]
        rw [hkw] at hst
        have Hst := Lib.hid hst
        clear hst hkw
        have f0 := str_ne (l := [110, 111, 116]) k0
        have f1 := str_ne (l := [105, 110]) k1
        have f2 := str_ne (l := [111, 114]) k2
        have f3 := str_ne (l := [97, 110, 100]) k3
        have f4 := str_ne (l := [109, 97, 116, 99, 104, 101, 115]) k4
        have f5 := str_ne (l := [99, 111, 110, 116, 97, 105, 110, 115]) k5
        have f6 := str_ne (l := [115, 116, 97, 114, 116, 115, 87, 105, 116, 104]) k6
        have f7 := str_ne (l := [101, 110, 100, 115, 87, 105, 116, 104]) k7
        have f8 := str_eq (l := [108, 101, 116]) k8
        clear k0
        clear k1
        clear k2
        clear k3
        clear k4
        clear k5
        clear k6
        clear k7
        clear k8
        go_wp2_with fail
        refine (emit_any H5 hle1 hn1 kOperator).mono ?_
        rintro e w6 ⟨rfl, S6, hS6, H6, hf6⟩
        have A6 := Acc.step A5 hS6 hf6
        go_wp2_with fail
        rw [Exit.noGoto_ret]
        go_ret
        rw [Hst.out]
        exact ⟨rfl, A6.done H6⟩
      by_cases k9 : v = kwIf
      · have hkw : kwOf v = .cond := by unfold kwOf; rw [if_neg k0]; rw [if_neg k1]; rw [if_neg k2]; rw [if_neg k3]; rw [if_neg k4]; rw [if_neg k5]; rw [if_neg k6]; rw [if_neg k7]; rw [if_neg k8]; rw [if_pos k9]
        rw [hkw] at hst
        have Hst := Lib.hid hst
        clear hst hkw
        have f0 := str_ne (l := [110, 111, 116]) k0
        have f1 := str_ne (l := [105, 110]) k1
        have f2 := str_ne (l := [111, 114]) k2
        have f3 := str_ne (l := [97, 110, 100]) k3
        have f4 := str_ne (l := [109, 97, 116, 99, 104, 101, 115]) k4
        have f5 := str_ne (l := [99, 111, 110, 116, 97, 105, 110, 115]) k5
        have f6 := str_ne (l := [115, 116, 97, 114, 116, 115, 87, 105, 116, 104]) k6
        have f7 := str_ne (l := [101, 110, 100, 115, 87, 105, 116, 104]) k7
        have f8 := str_ne (l := [108, 101, 116]) k8
        have f9 := str_eq (l := [105, 102]) k9
        clear k0
        clear k1
        clear k2
        clear k3
        clear k4
        clear k5
        clear k6
        clear k7
        clear k8
        clear k9
        obtain ⟨R, ev, hL, hR, hc, hr, he, l0, c0, c1, c2, c3, c4, c5, c6, c7, c8, c9, fz⟩ := H5.opened
        rw [hdis] at c9
        clear c0 c1 c2 c3 c4 c5 c6 c7 c8 hdis
        cases hd : t.dis with
        | true =>
          rw [hd] at c9
          have Hd := Lib.hid hd
          clear hd
          go_wp2_with fail
          refine (emit_any H5 hle1 hn1 kIdentifier).mono ?_
          rintro e w6 ⟨rfl, S6, hS6, H6, hf6⟩
          have A6 := Acc.step A5 hS6 hf6
          go_wp2_with fail
          rw [Exit.noGoto_ret]
          go_ret
          rw [Hst.out, Hd.out]
          exact ⟨rfl, A6.done H6⟩
        | false =>
          rw [hd] at c9
          have Hd := Lib.hid hd
          clear hd
          go_wp2_with fail
          refine (emit_any H5 hle1 hn1 kOperator).mono ?_
          rintro e w6 ⟨rfl, S6, hS6, H6, hf6⟩
          have A6 := Acc.step A5 hS6 hf6
          go_wp2_with fail
          rw [Exit.noGoto_ret]
          go_ret
          rw [Hst.out, Hd.out]
          exact ⟨rfl, A6.done H6⟩
      by_cases k10 : v = kwElse
      · have hkw : kwOf v = .cond := by unfold kwOf; rw [if_neg k0]; rw [if_neg k1]; rw [if_neg k2]; rw [if_neg k3]; rw [if_neg k4]; rw [if_neg k5]; rw [if_neg k6]; rw [if_neg k7]; rw [if_neg k8]; rw [if_neg k9]; rw [if_pos k10]
        rw [hkw] at hst
        have Hst := Lib.hid hst
        clear hst hkw
        have f0 := str_ne (l := [110, 111, 116]) k0
        have f1 := str_ne (l := [105, 110]) k1
        have f2 := str_ne (l := [111, 114]) k2
        have f3 := str_ne (l := [97, 110, 100]) k3
        have f4 := str_ne (l := [109, 97, 116, 99, 104, 101, 115]) k4
        have f5 := str_ne (l := [99, 111, 110, 116, 97, 105, 110, 115]) k5
        have f6 := str_ne (l := [115, 116, 97, 114, 116, 115, 87, 105, 116, 104]) k6
        have f7 := str_ne (l := [101, 110, 100, 115, 87, 105, 116, 104]) k7
        have f8 := str_ne (l := [108, 101, 116]) k8
        have f9 := str_ne (l := [105, 102]) k9
        have f10 := str_eq (l := [101, 108, 115, 101]) k10
        clear k0
        clear k1
        clear k2
        clear k3
        clear k4
        clear k5
        clear k6
        clear k7
        clear k8
        clear k9
        clear k10
        obtain ⟨R, ev, hL, hR, hc, hr, he, l0, c0, c1, c2, c3, c4, c5, c6, c7, c8, c9, fz⟩ := H5.opened
        rw [hdis] at c9
        clear c0 c1 c2 c3 c4 c5 c6 c7 c8 hdis
        cases hd : t.dis with
        | true =>
          rw [hd] at c9
          have Hd := Lib.hid hd
          clear hd
          go_wp2_with fail
          refine (emit_any H5 hle1 hn1 kIdentifier).mono ?_
          rintro e w6 ⟨rfl, S6, hS6, H6, hf6⟩
          have A6 := Acc.step A5 hS6 hf6
          go_wp2_with fail
          rw [Exit.noGoto_ret]
          go_ret
          rw [Hst.out, Hd.out]
          exact ⟨rfl, A6.done H6⟩
        | false =>
          rw [hd] at c9
          have Hd := Lib.hid hd
          clear hd
          go_wp2_with fail
          refine (emit_any H5 hle1 hn1 kOperator).mono ?_
          rintro e w6 ⟨rfl, S6, hS6, H6, hf6⟩
          have A6 := Acc.step A5 hS6 hf6
          go_wp2_with fail
          rw [Exit.noGoto_ret]
          go_ret
          rw [Hst.out, Hd.out]
          exact ⟨rfl, A6.done H6⟩
      have hkw : kwOf v = .other := by unfold kwOf; rw [if_neg k0]; rw [if_neg k1]; rw [if_neg k2]; rw [if_neg k3]; rw [if_neg k4]; rw [if_neg k5]; rw [if_neg k6]; rw [if_neg k7]; rw [if_neg k8]; rw [if_neg k9]; rw [if_neg k10]
      rw [hkw] at hst
      have Hst := Lib.hid hst
      clear hst hkw
      have f0 := str_ne (l := [110, 111, 116]) k0
      clear k0
      have f1 := str_ne (l := [105, 110]) k1
      clear k1
      have f2 := str_ne (l := [111, 114]) k2
      clear k2
      have f3 := str_ne (l := [97, 110, 100]) k3
      clear k3
      have f4 := str_ne (l := [109, 97, 116, 99, 104, 101, 115]) k4
      clear k4
      have f5 := str_ne (l := [99, 111, 110, 116, 97, 105, 110, 115]) k5
      clear k5
      have f6 := str_ne (l := [115, 116, 97, 114, 116, 115, 87, 105, 116, 104]) k6
      clear k6
      have f7 := str_ne (l := [101, 110, 100, 115, 87, 105, 116, 104]) k7
      clear k7
      have f8 := str_ne (l := [108, 101, 116]) k8
      clear k8
      have f9 := str_ne (l := [105, 102]) k9
      clear k9
      have f10 := str_ne (l := [101, 108, 115, 101]) k10
      clear k10
      go_wp2_with fail
      refine (emit_any H5 hle1 hn1 kIdentifier).mono ?_
      rintro e w6 ⟨rfl, S6, hS6, H6, hf6⟩
      have A6 := Acc.step A5 hS6 hf6
      go_wp2_with fail
      rw [Exit.noGoto_ret]
      go_ret
      rw [Hst.out]
      exact ⟨rfl, A6.done H6⟩

theorem not_toks {s : ByteArray} {t : St} (hn : t.toks.length ≤ 8) : (notAt s t).toks.length ≤ 9 := by
  have h1 := (acceptRun_rest ⟨#[32]⟩ s (emit kOperator s t)).2.2.1
  have h2 : (notAt s t).toks = (emit kOperator s t).toks := h1
  rw [h2]
  show (t.toks ++ [_]).length ≤ 9
  simp
  omega

set_option maxHeartbeats 4000000 in
set_option maxRecDepth 100000 in
theorem not_any {W0 w : World} {S : Nat → Prop} {L : Nat} {s : ByteArray} {t : St} (H : Lx W0 S w L s t) (hB : Back s t) (hn : t.toks.length ≤ 8) :
    Calls Tryf.prog 73 #[.pointer (some ⟨L, 0, none⟩)] w fun e w' => e = .returned (qVal (not s t).1) ∧ Done W0 S w L s (not s t).2 w' := by
  have A0 := Acc.refl S w
  have hBa : Back s (notAt s t) := back_commit (back_acceptRun (back_emit hB))
  have hna : (notAt s t).toks.length ≤ 9 := not_toks hn
  obtain ⟨ta, hta⟩ : ∃ x, notAt s t = x := ⟨_, rfl⟩
  have hrd := reads_alnumSkip s ta
  rw [hta] at hBa hna
  have Hta := Lib.hid hta
  clear hta
  go_enter Tryf.func73, Tryf.ntmps73
  go_wp2_with fail
  refine (emit_any H hB.le (by omega) kOperator).mono ?_
  rintro e wa ⟨rfl, Sb, hSb, Hb, hfb⟩
  have Ab := Acc.step A0 hSb hfb
  go_wp2_with fail
  refine (skipSpaces_any Hb).mono ?_
  rintro e wb ⟨rfl, Sa, hSa, Ha, hfa⟩
  have Aa := Acc.step Ab hSa hfa
  have e0 : skipSpaces s (emit kOperator s t) = ta := Hta.out
  rw [e0] at Ha
  clear e0
  obtain ⟨Ra, eva, hLa, hRa, hca, hra, hea, la, a0, a1, a2, a3, a4, a5, a6, a7, a8, a9, fza⟩ := Ha.opened
  go_wp2_with fail
  go_loopg [] (s.size - ta.eb + 1) (fun g wr => ∃ S1 t1, Acc S w S1 wr ∧ Lx W0 S1 wr L s t1 ∧ Own S1 wr wb.heap.size #[.int .i64 ta.eb, .int .i64 ta.er] ∧ Back s t1 ∧ Hid (alnumSkip s t1 = alnumSkip s ta) ∧ s.size - t1.eb < g)
  case atStart => exact ⟨Sa, ta, Acc.below Aa (by repeat (first | exact Below.refl _ _ | apply below_drew | apply below_drewN | apply below_alloc | apply below_grow)), Ha.keep (by repeat (first | exact Below.refl _ _ | apply below_drew | apply below_drewN | apply below_alloc | apply below_grow)), Own.made Ha (fun _ h => .inl h) (Fr.refl _ _), hBa, Lib.hid rfl, by omega⟩
  case round =>
    obtain ⟨S1, t1, A1, H1, O1, hB1, heq, hg⟩ := hrel
    have hm := alnumSkip_eq s t1
    rw [heq.out] at hm
    clear heq
    have hlo := peek_lo s t1
    have hhi := peek_hi s t1
    cases hal : alnum (peek s t1) with
    | true =>
      have hl := alnum_in hal
      have hsub := next_sub hl
      rw [hal, if_pos rfl] at hm
      have Hm := Lib.hid hm.symm
      have Hal := Lib.hid hal
      clear hm hal
      go_wp2_with fail
      refine (next_any H1).mono ?_
      rintro e w2 ⟨rfl, S2, hS2, H2, hf2⟩
      have A2 := Acc.step A1 hS2 hf2
      go_wp2_with fail
      refine (alnum_any H2.tabsAt _ (by omega) (by omega)).mono ?_
      rintro e w' ⟨rfl, ys, d2, rfl⟩
      have H3 := H2.keep (grow_below w2 ys d2)
      have A3 := Acc.below A2 (grow_below w2 ys d2)
      rw [Hal.out]
      go_wp2_with fail
      go_roundg (s.size - (next s t1).eb + 1)
      case measure => omega
      case rel => exact ⟨S2, next s t1, A3, H3, (O1.keep hS2 hf2).below (grow_below _ _ _), hB1.next hl, Hm, by omega⟩
    | false =>
      rw [hal, if_neg (by decide)] at hm
      have hbk := backup_next hB1
      have hns := next_same s t1
      have hps := H1.poss
      have hle1 := hB1.le
      have Hm := Lib.hid hm
      have Hal := Lib.hid hal
      have Bk := Lib.hid hbk
      clear hm hal hbk
      go_wp2_with fail
      refine (next_any H1).mono ?_
      rintro e w2 ⟨rfl, S2, hS2, H2, hf2⟩
      have A2 := Acc.step A1 hS2 hf2
      go_wp2_with fail
      refine (alnum_any H2.tabsAt _ (by omega) (by omega)).mono ?_
      rintro e w' ⟨rfl, ys, d2, rfl⟩
      have H3 := H2.keep (grow_below w2 ys d2)
      have A3 := Acc.below A2 (grow_below w2 ys d2)
      have O3 := (O1.keep hS2 hf2).below (grow_below w2 ys d2)
      obtain ⟨w3, hw3⟩ : ∃ x, x = grow w2 ys d2 := ⟨_, rfl⟩
      rw [← hw3] at H3 A3 O3 ⊢
      clear hw3
      rw [Hal.out]
      go_wp2_with fail
      refine (backup_any H3 (next_le hle1) (by rw [Bk.out, hns.1, hns.2.1]; omega)).mono ?_
      rintro e w4 ⟨rfl, S4, hS4, H4, hf4⟩
      have A4 := Acc.step A3 hS4 hf4
      have O4 := O3.keep hS4 hf4
      rw [Bk.out] at H4
      go_wp2_with fail
      refine (word_any H4 hle1).mono ?_
      rintro e w' ⟨rfl, xs5, d5, rfl⟩
      have H5 := H4.keep (grow_below w4 xs5 d5)
      have A5 := Acc.below A4 (grow_below w4 xs5 d5)
      obtain ⟨w5, hw5⟩ : ∃ x, x = grow w4 xs5 d5 := ⟨_, rfl⟩
      rw [← hw5] at H5 A5 ⊢
      have HW5 := Lib.hid hw5
      clear hw5
      have hn1 : t1.toks.length ≤ 9 := by rw [← Hm.out, hrd.toks]; exact hna
      have hst : not s t = if notJoins (word s t1) then (some .root, emit kOperator s t1) else (some .root, ta) := by unfold not; rw [Hta.out, Hm.out]
      obtain ⟨v, hv⟩ : ∃ v, word s t1 = v := ⟨_, rfl⟩
      rw [hv] at hst ⊢
      have Hv := Lib.hid hv
      clear hv
      by_cases k0 : v = kwIn
      · have hkw : notJoins v = true := by unfold notJoins; rw [if_pos k0]
        rw [hkw, if_pos rfl] at hst
        have Hst := Lib.hid hst
        clear hst hkw
        have f0 := str_eq (l := [105, 110]) k0
        clear k0
        go_wp2_with fail
        refine (emit_any H5 hle1 hn1 kOperator).mono ?_
        rintro e w6 ⟨rfl, S6, hS6, H6, hf6⟩
        have A6 := Acc.step A5 hS6 hf6
        go_wp2_with fail
        go_ret
        rw [Hst.out]
        exact ⟨rfl, A6.done H6⟩
      by_cases k1 : v = kwMatches
      · have hkw : notJoins v = true := by unfold notJoins; rw [if_neg k0]; rw [if_pos k1]
        rw [hkw, if_pos rfl] at hst
        have Hst := Lib.hid hst
        clear hst hkw
        have f0 := str_ne (l := [105, 110]) k0
        have f1 := str_eq (l := [109, 97, 116, 99, 104, 101, 115]) k1
        clear k0
        clear k1
        go_wp2_with fail
        refine (emit_any H5 hle1 hn1 kOperator).mono ?_
        rintro e w6 ⟨rfl, S6, hS6, H6, hf6⟩
        have A6 := Acc.step A5 hS6 hf6
        go_wp2_with fail
        go_ret
        rw [Hst.out]
        exact ⟨rfl, A6.done H6⟩
      by_cases k2 : v = kwContains
      · have hkw : notJoins v = true := by unfold notJoins; rw [if_neg k0]; rw [if_neg k1]; rw [if_pos k2]
        rw [hkw, if_pos rfl] at hst
        have Hst := Lib.hid hst
        clear hst hkw
        have f0 := str_ne (l := [105, 110]) k0
        have f1 := str_ne (l := [109, 97, 116, 99, 104, 101, 115]) k1
        have f2 := str_eq (l := [99, 111, 110, 116, 97, 105, 110, 115]) k2
        clear k0
        clear k1
        clear k2
        go_wp2_with fail
        refine (emit_any H5 hle1 hn1 kOperator).mono ?_
        rintro e w6 ⟨rfl, S6, hS6, H6, hf6⟩
        have A6 := Acc.step A5 hS6 hf6
        go_wp2_with fail
        go_ret
        rw [Hst.out]
        exact ⟨rfl, A6.done H6⟩
      by_cases k3 : v = kwStartsWith
      · have hkw : notJoins v = true := by unfold notJoins; rw [if_neg k0]; rw [if_neg k1]; rw [if_neg k2]; rw [if_pos k3]
        rw [hkw, if_pos rfl] at hst
        have Hst := Lib.hid hst
        clear hst hkw
        have f0 := str_ne (l := [105, 110]) k0
        have f1 := str_ne (l := [109, 97, 116, 99, 104, 101, 115]) k1
        have f2 := str_ne (l := [99, 111, 110, 116, 97, 105, 110, 115]) k2
        have f3 := str_eq (l := [115, 116, 97, 114, 116, 115, 87, 105, 116, 104]) k3
        clear k0
        clear k1
        clear k2
        clear k3
        go_wp2_with fail
        refine (emit_any H5 hle1 hn1 kOperator).mono ?_
        rintro e w6 ⟨rfl, S6, hS6, H6, hf6⟩
        have A6 := Acc.step A5 hS6 hf6
        go_wp2_with fail
        go_ret
        rw [Hst.out]
        exact ⟨rfl, A6.done H6⟩
      by_cases k4 : v = kwEndsWith
      · have hkw : notJoins v = true := by unfold notJoins; rw [if_neg k0]; rw [if_neg k1]; rw [if_neg k2]; rw [if_neg k3]; rw [if_pos k4]
        rw [hkw, if_pos rfl] at hst
        have Hst := Lib.hid hst
        clear hst hkw
        have f0 := str_ne (l := [105, 110]) k0
        have f1 := str_ne (l := [109, 97, 116, 99, 104, 101, 115]) k1
        have f2 := str_ne (l := [99, 111, 110, 116, 97, 105, 110, 115]) k2
        have f3 := str_ne (l := [115, 116, 97, 114, 116, 115, 87, 105, 116, 104]) k3
        have f4 := str_eq (l := [101, 110, 100, 115, 87, 105, 116, 104]) k4
        clear k0
        clear k1
        clear k2
        clear k3
        clear k4
        go_wp2_with fail
        refine (emit_any H5 hle1 hn1 kOperator).mono ?_
        rintro e w6 ⟨rfl, S6, hS6, H6, hf6⟩
        have A6 := Acc.step A5 hS6 hf6
        go_wp2_with fail
        go_ret
        rw [Hst.out]
        exact ⟨rfl, A6.done H6⟩
      have hkw : notJoins v = false := by unfold notJoins; rw [if_neg k0]; rw [if_neg k1]; rw [if_neg k2]; rw [if_neg k3]; rw [if_neg k4]
      rw [hkw, if_neg (by decide)] at hst
      have Hst := Lib.hid hst
      clear hst hkw
      have f0 := str_ne (l := [105, 110]) k0
      clear k0
      have f1 := str_ne (l := [109, 97, 116, 99, 104, 101, 115]) k1
      clear k1
      have f2 := str_ne (l := [99, 111, 110, 116, 97, 105, 110, 115]) k2
      clear k2
      have f3 := str_ne (l := [115, 116, 97, 114, 116, 115, 87, 105, 116, 104]) k3
      clear k3
      have f4 := str_ne (l := [101, 110, 100, 115, 87, 105, 116, 104]) k4
      clear k4
      obtain ⟨R, ev, hL, hR, hc, hr, he, l0, c0, c1, c2, c3, c4, c5, c6, c7, c8, c9, fz⟩ := H5.opened
      have hrr : Reads s ta t1 := by rw [← Hm.out]; exact hrd
      have hpa := Ha.poss
      have O5 := O4.below (grow_below w4 xs5 d5)
      rw [← HW5.out] at O5
      have k0 := O5.cell 0
      have k1 := O5.cell 1
      clear O4
      go_wp2_with fail
      go_ret
      rw [Hst.out]
      have hB1e : t1.eof = ta.eof := hB1.eof.trans hBa.eof.symm
      refine ⟨rfl, A5.trans (Done.only (t' := ta) H5 hL hR hr he (OnlyL.cast (by repeat (first | apply OnlyL.setCell | apply OnlyL.drew | apply OnlyL.drewN | apply OnlyL.alloc | apply OnlyL.grow | exact OnlyL.refl hc.out)) ?_) hc.out hrr.toks.symm hrr.err.symm hpa)⟩
      simp [cellsL, hrr.q, hrr.sb, hrr.sr, hrr.dis, hB1e]

set_option maxHeartbeats 4000000 in
set_option maxRecDepth 100000 in
theorem pointer_any {W0 w : World} {S : Nat → Prop} {L : Nat} {s : ByteArray} {t : St} (H : Lx W0 S w L s t) (hB : Back s t) (hn : t.toks.length ≤ 8) :
    Calls Tryf.prog 39 #[.pointer (some ⟨L, 0, none⟩)] w fun e w' => e = .returned (qVal (pointer s t).1) ∧ Done W0 S w L s (pointer s t).2 w' := by
  have A0 := Acc.refl S w
  have hBa : Back s (emit kOperator s (accept cHash s t)) := back_emit (back_accept hB)
  have hna : (emit kOperator s (accept cHash s t)).toks.length ≤ 9 := by
    show ((accept cHash s t).toks ++ [_]).length ≤ 9
    rw [(reads_accept cHash s t).toks]
    simp
    omega
  obtain ⟨ta, hta⟩ : ∃ x, emit kOperator s (accept cHash s t) = x := ⟨_, rfl⟩
  have hrd := reads_alnumSkip s ta
  rw [hta] at hBa hna
  have Hta := Lib.hid hta
  clear hta
  go_enter Tryf.func39, Tryf.ntmps39
  go_wp2_with fail
  refine (accept_any (v := cHash) H).mono ?_
  rintro e wa ⟨rfl, Sb, hSb, Hb, hfb⟩
  have Ab := Acc.step A0 hSb hfb
  go_wp2_with fail
  refine (emit_any Hb ((reads_accept _ s t).le hB.le) (by rw [(reads_accept cHash s t).toks]; omega) kOperator).mono ?_
  rintro e wb ⟨rfl, Sa, hSa, Ha, hfa⟩
  have Aa := Acc.step Ab hSa hfa
  rw [Hta.out] at Ha
  go_wp2_with fail
  go_loopg [] (s.size - ta.eb + 1) (fun g wr => ∃ S1 t1, Acc S w S1 wr ∧ Lx W0 S1 wr L s t1 ∧ Back s t1 ∧ Hid (alnumSkip s t1 = alnumSkip s ta) ∧ s.size - t1.eb < g)
  case atStart => exact ⟨Sa, ta, Aa, Ha, hBa, Lib.hid rfl, by omega⟩
  case round =>
    obtain ⟨S1, t1, A1, H1, hB1, heq, hg⟩ := hrel
    have hm := alnumSkip_eq s t1
    rw [heq.out] at hm
    clear heq
    have hlo := peek_lo s t1
    have hhi := peek_hi s t1
    cases hal : alnum (peek s t1) with
    | true =>
      have hl := alnum_in hal
      have hsub := next_sub hl
      rw [hal, if_pos rfl] at hm
      have Hm := Lib.hid hm.symm
      have Hal := Lib.hid hal
      clear hm hal
      go_wp2_with fail
      refine (next_any H1).mono ?_
      rintro e w2 ⟨rfl, S2, hS2, H2, hf2⟩
      have A2 := Acc.step A1 hS2 hf2
      go_wp2_with fail
      refine (alnum_any H2.tabsAt _ (by omega) (by omega)).mono ?_
      rintro e w' ⟨rfl, ys, d2, rfl⟩
      have H3 := H2.keep (grow_below w2 ys d2)
      have A3 := Acc.below A2 (grow_below w2 ys d2)
      rw [Hal.out]
      go_wp2_with fail
      go_roundg (s.size - (next s t1).eb + 1)
      case measure => omega
      case rel => exact ⟨S2, next s t1, A3, H3, hB1.next hl, Hm, by omega⟩
    | false =>
      rw [hal, if_neg (by decide)] at hm
      have hbk := backup_next hB1
      have hns := next_same s t1
      have hps := H1.poss
      have hle1 := hB1.le
      have Hm := Lib.hid hm
      have Hal := Lib.hid hal
      have Bk := Lib.hid hbk
      clear hm hal hbk
      go_wp2_with fail
      refine (next_any H1).mono ?_
      rintro e w2 ⟨rfl, S2, hS2, H2, hf2⟩
      have A2 := Acc.step A1 hS2 hf2
      go_wp2_with fail
      refine (alnum_any H2.tabsAt _ (by omega) (by omega)).mono ?_
      rintro e w' ⟨rfl, ys, d2, rfl⟩
      have H3 := H2.keep (grow_below w2 ys d2)
      have A3 := Acc.below A2 (grow_below w2 ys d2)
      obtain ⟨w3, hw3⟩ : ∃ x, x = grow w2 ys d2 := ⟨_, rfl⟩
      rw [← hw3] at H3 A3 ⊢
      clear hw3
      rw [Hal.out]
      go_wp2_with fail
      refine (backup_any H3 (next_le hle1) (by rw [Bk.out, hns.1, hns.2.1]; omega)).mono ?_
      rintro e w4 ⟨rfl, S4, hS4, H4, hf4⟩
      have A4 := Acc.step A3 hS4 hf4
      rw [Bk.out] at H4
      go_wp2_with fail
      refine (word_any H4 hle1).mono ?_
      rintro e w' ⟨rfl, xs5, d5, rfl⟩
      have H5 := H4.keep (grow_below w4 xs5 d5)
      have A5 := Acc.below A4 (grow_below w4 xs5 d5)
      obtain ⟨w5, hw5⟩ : ∃ x, x = grow w4 xs5 d5 := ⟨_, rfl⟩
      rw [← hw5] at H5 A5 ⊢
      have HW5 := Lib.hid hw5
      clear hw5
      have hn1 : t1.toks.length ≤ 9 := by rw [← Hm.out, hrd.toks]; exact hna
      have hst : pointer s t = if word s t1 = ⟨#[]⟩ then (some .root, t1) else (some .root, emit kIdentifier s t1) := by unfold pointer pointerAt; rw [Hta.out, Hm.out]
      obtain ⟨v, hv⟩ : ∃ v, word s t1 = v := ⟨_, rfl⟩
      rw [hv] at hst ⊢
      have Hv := Lib.hid hv
      clear hv
      by_cases k0 : v = ⟨#[]⟩
      · rw [if_pos k0] at hst
        have Hst := Lib.hid hst
        clear hst
        have g0 : v.toList = [] := by rw [ByteArray.toList_eq, k0]
        clear k0
        go_wp2_with fail
        go_ret
        rw [Hst.out]
        exact ⟨rfl, A5.done H5⟩
      · rw [if_neg k0] at hst
        have Hst := Lib.hid hst
        clear hst
        have g0 : v.toList.isEmpty = false := by
          rw [ByteArray.toList_eq]
          cases hh : v.data.toList with
          | nil => exact absurd (ByteArray.ext (Array.ext' (by simpa using hh))) k0
          | cons a l => rfl
        have g1 : (!v.toList.isEmpty) = true := by rw [g0]; rfl
        clear k0
        go_wp2_with fail
        refine (emit_any H5 hle1 hn1 kIdentifier).mono ?_
        rintro e w6 ⟨rfl, S6, hS6, H6, hf6⟩
        have A6 := Acc.step A5 hS6 hf6
        go_wp2_with fail
        go_ret
        rw [Hst.out]
        exact ⟨rfl, A6.done H6⟩

end Go.Proofs.YtkplkccjeacniaaFmt
