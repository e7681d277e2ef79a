/-
  Walk: the state root, but for its quoted texts (printed by genroot.py).
-/
import Derived.Test.YtdpdgppjeekcmaaFmtAccs
import Derived.Test.YtdpdgppjeekcmaaFmtJA
import Derived.Test.YtdpdgppjeekcmaaFmtEmitA
import Derived.Test.YtdpdgppjeekcmaaFmtErr1
namespace Go.Proofs.YtdpdgppjeekcmaaFmt
open Go Go.Lib Go.RowKit Go.Proofs
open Go.Extern.Stop Go.Stop Go.Extern

theorem has_cOpen (r : Int) : has cOpen r = ([40, 91, 123] : List Int).contains r := has_bs [40, 91, 123] (by decide) r
theorem has_cShut (r : Int) : has cShut r = ([41, 93, 125] : List Int).contains r := has_bs [41, 93, 125] (by decide) r
theorem has_cOne (r : Int) : has cOne r = ([44, 59, 37, 43, 45, 94] : List Int).contains r := has_bs [44, 59, 37, 43, 45, 94] (by decide) r
theorem has_cTwo (r : Int) : has cTwo r = ([38, 33, 61, 42, 60, 62] : List Int).contains r := has_bs [38, 33, 61, 42, 60, 62] (by decide) r

set_option maxHeartbeats 4000000 in
set_option maxRecDepth 100000 in
theorem root_eof {F : Stop.Interp} {W0 w : World} {S : Nat → Prop} {L : Nat} {s : ByteArray} {t : St} (_hF : F.answers W0.tape) (H : Lx W0 S w L s t) (hr : peek s t = -1) (hn : t.toks.length ≤ 9) :
    Calls Tryf.prog 31 #[.pointer (some ⟨L, 0, none⟩)] w fun e w' => e = .returned (qVal none) ∧ Done W0 S w L s (emitEOF (next s t)) w' := by
  have A0 := Acc.refl S w
  have hlo := peek_lo s t
  have hhi := peek_hi s t
  have Hr := Lib.hid hr
  clear hr
  go_enter Tryf.func31, Tryf.ntmps31
  go_wp2_with fail
  refine (next_any H).mono ?_
  rintro e w1 ⟨rfl, S1, hS1, H1, hf1⟩
  have A1 := Acc.step A0 hS1 hf1
  rw [Hr.out]
  go_wp2_with fail
  refine (emitEOF_any H1 (by rw [(reads_next s t).toks]; exact hn)).mono ?_
  rintro e w2 ⟨rfl, S2, hS2, H2, hf2⟩
  have A2 := Acc.step A1 hS2 hf2
  go_wp2_with fail
  go_ret
  exact ⟨rfl, A2.done H2⟩

set_option maxHeartbeats 4000000 in
set_option maxRecDepth 100000 in
theorem root_space {F : Stop.Interp} {W0 w : World} {S : Nat → Prop} {L : Nat} {s : ByteArray} {t : St} (_hF : F.answers W0.tape) (H : Lx W0 S w L s t) (hr : peek s t ≠ -1) (hsp : isSpaceZ (peek s t) = true) :
    Calls Tryf.prog 31 #[.pointer (some ⟨L, 0, none⟩)] w fun e w' => e = .returned (qVal (some .root)) ∧ Done W0 S w L s (commit (next s t)) w' := by
  have A0 := Acc.refl S w
  have hlo := peek_lo s t
  have hhi := peek_hi s t
  have e0 : (peek s t == -1) = false := beq_eq_false_iff_ne.2 hr
  have Hsp := Lib.hid hsp
  clear hr hsp
  go_enter Tryf.func31, Tryf.ntmps31
  go_wp2_with fail
  refine (next_any H).mono ?_
  rintro e w1 ⟨rfl, S1, hS1, H1, hf1⟩
  have A1 := Acc.step A0 hS1 hf1
  go_wp2_with fail
  refine (isSpace_any (H1).tabsAt (peek s t) (by omega) (by omega)).mono ?_
  rintro e w' ⟨rfl, xs2, d2, rfl⟩
  have H2 := H1.keep (grow_below w1 xs2 d2)
  have A2 := Acc.below A1 (grow_below w1 xs2 d2)
  obtain ⟨w2, hw2⟩ : ∃ x, x = grow w1 xs2 d2 := ⟨_, rfl⟩
  rw [← hw2] at H2 A2 ⊢
  clear hw2
  rw [Hsp.out]
  go_wp2_with fail
  refine (skip_any H2).mono ?_
  rintro e w3 ⟨rfl, S3, hS3, H3, hf3⟩
  have A3 := Acc.step A2 hS3 hf3
  go_wp2_with fail
  go_ret
  exact ⟨rfl, A3.done H3⟩

set_option maxHeartbeats 4000000 in
set_option maxRecDepth 100000 in
theorem root_digit {F : Stop.Interp} {W0 w : World} {S : Nat → Prop} {L : Nat} {s : ByteArray} {t : St} (_hF : F.answers W0.tape) (H : Lx W0 S w L s t) (hB : Back s t) (h1 : 48 ≤ peek s t) (h2 : peek s t ≤ 57) (hsp : isSpaceZ (peek s t) = false) :
    Calls Tryf.prog 31 #[.pointer (some ⟨L, 0, none⟩)] w fun e w' => e = .returned (qVal (some .number)) ∧ Done W0 S w L s t w' := by
  have A0 := Acc.refl S w
  have hlo := peek_lo s t
  have hhi := peek_hi s t
  have hns := next_same s t
  have hbk := backup_next hB
  have Bk := Lib.hid hbk
  have Hsp := Lib.hid hsp
  clear hbk hsp
  have em1 : (peek s t == -1) = false := by rw [beq_eq_false_iff_ne]; omega
  have e39 : (peek s t == 39) = false := by rw [beq_eq_false_iff_ne]; omega
  have e34 : (peek s t == 34) = false := by rw [beq_eq_false_iff_ne]; omega
  have e96 : (peek s t == 96) = false := by rw [beq_eq_false_iff_ne]; omega
  have e98 : (peek s t == 98) = false := by rw [beq_eq_false_iff_ne]; omega
  have e66 : (peek s t == 66) = false := by rw [beq_eq_false_iff_ne]; omega
  have hps := H.poss
  go_enter Tryf.func31, Tryf.ntmps31
  go_wp2_with fail
  refine (next_any H).mono ?_
  rintro e w1 ⟨rfl, S1, hS1, H1, hf1⟩
  have A1 := Acc.step A0 hS1 hf1
  go_wp2_with fail
  refine (isSpace_any (H1).tabsAt (peek s t) (by omega) (by omega)).mono ?_
  rintro e w' ⟨rfl, xs2, d2, rfl⟩
  have H2 := H1.keep (grow_below w1 xs2 d2)
  have A2 := Acc.below A1 (grow_below w1 xs2 d2)
  obtain ⟨w2, hw2⟩ : ∃ x, x = grow w1 xs2 d2 := ⟨_, rfl⟩
  rw [← hw2] at H2 A2 ⊢
  clear hw2
  rw [Hsp.out]
  go_wp2_with fail
  refine (backup_any H2 (next_le hB.le) (by rw [Bk.out, hns.1, hns.2.1]; omega)).mono ?_
  rintro e w3 ⟨rfl, S3, hS3, H3, hf3⟩
  have A3 := Acc.step A2 hS3 hf3
  rw [Bk.out] at H3
  go_wp2_with fail
  go_ret
  exact ⟨rfl, A3.done H3⟩

set_option maxHeartbeats 4000000 in
set_option maxRecDepth 100000 in
theorem root_r63 {F : Stop.Interp} {W0 w : World} {S : Nat → Prop} {L : Nat} {s : ByteArray} {t : St} (_hF : F.answers W0.tape) (H : Lx W0 S w L s t) (hr : peek s t = 63)  :
    Calls Tryf.prog 31 #[.pointer (some ⟨L, 0, none⟩)] w fun e w' => e = .returned (qVal (some .questionMark)) ∧ Done W0 S w L s (next s t) w' := by
  have A0 := Acc.refl S w
  have hlo := peek_lo s t
  have hhi := peek_hi s t
  have Hr := Lib.hid hr
  clear hr
  go_enter Tryf.func31, Tryf.ntmps31
  go_wp2_with fail
  refine (next_any H).mono ?_
  rintro e w1 ⟨rfl, S1, hS1, H1, hf1⟩
  have A1 := Acc.step A0 hS1 hf1
  rw [Hr.out]
  go_wp2_with fail
  refine (isSpace_any (H1).tabsAt 63 (by omega) (by omega)).mono ?_
  rintro e w' ⟨rfl, xs2, d2, rfl⟩
  have H2 := H1.keep (grow_below w1 xs2 d2)
  have A2 := Acc.below A1 (grow_below w1 xs2 d2)
  obtain ⟨w2, hw2⟩ : ∃ x, x = grow w1 xs2 d2 := ⟨_, rfl⟩
  rw [← hw2] at H2 A2 ⊢
  clear hw2
  rw [show isSpaceZ 63 = false from by decide]
  go_wp2_with fail
  go_ret
  exact ⟨rfl, A2.done H2⟩

set_option maxHeartbeats 4000000 in
set_option maxRecDepth 100000 in
theorem root_r47 {F : Stop.Interp} {W0 w : World} {S : Nat → Prop} {L : Nat} {s : ByteArray} {t : St} (_hF : F.answers W0.tape) (H : Lx W0 S w L s t) (hr : peek s t = 47)  :
    Calls Tryf.prog 31 #[.pointer (some ⟨L, 0, none⟩)] w fun e w' => e = .returned (qVal (some .slash)) ∧ Done W0 S w L s (next s t) w' := by
  have A0 := Acc.refl S w
  have hlo := peek_lo s t
  have hhi := peek_hi s t
  have Hr := Lib.hid hr
  clear hr
  go_enter Tryf.func31, Tryf.ntmps31
  go_wp2_with fail
  refine (next_any H).mono ?_
  rintro e w1 ⟨rfl, S1, hS1, H1, hf1⟩
  have A1 := Acc.step A0 hS1 hf1
  rw [Hr.out]
  go_wp2_with fail
  refine (isSpace_any (H1).tabsAt 47 (by omega) (by omega)).mono ?_
  rintro e w' ⟨rfl, xs2, d2, rfl⟩
  have H2 := H1.keep (grow_below w1 xs2 d2)
  have A2 := Acc.below A1 (grow_below w1 xs2 d2)
  obtain ⟨w2, hw2⟩ : ∃ x, x = grow w1 xs2 d2 := ⟨_, rfl⟩
  rw [← hw2] at H2 A2 ⊢
  clear hw2
  rw [show isSpaceZ 47 = false from by decide]
  go_wp2_with fail
  go_ret
  exact ⟨rfl, A2.done H2⟩

set_option maxHeartbeats 4000000 in
set_option maxRecDepth 100000 in
theorem root_r35 {F : Stop.Interp} {W0 w : World} {S : Nat → Prop} {L : Nat} {s : ByteArray} {t : St} (_hF : F.answers W0.tape) (H : Lx W0 S w L s t) (hr : peek s t = 35)  :
    Calls Tryf.prog 31 #[.pointer (some ⟨L, 0, none⟩)] w fun e w' => e = .returned (qVal (some .pointer)) ∧ Done W0 S w L s (next s t) w' := by
  have A0 := Acc.refl S w
  have hlo := peek_lo s t
  have hhi := peek_hi s t
  have Hr := Lib.hid hr
  clear hr
  go_enter Tryf.func31, Tryf.ntmps31
  go_wp2_with fail
  refine (next_any H).mono ?_
  rintro e w1 ⟨rfl, S1, hS1, H1, hf1⟩
  have A1 := Acc.step A0 hS1 hf1
  rw [Hr.out]
  go_wp2_with fail
  refine (isSpace_any (H1).tabsAt 35 (by omega) (by omega)).mono ?_
  rintro e w' ⟨rfl, xs2, d2, rfl⟩
  have H2 := H1.keep (grow_below w1 xs2 d2)
  have A2 := Acc.below A1 (grow_below w1 xs2 d2)
  obtain ⟨w2, hw2⟩ : ∃ x, x = grow w1 xs2 d2 := ⟨_, rfl⟩
  rw [← hw2] at H2 A2 ⊢
  clear hw2
  rw [show isSpaceZ 35 = false from by decide]
  go_wp2_with fail
  go_ret
  exact ⟨rfl, A2.done H2⟩

set_option maxHeartbeats 4000000 in
set_option maxRecDepth 100000 in
theorem root_r124 {F : Stop.Interp} {W0 w : World} {S : Nat → Prop} {L : Nat} {s : ByteArray} {t : St} (_hF : F.answers W0.tape) (H : Lx W0 S w L s t) (hr : peek s t = 124) (hle : t.eb ≤ s.size) (hn : t.toks.length ≤ 9) :
    Calls Tryf.prog 31 #[.pointer (some ⟨L, 0, none⟩)] w fun e w' => e = .returned (qVal (some .root)) ∧ Done W0 S w L s (emit kOperator s (accept cBar s (next s t))) w' := by
  have A0 := Acc.refl S w
  have hlo := peek_lo s t
  have hhi := peek_hi s t
  have Hr := Lib.hid hr
  clear hr
  go_enter Tryf.func31, Tryf.ntmps31
  go_wp2_with fail
  refine (next_any H).mono ?_
  rintro e w1 ⟨rfl, S1, hS1, H1, hf1⟩
  have A1 := Acc.step A0 hS1 hf1
  rw [Hr.out]
  go_wp2_with fail
  refine (isSpace_any (H1).tabsAt 124 (by omega) (by omega)).mono ?_
  rintro e w' ⟨rfl, xs2, d2, rfl⟩
  have H2 := H1.keep (grow_below w1 xs2 d2)
  have A2 := Acc.below A1 (grow_below w1 xs2 d2)
  obtain ⟨w2, hw2⟩ : ∃ x, x = grow w1 xs2 d2 := ⟨_, rfl⟩
  rw [← hw2] at H2 A2 ⊢
  clear hw2
  rw [show isSpaceZ 124 = false from by decide]
  go_wp2_with fail
  refine (accept_any (v := cBar) H2).mono ?_
  rintro e w3 ⟨rfl, S3, hS3, H3, hf3⟩
  have A3 := Acc.step A2 hS3 hf3
  go_wp2_with fail
  refine (emit_any H3 ((reads_accept _ s _).le (next_le hle)) (by rw [(reads_accept _ s _).toks, (reads_next s t).toks]; exact hn) kOperator).mono ?_
  rintro e w4 ⟨rfl, S4, hS4, H4, hf4⟩
  have A4 := Acc.step A3 hS4 hf4
  go_wp2_with fail
  go_ret
  exact ⟨rfl, A4.done H4⟩

set_option maxHeartbeats 4000000 in
set_option maxRecDepth 100000 in
theorem root_r58 {F : Stop.Interp} {W0 w : World} {S : Nat → Prop} {L : Nat} {s : ByteArray} {t : St} (_hF : F.answers W0.tape) (H : Lx W0 S w L s t) (hr : peek s t = 58) (hle : t.eb ≤ s.size) (hn : t.toks.length ≤ 9) :
    Calls Tryf.prog 31 #[.pointer (some ⟨L, 0, none⟩)] w fun e w' => e = .returned (qVal (some .root)) ∧ Done W0 S w L s (emit kOperator s (accept cColon s (next s t))) w' := by
  have A0 := Acc.refl S w
  have hlo := peek_lo s t
  have hhi := peek_hi s t
  have Hr := Lib.hid hr
  clear hr
  go_enter Tryf.func31, Tryf.ntmps31
  go_wp2_with fail
  refine (next_any H).mono ?_
  rintro e w1 ⟨rfl, S1, hS1, H1, hf1⟩
  have A1 := Acc.step A0 hS1 hf1
  rw [Hr.out]
  go_wp2_with fail
  refine (isSpace_any (H1).tabsAt 58 (by omega) (by omega)).mono ?_
  rintro e w' ⟨rfl, xs2, d2, rfl⟩
  have H2 := H1.keep (grow_below w1 xs2 d2)
  have A2 := Acc.below A1 (grow_below w1 xs2 d2)
  obtain ⟨w2, hw2⟩ : ∃ x, x = grow w1 xs2 d2 := ⟨_, rfl⟩
  rw [← hw2] at H2 A2 ⊢
  clear hw2
  rw [show isSpaceZ 58 = false from by decide]
  go_wp2_with fail
  refine (accept_any (v := cColon) H2).mono ?_
  rintro e w3 ⟨rfl, S3, hS3, H3, hf3⟩
  have A3 := Acc.step A2 hS3 hf3
  go_wp2_with fail
  refine (emit_any H3 ((reads_accept _ s _).le (next_le hle)) (by rw [(reads_accept _ s _).toks, (reads_next s t).toks]; exact hn) kOperator).mono ?_
  rintro e w4 ⟨rfl, S4, hS4, H4, hf4⟩
  have A4 := Acc.step A3 hS4 hf4
  go_wp2_with fail
  go_ret
  exact ⟨rfl, A4.done H4⟩

set_option maxHeartbeats 4000000 in
set_option maxRecDepth 100000 in
theorem root_r40 {F : Stop.Interp} {W0 w : World} {S : Nat → Prop} {L : Nat} {s : ByteArray} {t : St} (_hF : F.answers W0.tape) (H : Lx W0 S w L s t) (hr : peek s t = 40) (hle : t.eb ≤ s.size) (hn : t.toks.length ≤ 9) :
    Calls Tryf.prog 31 #[.pointer (some ⟨L, 0, none⟩)] w fun e w' => e = .returned (qVal (some .root)) ∧ Done W0 S w L s (emit kBracket s (next s t)) w' := by
  have A0 := Acc.refl S w
  have hlo := peek_lo s t
  have hhi := peek_hi s t
  have Hr := Lib.hid hr
  clear hr
  go_enter Tryf.func31, Tryf.ntmps31
  go_wp2_with fail
  refine (next_any H).mono ?_
  rintro e w1 ⟨rfl, S1, hS1, H1, hf1⟩
  have A1 := Acc.step A0 hS1 hf1
  rw [Hr.out]
  go_wp2_with fail
  refine (isSpace_any (H1).tabsAt 40 (by omega) (by omega)).mono ?_
  rintro e w' ⟨rfl, xs2, d2, rfl⟩
  have H2 := H1.keep (grow_below w1 xs2 d2)
  have A2 := Acc.below A1 (grow_below w1 xs2 d2)
  obtain ⟨w2, hw2⟩ : ∃ x, x = grow w1 xs2 d2 := ⟨_, rfl⟩
  rw [← hw2] at H2 A2 ⊢
  clear hw2
  rw [show isSpaceZ 40 = false from by decide]
  go_wp2_with fail
  refine ((fun (_ : Lx W0 _ _ L s _) => contains_any cOpen 40 _ (by omega) (by omega)) H2).mono ?_
  rintro e w' ⟨rfl, xs3, d3, rfl⟩
  have H3 := H2.keep (grow_below w2 xs3 d3)
  have A3 := Acc.below A2 (grow_below w2 xs3 d3)
  obtain ⟨w3, hw3⟩ : ∃ x, x = grow w2 xs3 d3 := ⟨_, rfl⟩
  rw [← hw3] at H3 A3 ⊢
  clear hw3
  rw [show has cOpen 40 = true from by rw [has_cOpen]; decide]
  go_wp2_with fail
  refine (emit_any H3 (next_le hle) (by rw [(reads_next s t).toks]; exact hn) kBracket).mono ?_
  rintro e w4 ⟨rfl, S4, hS4, H4, hf4⟩
  have A4 := Acc.step A3 hS4 hf4
  go_wp2_with fail
  go_ret
  exact ⟨rfl, A4.done H4⟩

set_option maxHeartbeats 4000000 in
set_option maxRecDepth 100000 in
theorem root_r91 {F : Stop.Interp} {W0 w : World} {S : Nat → Prop} {L : Nat} {s : ByteArray} {t : St} (_hF : F.answers W0.tape) (H : Lx W0 S w L s t) (hr : peek s t = 91) (hle : t.eb ≤ s.size) (hn : t.toks.length ≤ 9) :
    Calls Tryf.prog 31 #[.pointer (some ⟨L, 0, none⟩)] w fun e w' => e = .returned (qVal (some .root)) ∧ Done W0 S w L s (emit kBracket s (next s t)) w' := by
  have A0 := Acc.refl S w
  have hlo := peek_lo s t
  have hhi := peek_hi s t
  have Hr := Lib.hid hr
  clear hr
  go_enter Tryf.func31, Tryf.ntmps31
  go_wp2_with fail
  refine (next_any H).mono ?_
  rintro e w1 ⟨rfl, S1, hS1, H1, hf1⟩
  have A1 := Acc.step A0 hS1 hf1
  rw [Hr.out]
  go_wp2_with fail
  refine (isSpace_any (H1).tabsAt 91 (by omega) (by omega)).mono ?_
  rintro e w' ⟨rfl, xs2, d2, rfl⟩
  have H2 := H1.keep (grow_below w1 xs2 d2)
  have A2 := Acc.below A1 (grow_below w1 xs2 d2)
  obtain ⟨w2, hw2⟩ : ∃ x, x = grow w1 xs2 d2 := ⟨_, rfl⟩
  rw [← hw2] at H2 A2 ⊢
  clear hw2
  rw [show isSpaceZ 91 = false from by decide]
  go_wp2_with fail
  refine ((fun (_ : Lx W0 _ _ L s _) => contains_any cOpen 91 _ (by omega) (by omega)) H2).mono ?_
  rintro e w' ⟨rfl, xs3, d3, rfl⟩
  have H3 := H2.keep (grow_below w2 xs3 d3)
  have A3 := Acc.below A2 (grow_below w2 xs3 d3)
  obtain ⟨w3, hw3⟩ : ∃ x, x = grow w2 xs3 d3 := ⟨_, rfl⟩
  rw [← hw3] at H3 A3 ⊢
  clear hw3
  rw [show has cOpen 91 = true from by rw [has_cOpen]; decide]
  go_wp2_with fail
  refine (emit_any H3 (next_le hle) (by rw [(reads_next s t).toks]; exact hn) kBracket).mono ?_
  rintro e w4 ⟨rfl, S4, hS4, H4, hf4⟩
  have A4 := Acc.step A3 hS4 hf4
  go_wp2_with fail
  go_ret
  exact ⟨rfl, A4.done H4⟩

set_option maxHeartbeats 4000000 in
set_option maxRecDepth 100000 in
theorem root_r123 {F : Stop.Interp} {W0 w : World} {S : Nat → Prop} {L : Nat} {s : ByteArray} {t : St} (_hF : F.answers W0.tape) (H : Lx W0 S w L s t) (hr : peek s t = 123) (hle : t.eb ≤ s.size) (hn : t.toks.length ≤ 9) :
    Calls Tryf.prog 31 #[.pointer (some ⟨L, 0, none⟩)] w fun e w' => e = .returned (qVal (some .root)) ∧ Done W0 S w L s (emit kBracket s (next s t)) w' := by
  have A0 := Acc.refl S w
  have hlo := peek_lo s t
  have hhi := peek_hi s t
  have Hr := Lib.hid hr
  clear hr
  go_enter Tryf.func31, Tryf.ntmps31
  go_wp2_with fail
  refine (next_any H).mono ?_
  rintro e w1 ⟨rfl, S1, hS1, H1, hf1⟩
  have A1 := Acc.step A0 hS1 hf1
  rw [Hr.out]
  go_wp2_with fail
  refine (isSpace_any (H1).tabsAt 123 (by omega) (by omega)).mono ?_
  rintro e w' ⟨rfl, xs2, d2, rfl⟩
  have H2 := H1.keep (grow_below w1 xs2 d2)
  have A2 := Acc.below A1 (grow_below w1 xs2 d2)
  obtain ⟨w2, hw2⟩ : ∃ x, x = grow w1 xs2 d2 := ⟨_, rfl⟩
  rw [← hw2] at H2 A2 ⊢
  clear hw2
  rw [show isSpaceZ 123 = false from by decide]
  go_wp2_with fail
  refine ((fun (_ : Lx W0 _ _ L s _) => contains_any cOpen 123 _ (by omega) (by omega)) H2).mono ?_
  rintro e w' ⟨rfl, xs3, d3, rfl⟩
  have H3 := H2.keep (grow_below w2 xs3 d3)
  have A3 := Acc.below A2 (grow_below w2 xs3 d3)
  obtain ⟨w3, hw3⟩ : ∃ x, x = grow w2 xs3 d3 := ⟨_, rfl⟩
  rw [← hw3] at H3 A3 ⊢
  clear hw3
  rw [show has cOpen 123 = true from by rw [has_cOpen]; decide]
  go_wp2_with fail
  refine (emit_any H3 (next_le hle) (by rw [(reads_next s t).toks]; exact hn) kBracket).mono ?_
  rintro e w4 ⟨rfl, S4, hS4, H4, hf4⟩
  have A4 := Acc.step A3 hS4 hf4
  go_wp2_with fail
  go_ret
  exact ⟨rfl, A4.done H4⟩

set_option maxHeartbeats 4000000 in
set_option maxRecDepth 100000 in
theorem root_r41 {F : Stop.Interp} {W0 w : World} {S : Nat → Prop} {L : Nat} {s : ByteArray} {t : St} (_hF : F.answers W0.tape) (H : Lx W0 S w L s t) (hr : peek s t = 41) (hle : t.eb ≤ s.size) (hn : t.toks.length ≤ 9) :
    Calls Tryf.prog 31 #[.pointer (some ⟨L, 0, none⟩)] w fun e w' => e = .returned (qVal (some .root)) ∧ Done W0 S w L s (emit kBracket s (next s t)) w' := by
  have A0 := Acc.refl S w
  have hlo := peek_lo s t
  have hhi := peek_hi s t
  have Hr := Lib.hid hr
  clear hr
  go_enter Tryf.func31, Tryf.ntmps31
  go_wp2_with fail
  refine (next_any H).mono ?_
  rintro e w1 ⟨rfl, S1, hS1, H1, hf1⟩
  have A1 := Acc.step A0 hS1 hf1
  rw [Hr.out]
  go_wp2_with fail
  refine (isSpace_any (H1).tabsAt 41 (by omega) (by omega)).mono ?_
  rintro e w' ⟨rfl, xs2, d2, rfl⟩
  have H2 := H1.keep (grow_below w1 xs2 d2)
  have A2 := Acc.below A1 (grow_below w1 xs2 d2)
  obtain ⟨w2, hw2⟩ : ∃ x, x = grow w1 xs2 d2 := ⟨_, rfl⟩
  rw [← hw2] at H2 A2 ⊢
  clear hw2
  rw [show isSpaceZ 41 = false from by decide]
  go_wp2_with fail
  refine ((fun (_ : Lx W0 _ _ L s _) => contains_any cOpen 41 _ (by omega) (by omega)) H2).mono ?_
  rintro e w' ⟨rfl, xs3, d3, rfl⟩
  have H3 := H2.keep (grow_below w2 xs3 d3)
  have A3 := Acc.below A2 (grow_below w2 xs3 d3)
  obtain ⟨w3, hw3⟩ : ∃ x, x = grow w2 xs3 d3 := ⟨_, rfl⟩
  rw [← hw3] at H3 A3 ⊢
  clear hw3
  rw [show has cOpen 41 = false from by rw [has_cOpen]; decide]
  go_wp2_with fail
  refine ((fun (_ : Lx W0 _ _ L s _) => contains_any cShut 41 _ (by omega) (by omega)) H3).mono ?_
  rintro e w' ⟨rfl, xs4, d4, rfl⟩
  have H4 := H3.keep (grow_below w3 xs4 d4)
  have A4 := Acc.below A3 (grow_below w3 xs4 d4)
  obtain ⟨w4, hw4⟩ : ∃ x, x = grow w3 xs4 d4 := ⟨_, rfl⟩
  rw [← hw4] at H4 A4 ⊢
  clear hw4
  rw [show has cShut 41 = true from by rw [has_cShut]; decide]
  go_wp2_with fail
  refine (emit_any H4 (next_le hle) (by rw [(reads_next s t).toks]; exact hn) kBracket).mono ?_
  rintro e w5 ⟨rfl, S5, hS5, H5, hf5⟩
  have A5 := Acc.step A4 hS5 hf5
  go_wp2_with fail
  go_ret
  exact ⟨rfl, A5.done H5⟩

set_option maxHeartbeats 4000000 in
set_option maxRecDepth 100000 in
theorem root_r93 {F : Stop.Interp} {W0 w : World} {S : Nat → Prop} {L : Nat} {s : ByteArray} {t : St} (_hF : F.answers W0.tape) (H : Lx W0 S w L s t) (hr : peek s t = 93) (hle : t.eb ≤ s.size) (hn : t.toks.length ≤ 9) :
    Calls Tryf.prog 31 #[.pointer (some ⟨L, 0, none⟩)] w fun e w' => e = .returned (qVal (some .root)) ∧ Done W0 S w L s (emit kBracket s (next s t)) w' := by
  have A0 := Acc.refl S w
  have hlo := peek_lo s t
  have hhi := peek_hi s t
  have Hr := Lib.hid hr
  clear hr
  go_enter Tryf.func31, Tryf.ntmps31
  go_wp2_with fail
  refine (next_any H).mono ?_
  rintro e w1 ⟨rfl, S1, hS1, H1, hf1⟩
  have A1 := Acc.step A0 hS1 hf1
  rw [Hr.out]
  go_wp2_with fail
  refine (isSpace_any (H1).tabsAt 93 (by omega) (by omega)).mono ?_
  rintro e w' ⟨rfl, xs2, d2, rfl⟩
  have H2 := H1.keep (grow_below w1 xs2 d2)
  have A2 := Acc.below A1 (grow_below w1 xs2 d2)
  obtain ⟨w2, hw2⟩ : ∃ x, x = grow w1 xs2 d2 := ⟨_, rfl⟩
  rw [← hw2] at H2 A2 ⊢
  clear hw2
  rw [show isSpaceZ 93 = false from by decide]
  go_wp2_with fail
  refine ((fun (_ : Lx W0 _ _ L s _) => contains_any cOpen 93 _ (by omega) (by omega)) H2).mono ?_
  rintro e w' ⟨rfl, xs3, d3, rfl⟩
  have H3 := H2.keep (grow_below w2 xs3 d3)
  have A3 := Acc.below A2 (grow_below w2 xs3 d3)
  obtain ⟨w3, hw3⟩ : ∃ x, x = grow w2 xs3 d3 := ⟨_, rfl⟩
  rw [← hw3] at H3 A3 ⊢
  clear hw3
  rw [show has cOpen 93 = false from by rw [has_cOpen]; decide]
  go_wp2_with fail
  refine ((fun (_ : Lx W0 _ _ L s _) => contains_any cShut 93 _ (by omega) (by omega)) H3).mono ?_
  rintro e w' ⟨rfl, xs4, d4, rfl⟩
  have H4 := H3.keep (grow_below w3 xs4 d4)
  have A4 := Acc.below A3 (grow_below w3 xs4 d4)
  obtain ⟨w4, hw4⟩ : ∃ x, x = grow w3 xs4 d4 := ⟨_, rfl⟩
  rw [← hw4] at H4 A4 ⊢
  clear hw4
  rw [show has cShut 93 = true from by rw [has_cShut]; decide]
  go_wp2_with fail
  refine (emit_any H4 (next_le hle) (by rw [(reads_next s t).toks]; exact hn) kBracket).mono ?_
  rintro e w5 ⟨rfl, S5, hS5, H5, hf5⟩
  have A5 := Acc.step A4 hS5 hf5
  go_wp2_with fail
  go_ret
  exact ⟨rfl, A5.done H5⟩

set_option maxHeartbeats 4000000 in
set_option maxRecDepth 100000 in
theorem root_r125 {F : Stop.Interp} {W0 w : World} {S : Nat → Prop} {L : Nat} {s : ByteArray} {t : St} (_hF : F.answers W0.tape) (H : Lx W0 S w L s t) (hr : peek s t = 125) (hle : t.eb ≤ s.size) (hn : t.toks.length ≤ 9) :
    Calls Tryf.prog 31 #[.pointer (some ⟨L, 0, none⟩)] w fun e w' => e = .returned (qVal (some .root)) ∧ Done W0 S w L s (emit kBracket s (next s t)) w' := by
  have A0 := Acc.refl S w
  have hlo := peek_lo s t
  have hhi := peek_hi s t
  have Hr := Lib.hid hr
  clear hr
  go_enter Tryf.func31, Tryf.ntmps31
  go_wp2_with fail
  refine (next_any H).mono ?_
  rintro e w1 ⟨rfl, S1, hS1, H1, hf1⟩
  have A1 := Acc.step A0 hS1 hf1
  rw [Hr.out]
  go_wp2_with fail
  refine (isSpace_any (H1).tabsAt 125 (by omega) (by omega)).mono ?_
  rintro e w' ⟨rfl, xs2, d2, rfl⟩
  have H2 := H1.keep (grow_below w1 xs2 d2)
  have A2 := Acc.below A1 (grow_below w1 xs2 d2)
  obtain ⟨w2, hw2⟩ : ∃ x, x = grow w1 xs2 d2 := ⟨_, rfl⟩
  rw [← hw2] at H2 A2 ⊢
  clear hw2
  rw [show isSpaceZ 125 = false from by decide]
  go_wp2_with fail
  refine ((fun (_ : Lx W0 _ _ L s _) => contains_any cOpen 125 _ (by omega) (by omega)) H2).mono ?_
  rintro e w' ⟨rfl, xs3, d3, rfl⟩
  have H3 := H2.keep (grow_below w2 xs3 d3)
  have A3 := Acc.below A2 (grow_below w2 xs3 d3)
  obtain ⟨w3, hw3⟩ : ∃ x, x = grow w2 xs3 d3 := ⟨_, rfl⟩
  rw [← hw3] at H3 A3 ⊢
  clear hw3
  rw [show has cOpen 125 = false from by rw [has_cOpen]; decide]
  go_wp2_with fail
  refine ((fun (_ : Lx W0 _ _ L s _) => contains_any cShut 125 _ (by omega) (by omega)) H3).mono ?_
  rintro e w' ⟨rfl, xs4, d4, rfl⟩
  have H4 := H3.keep (grow_below w3 xs4 d4)
  have A4 := Acc.below A3 (grow_below w3 xs4 d4)
  obtain ⟨w4, hw4⟩ : ∃ x, x = grow w3 xs4 d4 := ⟨_, rfl⟩
  rw [← hw4] at H4 A4 ⊢
  clear hw4
  rw [show has cShut 125 = true from by rw [has_cShut]; decide]
  go_wp2_with fail
  refine (emit_any H4 (next_le hle) (by rw [(reads_next s t).toks]; exact hn) kBracket).mono ?_
  rintro e w5 ⟨rfl, S5, hS5, H5, hf5⟩
  have A5 := Acc.step A4 hS5 hf5
  go_wp2_with fail
  go_ret
  exact ⟨rfl, A5.done H5⟩

set_option maxHeartbeats 4000000 in
set_option maxRecDepth 100000 in
theorem root_r44 {F : Stop.Interp} {W0 w : World} {S : Nat → Prop} {L : Nat} {s : ByteArray} {t : St} (_hF : F.answers W0.tape) (H : Lx W0 S w L s t) (hr : peek s t = 44) (hle : t.eb ≤ s.size) (hn : t.toks.length ≤ 9) :
    Calls Tryf.prog 31 #[.pointer (some ⟨L, 0, none⟩)] w fun e w' => e = .returned (qVal (some .root)) ∧ Done W0 S w L s (emit kOperator s (next s t)) w' := by
  have A0 := Acc.refl S w
  have hlo := peek_lo s t
  have hhi := peek_hi s t
  have Hr := Lib.hid hr
  clear hr
  go_enter Tryf.func31, Tryf.ntmps31
  go_wp2_with fail
  refine (next_any H).mono ?_
  rintro e w1 ⟨rfl, S1, hS1, H1, hf1⟩
  have A1 := Acc.step A0 hS1 hf1
  rw [Hr.out]
  go_wp2_with fail
  refine (isSpace_any (H1).tabsAt 44 (by omega) (by omega)).mono ?_
  rintro e w' ⟨rfl, xs2, d2, rfl⟩
  have H2 := H1.keep (grow_below w1 xs2 d2)
  have A2 := Acc.below A1 (grow_below w1 xs2 d2)
  obtain ⟨w2, hw2⟩ : ∃ x, x = grow w1 xs2 d2 := ⟨_, rfl⟩
  rw [← hw2] at H2 A2 ⊢
  clear hw2
  rw [show isSpaceZ 44 = false from by decide]
  go_wp2_with fail
  refine ((fun (_ : Lx W0 _ _ L s _) => contains_any cOpen 44 _ (by omega) (by omega)) H2).mono ?_
  rintro e w' ⟨rfl, xs3, d3, rfl⟩
  have H3 := H2.keep (grow_below w2 xs3 d3)
  have A3 := Acc.below A2 (grow_below w2 xs3 d3)
  obtain ⟨w3, hw3⟩ : ∃ x, x = grow w2 xs3 d3 := ⟨_, rfl⟩
  rw [← hw3] at H3 A3 ⊢
  clear hw3
  rw [show has cOpen 44 = false from by rw [has_cOpen]; decide]
  go_wp2_with fail
  refine ((fun (_ : Lx W0 _ _ L s _) => contains_any cShut 44 _ (by omega) (by omega)) H3).mono ?_
  rintro e w' ⟨rfl, xs4, d4, rfl⟩
  have H4 := H3.keep (grow_below w3 xs4 d4)
  have A4 := Acc.below A3 (grow_below w3 xs4 d4)
  obtain ⟨w4, hw4⟩ : ∃ x, x = grow w3 xs4 d4 := ⟨_, rfl⟩
  rw [← hw4] at H4 A4 ⊢
  clear hw4
  rw [show has cShut 44 = false from by rw [has_cShut]; decide]
  go_wp2_with fail
  refine ((fun (_ : Lx W0 _ _ L s _) => contains_any cOne 44 _ (by omega) (by omega)) H4).mono ?_
  rintro e w' ⟨rfl, xs5, d5, rfl⟩
  have H5 := H4.keep (grow_below w4 xs5 d5)
  have A5 := Acc.below A4 (grow_below w4 xs5 d5)
  obtain ⟨w5, hw5⟩ : ∃ x, x = grow w4 xs5 d5 := ⟨_, rfl⟩
  rw [← hw5] at H5 A5 ⊢
  clear hw5
  rw [show has cOne 44 = true from by rw [has_cOne]; decide]
  go_wp2_with fail
  refine (emit_any H5 (next_le hle) (by rw [(reads_next s t).toks]; exact hn) kOperator).mono ?_
  rintro e w6 ⟨rfl, S6, hS6, H6, hf6⟩
  have A6 := Acc.step A5 hS6 hf6
  go_wp2_with fail
  go_ret
  exact ⟨rfl, A6.done H6⟩

set_option maxHeartbeats 4000000 in
set_option maxRecDepth 100000 in
theorem root_r59 {F : Stop.Interp} {W0 w : World} {S : Nat → Prop} {L : Nat} {s : ByteArray} {t : St} (_hF : F.answers W0.tape) (H : Lx W0 S w L s t) (hr : peek s t = 59) (hle : t.eb ≤ s.size) (hn : t.toks.length ≤ 9) :
    Calls Tryf.prog 31 #[.pointer (some ⟨L, 0, none⟩)] w fun e w' => e = .returned (qVal (some .root)) ∧ Done W0 S w L s (emit kOperator s (next s t)) w' := by
  have A0 := Acc.refl S w
  have hlo := peek_lo s t
  have hhi := peek_hi s t
  have Hr := Lib.hid hr
  clear hr
  go_enter Tryf.func31, Tryf.ntmps31
  go_wp2_with fail
  refine (next_any H).mono ?_
  rintro e w1 ⟨rfl, S1, hS1, H1, hf1⟩
  have A1 := Acc.step A0 hS1 hf1
  rw [Hr.out]
  go_wp2_with fail
  refine (isSpace_any (H1).tabsAt 59 (by omega) (by omega)).mono ?_
  rintro e w' ⟨rfl, xs2, d2, rfl⟩
  have H2 := H1.keep (grow_below w1 xs2 d2)
  have A2 := Acc.below A1 (grow_below w1 xs2 d2)
  obtain ⟨w2, hw2⟩ : ∃ x, x = grow w1 xs2 d2 := ⟨_, rfl⟩
  rw [← hw2] at H2 A2 ⊢
  clear hw2
  rw [show isSpaceZ 59 = false from by decide]
  go_wp2_with fail
  refine ((fun (_ : Lx W0 _ _ L s _) => contains_any cOpen 59 _ (by omega) (by omega)) H2).mono ?_
  rintro e w' ⟨rfl, xs3, d3, rfl⟩
  have H3 := H2.keep (grow_below w2 xs3 d3)
  have A3 := Acc.below A2 (grow_below w2 xs3 d3)
  obtain ⟨w3, hw3⟩ : ∃ x, x = grow w2 xs3 d3 := ⟨_, rfl⟩
  rw [← hw3] at H3 A3 ⊢
  clear hw3
  rw [show has cOpen 59 = false from by rw [has_cOpen]; decide]
  go_wp2_with fail
  refine ((fun (_ : Lx W0 _ _ L s _) => contains_any cShut 59 _ (by omega) (by omega)) H3).mono ?_
  rintro e w' ⟨rfl, xs4, d4, rfl⟩
  have H4 := H3.keep (grow_below w3 xs4 d4)
  have A4 := Acc.below A3 (grow_below w3 xs4 d4)
  obtain ⟨w4, hw4⟩ : ∃ x, x = grow w3 xs4 d4 := ⟨_, rfl⟩
  rw [← hw4] at H4 A4 ⊢
  clear hw4
  rw [show has cShut 59 = false from by rw [has_cShut]; decide]
  go_wp2_with fail
  refine ((fun (_ : Lx W0 _ _ L s _) => contains_any cOne 59 _ (by omega) (by omega)) H4).mono ?_
  rintro e w' ⟨rfl, xs5, d5, rfl⟩
  have H5 := H4.keep (grow_below w4 xs5 d5)
  have A5 := Acc.below A4 (grow_below w4 xs5 d5)
  obtain ⟨w5, hw5⟩ : ∃ x, x = grow w4 xs5 d5 := ⟨_, rfl⟩
  rw [← hw5] at H5 A5 ⊢
  clear hw5
  rw [show has cOne 59 = true from by rw [has_cOne]; decide]
  go_wp2_with fail
  refine (emit_any H5 (next_le hle) (by rw [(reads_next s t).toks]; exact hn) kOperator).mono ?_
  rintro e w6 ⟨rfl, S6, hS6, H6, hf6⟩
  have A6 := Acc.step A5 hS6 hf6
  go_wp2_with fail
  go_ret
  exact ⟨rfl, A6.done H6⟩

set_option maxHeartbeats 4000000 in
set_option maxRecDepth 100000 in
theorem root_r37 {F : Stop.Interp} {W0 w : World} {S : Nat → Prop} {L : Nat} {s : ByteArray} {t : St} (_hF : F.answers W0.tape) (H : Lx W0 S w L s t) (hr : peek s t = 37) (hle : t.eb ≤ s.size) (hn : t.toks.length ≤ 9) :
    Calls Tryf.prog 31 #[.pointer (some ⟨L, 0, none⟩)] w fun e w' => e = .returned (qVal (some .root)) ∧ Done W0 S w L s (emit kOperator s (next s t)) w' := by
  have A0 := Acc.refl S w
  have hlo := peek_lo s t
  have hhi := peek_hi s t
  have Hr := Lib.hid hr
  clear hr
  go_enter Tryf.func31, Tryf.ntmps31
  go_wp2_with fail
  refine (next_any H).mono ?_
  rintro e w1 ⟨rfl, S1, hS1, H1, hf1⟩
  have A1 := Acc.step A0 hS1 hf1
  rw [Hr.out]
  go_wp2_with fail
  refine (isSpace_any (H1).tabsAt 37 (by omega) (by omega)).mono ?_
  rintro e w' ⟨rfl, xs2, d2, rfl⟩
  have H2 := H1.keep (grow_below w1 xs2 d2)
  have A2 := Acc.below A1 (grow_below w1 xs2 d2)
  obtain ⟨w2, hw2⟩ : ∃ x, x = grow w1 xs2 d2 := ⟨_, rfl⟩
  rw [← hw2] at H2 A2 ⊢
  clear hw2
  rw [show isSpaceZ 37 = false from by decide]
  go_wp2_with fail
  refine ((fun (_ : Lx W0 _ _ L s _) => contains_any cOpen 37 _ (by omega) (by omega)) H2).mono ?_
  rintro e w' ⟨rfl, xs3, d3, rfl⟩
  have H3 := H2.keep (grow_below w2 xs3 d3)
  have A3 := Acc.below A2 (grow_below w2 xs3 d3)
  obtain ⟨w3, hw3⟩ : ∃ x, x = grow w2 xs3 d3 := ⟨_, rfl⟩
  rw [← hw3] at H3 A3 ⊢
  clear hw3
  rw [show has cOpen 37 = false from by rw [has_cOpen]; decide]
  go_wp2_with fail
  refine ((fun (_ : Lx W0 _ _ L s _) => contains_any cShut 37 _ (by omega) (by omega)) H3).mono ?_
  rintro e w' ⟨rfl, xs4, d4, rfl⟩
  have H4 := H3.keep (grow_below w3 xs4 d4)
  have A4 := Acc.below A3 (grow_below w3 xs4 d4)
  obtain ⟨w4, hw4⟩ : ∃ x, x = grow w3 xs4 d4 := ⟨_, rfl⟩
  rw [← hw4] at H4 A4 ⊢
  clear hw4
  rw [show has cShut 37 = false from by rw [has_cShut]; decide]
  go_wp2_with fail
  refine ((fun (_ : Lx W0 _ _ L s _) => contains_any cOne 37 _ (by omega) (by omega)) H4).mono ?_
  rintro e w' ⟨rfl, xs5, d5, rfl⟩
  have H5 := H4.keep (grow_below w4 xs5 d5)
  have A5 := Acc.below A4 (grow_below w4 xs5 d5)
  obtain ⟨w5, hw5⟩ : ∃ x, x = grow w4 xs5 d5 := ⟨_, rfl⟩
  rw [← hw5] at H5 A5 ⊢
  clear hw5
  rw [show has cOne 37 = true from by rw [has_cOne]; decide]
  go_wp2_with fail
  refine (emit_any H5 (next_le hle) (by rw [(reads_next s t).toks]; exact hn) kOperator).mono ?_
  rintro e w6 ⟨rfl, S6, hS6, H6, hf6⟩
  have A6 := Acc.step A5 hS6 hf6
  go_wp2_with fail
  go_ret
  exact ⟨rfl, A6.done H6⟩

set_option maxHeartbeats 4000000 in
set_option maxRecDepth 100000 in
theorem root_r43 {F : Stop.Interp} {W0 w : World} {S : Nat → Prop} {L : Nat} {s : ByteArray} {t : St} (_hF : F.answers W0.tape) (H : Lx W0 S w L s t) (hr : peek s t = 43) (hle : t.eb ≤ s.size) (hn : t.toks.length ≤ 9) :
    Calls Tryf.prog 31 #[.pointer (some ⟨L, 0, none⟩)] w fun e w' => e = .returned (qVal (some .root)) ∧ Done W0 S w L s (emit kOperator s (next s t)) w' := by
  have A0 := Acc.refl S w
  have hlo := peek_lo s t
  have hhi := peek_hi s t
  have Hr := Lib.hid hr
  clear hr
  go_enter Tryf.func31, Tryf.ntmps31
  go_wp2_with fail
  refine (next_any H).mono ?_
  rintro e w1 ⟨rfl, S1, hS1, H1, hf1⟩
  have A1 := Acc.step A0 hS1 hf1
  rw [Hr.out]
  go_wp2_with fail
  refine (isSpace_any (H1).tabsAt 43 (by omega) (by omega)).mono ?_
  rintro e w' ⟨rfl, xs2, d2, rfl⟩
  have H2 := H1.keep (grow_below w1 xs2 d2)
  have A2 := Acc.below A1 (grow_below w1 xs2 d2)
  obtain ⟨w2, hw2⟩ : ∃ x, x = grow w1 xs2 d2 := ⟨_, rfl⟩
  rw [← hw2] at H2 A2 ⊢
  clear hw2
  rw [show isSpaceZ 43 = false from by decide]
  go_wp2_with fail
  refine ((fun (_ : Lx W0 _ _ L s _) => contains_any cOpen 43 _ (by omega) (by omega)) H2).mono ?_
  rintro e w' ⟨rfl, xs3, d3, rfl⟩
  have H3 := H2.keep (grow_below w2 xs3 d3)
  have A3 := Acc.below A2 (grow_below w2 xs3 d3)
  obtain ⟨w3, hw3⟩ : ∃ x, x = grow w2 xs3 d3 := ⟨_, rfl⟩
  rw [← hw3] at H3 A3 ⊢
  clear hw3
  rw [show has cOpen 43 = false from by rw [has_cOpen]; decide]
  go_wp2_with fail
  refine ((fun (_ : Lx W0 _ _ L s _) => contains_any cShut 43 _ (by omega) (by omega)) H3).mono ?_
  rintro e w' ⟨rfl, xs4, d4, rfl⟩
  have H4 := H3.keep (grow_below w3 xs4 d4)
  have A4 := Acc.below A3 (grow_below w3 xs4 d4)
  obtain ⟨w4, hw4⟩ : ∃ x, x = grow w3 xs4 d4 := ⟨_, rfl⟩
  rw [← hw4] at H4 A4 ⊢
  clear hw4
  rw [show has cShut 43 = false from by rw [has_cShut]; decide]
  go_wp2_with fail
  refine ((fun (_ : Lx W0 _ _ L s _) => contains_any cOne 43 _ (by omega) (by omega)) H4).mono ?_
  rintro e w' ⟨rfl, xs5, d5, rfl⟩
  have H5 := H4.keep (grow_below w4 xs5 d5)
  have A5 := Acc.below A4 (grow_below w4 xs5 d5)
  obtain ⟨w5, hw5⟩ : ∃ x, x = grow w4 xs5 d5 := ⟨_, rfl⟩
  rw [← hw5] at H5 A5 ⊢
  clear hw5
  rw [show has cOne 43 = true from by rw [has_cOne]; decide]
  go_wp2_with fail
  refine (emit_any H5 (next_le hle) (by rw [(reads_next s t).toks]; exact hn) kOperator).mono ?_
  rintro e w6 ⟨rfl, S6, hS6, H6, hf6⟩
  have A6 := Acc.step A5 hS6 hf6
  go_wp2_with fail
  go_ret
  exact ⟨rfl, A6.done H6⟩

set_option maxHeartbeats 4000000 in
set_option maxRecDepth 100000 in
theorem root_r45 {F : Stop.Interp} {W0 w : World} {S : Nat → Prop} {L : Nat} {s : ByteArray} {t : St} (_hF : F.answers W0.tape) (H : Lx W0 S w L s t) (hr : peek s t = 45) (hle : t.eb ≤ s.size) (hn : t.toks.length ≤ 9) :
    Calls Tryf.prog 31 #[.pointer (some ⟨L, 0, none⟩)] w fun e w' => e = .returned (qVal (some .root)) ∧ Done W0 S w L s (emit kOperator s (next s t)) w' := by
  have A0 := Acc.refl S w
  have hlo := peek_lo s t
  have hhi := peek_hi s t
  have Hr := Lib.hid hr
  clear hr
  go_enter Tryf.func31, Tryf.ntmps31
  go_wp2_with fail
  refine (next_any H).mono ?_
  rintro e w1 ⟨rfl, S1, hS1, H1, hf1⟩
  have A1 := Acc.step A0 hS1 hf1
  rw [Hr.out]
  go_wp2_with fail
  refine (isSpace_any (H1).tabsAt 45 (by omega) (by omega)).mono ?_
  rintro e w' ⟨rfl, xs2, d2, rfl⟩
  have H2 := H1.keep (grow_below w1 xs2 d2)
  have A2 := Acc.below A1 (grow_below w1 xs2 d2)
  obtain ⟨w2, hw2⟩ : ∃ x, x = grow w1 xs2 d2 := ⟨_, rfl⟩
  rw [← hw2] at H2 A2 ⊢
  clear hw2
  rw [show isSpaceZ 45 = false from by decide]
  go_wp2_with fail
  refine ((fun (_ : Lx W0 _ _ L s _) => contains_any cOpen 45 _ (by omega) (by omega)) H2).mono ?_
  rintro e w' ⟨rfl, xs3, d3, rfl⟩
  have H3 := H2.keep (grow_below w2 xs3 d3)
  have A3 := Acc.below A2 (grow_below w2 xs3 d3)
  obtain ⟨w3, hw3⟩ : ∃ x, x = grow w2 xs3 d3 := ⟨_, rfl⟩
  rw [← hw3] at H3 A3 ⊢
  clear hw3
  rw [show has cOpen 45 = false from by rw [has_cOpen]; decide]
  go_wp2_with fail
  refine ((fun (_ : Lx W0 _ _ L s _) => contains_any cShut 45 _ (by omega) (by omega)) H3).mono ?_
  rintro e w' ⟨rfl, xs4, d4, rfl⟩
  have H4 := H3.keep (grow_below w3 xs4 d4)
  have A4 := Acc.below A3 (grow_below w3 xs4 d4)
  obtain ⟨w4, hw4⟩ : ∃ x, x = grow w3 xs4 d4 := ⟨_, rfl⟩
  rw [← hw4] at H4 A4 ⊢
  clear hw4
  rw [show has cShut 45 = false from by rw [has_cShut]; decide]
  go_wp2_with fail
  refine ((fun (_ : Lx W0 _ _ L s _) => contains_any cOne 45 _ (by omega) (by omega)) H4).mono ?_
  rintro e w' ⟨rfl, xs5, d5, rfl⟩
  have H5 := H4.keep (grow_below w4 xs5 d5)
  have A5 := Acc.below A4 (grow_below w4 xs5 d5)
  obtain ⟨w5, hw5⟩ : ∃ x, x = grow w4 xs5 d5 := ⟨_, rfl⟩
  rw [← hw5] at H5 A5 ⊢
  clear hw5
  rw [show has cOne 45 = true from by rw [has_cOne]; decide]
  go_wp2_with fail
  refine (emit_any H5 (next_le hle) (by rw [(reads_next s t).toks]; exact hn) kOperator).mono ?_
  rintro e w6 ⟨rfl, S6, hS6, H6, hf6⟩
  have A6 := Acc.step A5 hS6 hf6
  go_wp2_with fail
  go_ret
  exact ⟨rfl, A6.done H6⟩

set_option maxHeartbeats 4000000 in
set_option maxRecDepth 100000 in
theorem root_r94 {F : Stop.Interp} {W0 w : World} {S : Nat → Prop} {L : Nat} {s : ByteArray} {t : St} (_hF : F.answers W0.tape) (H : Lx W0 S w L s t) (hr : peek s t = 94) (hle : t.eb ≤ s.size) (hn : t.toks.length ≤ 9) :
    Calls Tryf.prog 31 #[.pointer (some ⟨L, 0, none⟩)] w fun e w' => e = .returned (qVal (some .root)) ∧ Done W0 S w L s (emit kOperator s (next s t)) w' := by
  have A0 := Acc.refl S w
  have hlo := peek_lo s t
  have hhi := peek_hi s t
  have Hr := Lib.hid hr
  clear hr
  go_enter Tryf.func31, Tryf.ntmps31
  go_wp2_with fail
  refine (next_any H).mono ?_
  rintro e w1 ⟨rfl, S1, hS1, H1, hf1⟩
  have A1 := Acc.step A0 hS1 hf1
  rw [Hr.out]
  go_wp2_with fail
  refine (isSpace_any (H1).tabsAt 94 (by omega) (by omega)).mono ?_
  rintro e w' ⟨rfl, xs2, d2, rfl⟩
  have H2 := H1.keep (grow_below w1 xs2 d2)
  have A2 := Acc.below A1 (grow_below w1 xs2 d2)
  obtain ⟨w2, hw2⟩ : ∃ x, x = grow w1 xs2 d2 := ⟨_, rfl⟩
  rw [← hw2] at H2 A2 ⊢
  clear hw2
  rw [show isSpaceZ 94 = false from by decide]
  go_wp2_with fail
  refine ((fun (_ : Lx W0 _ _ L s _) => contains_any cOpen 94 _ (by omega) (by omega)) H2).mono ?_
  rintro e w' ⟨rfl, xs3, d3, rfl⟩
  have H3 := H2.keep (grow_below w2 xs3 d3)
  have A3 := Acc.below A2 (grow_below w2 xs3 d3)
  obtain ⟨w3, hw3⟩ : ∃ x, x = grow w2 xs3 d3 := ⟨_, rfl⟩
  rw [← hw3] at H3 A3 ⊢
  clear hw3
  rw [show has cOpen 94 = false from by rw [has_cOpen]; decide]
  go_wp2_with fail
  refine ((fun (_ : Lx W0 _ _ L s _) => contains_any cShut 94 _ (by omega) (by omega)) H3).mono ?_
  rintro e w' ⟨rfl, xs4, d4, rfl⟩
  have H4 := H3.keep (grow_below w3 xs4 d4)
  have A4 := Acc.below A3 (grow_below w3 xs4 d4)
  obtain ⟨w4, hw4⟩ : ∃ x, x = grow w3 xs4 d4 := ⟨_, rfl⟩
  rw [← hw4] at H4 A4 ⊢
  clear hw4
  rw [show has cShut 94 = false from by rw [has_cShut]; decide]
  go_wp2_with fail
  refine ((fun (_ : Lx W0 _ _ L s _) => contains_any cOne 94 _ (by omega) (by omega)) H4).mono ?_
  rintro e w' ⟨rfl, xs5, d5, rfl⟩
  have H5 := H4.keep (grow_below w4 xs5 d5)
  have A5 := Acc.below A4 (grow_below w4 xs5 d5)
  obtain ⟨w5, hw5⟩ : ∃ x, x = grow w4 xs5 d5 := ⟨_, rfl⟩
  rw [← hw5] at H5 A5 ⊢
  clear hw5
  rw [show has cOne 94 = true from by rw [has_cOne]; decide]
  go_wp2_with fail
  refine (emit_any H5 (next_le hle) (by rw [(reads_next s t).toks]; exact hn) kOperator).mono ?_
  rintro e w6 ⟨rfl, S6, hS6, H6, hf6⟩
  have A6 := Acc.step A5 hS6 hf6
  go_wp2_with fail
  go_ret
  exact ⟨rfl, A6.done H6⟩

set_option maxHeartbeats 4000000 in
set_option maxRecDepth 100000 in
theorem root_r38 {F : Stop.Interp} {W0 w : World} {S : Nat → Prop} {L : Nat} {s : ByteArray} {t : St} (_hF : F.answers W0.tape) (H : Lx W0 S w L s t) (hr : peek s t = 38) (hle : t.eb ≤ s.size) (hn : t.toks.length ≤ 9) :
    Calls Tryf.prog 31 #[.pointer (some ⟨L, 0, none⟩)] w fun e w' => e = .returned (qVal (some .root)) ∧ Done W0 S w L s (emit kOperator s (accept cTail s (next s t))) w' := by
  have A0 := Acc.refl S w
  have hlo := peek_lo s t
  have hhi := peek_hi s t
  have Hr := Lib.hid hr
  clear hr
  go_enter Tryf.func31, Tryf.ntmps31
  go_wp2_with fail
  refine (next_any H).mono ?_
  rintro e w1 ⟨rfl, S1, hS1, H1, hf1⟩
  have A1 := Acc.step A0 hS1 hf1
  rw [Hr.out]
  go_wp2_with fail
  refine (isSpace_any (H1).tabsAt 38 (by omega) (by omega)).mono ?_
  rintro e w' ⟨rfl, xs2, d2, rfl⟩
  have H2 := H1.keep (grow_below w1 xs2 d2)
  have A2 := Acc.below A1 (grow_below w1 xs2 d2)
  obtain ⟨w2, hw2⟩ : ∃ x, x = grow w1 xs2 d2 := ⟨_, rfl⟩
  rw [← hw2] at H2 A2 ⊢
  clear hw2
  rw [show isSpaceZ 38 = false from by decide]
  go_wp2_with fail
  refine ((fun (_ : Lx W0 _ _ L s _) => contains_any cOpen 38 _ (by omega) (by omega)) H2).mono ?_
  rintro e w' ⟨rfl, xs3, d3, rfl⟩
  have H3 := H2.keep (grow_below w2 xs3 d3)
  have A3 := Acc.below A2 (grow_below w2 xs3 d3)
  obtain ⟨w3, hw3⟩ : ∃ x, x = grow w2 xs3 d3 := ⟨_, rfl⟩
  rw [← hw3] at H3 A3 ⊢
  clear hw3
  rw [show has cOpen 38 = false from by rw [has_cOpen]; decide]
  go_wp2_with fail
  refine ((fun (_ : Lx W0 _ _ L s _) => contains_any cShut 38 _ (by omega) (by omega)) H3).mono ?_
  rintro e w' ⟨rfl, xs4, d4, rfl⟩
  have H4 := H3.keep (grow_below w3 xs4 d4)
  have A4 := Acc.below A3 (grow_below w3 xs4 d4)
  obtain ⟨w4, hw4⟩ : ∃ x, x = grow w3 xs4 d4 := ⟨_, rfl⟩
  rw [← hw4] at H4 A4 ⊢
  clear hw4
  rw [show has cShut 38 = false from by rw [has_cShut]; decide]
  go_wp2_with fail
  refine ((fun (_ : Lx W0 _ _ L s _) => contains_any cOne 38 _ (by omega) (by omega)) H4).mono ?_
  rintro e w' ⟨rfl, xs5, d5, rfl⟩
  have H5 := H4.keep (grow_below w4 xs5 d5)
  have A5 := Acc.below A4 (grow_below w4 xs5 d5)
  obtain ⟨w5, hw5⟩ : ∃ x, x = grow w4 xs5 d5 := ⟨_, rfl⟩
  rw [← hw5] at H5 A5 ⊢
  clear hw5
  rw [show has cOne 38 = false from by rw [has_cOne]; decide]
  go_wp2_with fail
  refine ((fun (_ : Lx W0 _ _ L s _) => contains_any cTwo 38 _ (by omega) (by omega)) H5).mono ?_
  rintro e w' ⟨rfl, xs6, d6, rfl⟩
  have H6 := H5.keep (grow_below w5 xs6 d6)
  have A6 := Acc.below A5 (grow_below w5 xs6 d6)
  obtain ⟨w6, hw6⟩ : ∃ x, x = grow w5 xs6 d6 := ⟨_, rfl⟩
  rw [← hw6] at H6 A6 ⊢
  clear hw6
  rw [show has cTwo 38 = true from by rw [has_cTwo]; decide]
  go_wp2_with fail
  refine (accept_any (v := cTail) H6).mono ?_
  rintro e w7 ⟨rfl, S7, hS7, H7, hf7⟩
  have A7 := Acc.step A6 hS7 hf7
  go_wp2_with fail
  refine (emit_any H7 ((reads_accept _ s _).le (next_le hle)) (by rw [(reads_accept _ s _).toks, (reads_next s t).toks]; exact hn) kOperator).mono ?_
  rintro e w8 ⟨rfl, S8, hS8, H8, hf8⟩
  have A8 := Acc.step A7 hS8 hf8
  go_wp2_with fail
  go_ret
  exact ⟨rfl, A8.done H8⟩

set_option maxHeartbeats 4000000 in
set_option maxRecDepth 100000 in
theorem root_r33 {F : Stop.Interp} {W0 w : World} {S : Nat → Prop} {L : Nat} {s : ByteArray} {t : St} (_hF : F.answers W0.tape) (H : Lx W0 S w L s t) (hr : peek s t = 33) (hle : t.eb ≤ s.size) (hn : t.toks.length ≤ 9) :
    Calls Tryf.prog 31 #[.pointer (some ⟨L, 0, none⟩)] w fun e w' => e = .returned (qVal (some .root)) ∧ Done W0 S w L s (emit kOperator s (accept cTail s (next s t))) w' := by
  have A0 := Acc.refl S w
  have hlo := peek_lo s t
  have hhi := peek_hi s t
  have Hr := Lib.hid hr
  clear hr
  go_enter Tryf.func31, Tryf.ntmps31
  go_wp2_with fail
  refine (next_any H).mono ?_
  rintro e w1 ⟨rfl, S1, hS1, H1, hf1⟩
  have A1 := Acc.step A0 hS1 hf1
  rw [Hr.out]
  go_wp2_with fail
  refine (isSpace_any (H1).tabsAt 33 (by omega) (by omega)).mono ?_
  rintro e w' ⟨rfl, xs2, d2, rfl⟩
  have H2 := H1.keep (grow_below w1 xs2 d2)
  have A2 := Acc.below A1 (grow_below w1 xs2 d2)
  obtain ⟨w2, hw2⟩ : ∃ x, x = grow w1 xs2 d2 := ⟨_, rfl⟩
  rw [← hw2] at H2 A2 ⊢
  clear hw2
  rw [show isSpaceZ 33 = false from by decide]
  go_wp2_with fail
  refine ((fun (_ : Lx W0 _ _ L s _) => contains_any cOpen 33 _ (by omega) (by omega)) H2).mono ?_
  rintro e w' ⟨rfl, xs3, d3, rfl⟩
  have H3 := H2.keep (grow_below w2 xs3 d3)
  have A3 := Acc.below A2 (grow_below w2 xs3 d3)
  obtain ⟨w3, hw3⟩ : ∃ x, x = grow w2 xs3 d3 := ⟨_, rfl⟩
  rw [← hw3] at H3 A3 ⊢
  clear hw3
  rw [show has cOpen 33 = false from by rw [has_cOpen]; decide]
  go_wp2_with fail
  refine ((fun (_ : Lx W0 _ _ L s _) => contains_any cShut 33 _ (by omega) (by omega)) H3).mono ?_
  rintro e w' ⟨rfl, xs4, d4, rfl⟩
  have H4 := H3.keep (grow_below w3 xs4 d4)
  have A4 := Acc.below A3 (grow_below w3 xs4 d4)
  obtain ⟨w4, hw4⟩ : ∃ x, x = grow w3 xs4 d4 := ⟨_, rfl⟩
  rw [← hw4] at H4 A4 ⊢
  clear hw4
  rw [show has cShut 33 = false from by rw [has_cShut]; decide]
  go_wp2_with fail
  refine ((fun (_ : Lx W0 _ _ L s _) => contains_any cOne 33 _ (by omega) (by omega)) H4).mono ?_
  rintro e w' ⟨rfl, xs5, d5, rfl⟩
  have H5 := H4.keep (grow_below w4 xs5 d5)
  have A5 := Acc.below A4 (grow_below w4 xs5 d5)
  obtain ⟨w5, hw5⟩ : ∃ x, x = grow w4 xs5 d5 := ⟨_, rfl⟩
  rw [← hw5] at H5 A5 ⊢
  clear hw5
  rw [show has cOne 33 = false from by rw [has_cOne]; decide]
  go_wp2_with fail
  refine ((fun (_ : Lx W0 _ _ L s _) => contains_any cTwo 33 _ (by omega) (by omega)) H5).mono ?_
  rintro e w' ⟨rfl, xs6, d6, rfl⟩
  have H6 := H5.keep (grow_below w5 xs6 d6)
  have A6 := Acc.below A5 (grow_below w5 xs6 d6)
  obtain ⟨w6, hw6⟩ : ∃ x, x = grow w5 xs6 d6 := ⟨_, rfl⟩
  rw [← hw6] at H6 A6 ⊢
  clear hw6
  rw [show has cTwo 33 = true from by rw [has_cTwo]; decide]
  go_wp2_with fail
  refine (accept_any (v := cTail) H6).mono ?_
  rintro e w7 ⟨rfl, S7, hS7, H7, hf7⟩
  have A7 := Acc.step A6 hS7 hf7
  go_wp2_with fail
  refine (emit_any H7 ((reads_accept _ s _).le (next_le hle)) (by rw [(reads_accept _ s _).toks, (reads_next s t).toks]; exact hn) kOperator).mono ?_
  rintro e w8 ⟨rfl, S8, hS8, H8, hf8⟩
  have A8 := Acc.step A7 hS8 hf8
  go_wp2_with fail
  go_ret
  exact ⟨rfl, A8.done H8⟩

set_option maxHeartbeats 4000000 in
set_option maxRecDepth 100000 in
theorem root_r61 {F : Stop.Interp} {W0 w : World} {S : Nat → Prop} {L : Nat} {s : ByteArray} {t : St} (_hF : F.answers W0.tape) (H : Lx W0 S w L s t) (hr : peek s t = 61) (hle : t.eb ≤ s.size) (hn : t.toks.length ≤ 9) :
    Calls Tryf.prog 31 #[.pointer (some ⟨L, 0, none⟩)] w fun e w' => e = .returned (qVal (some .root)) ∧ Done W0 S w L s (emit kOperator s (accept cTail s (next s t))) w' := by
  have A0 := Acc.refl S w
  have hlo := peek_lo s t
  have hhi := peek_hi s t
  have Hr := Lib.hid hr
  clear hr
  go_enter Tryf.func31, Tryf.ntmps31
  go_wp2_with fail
  refine (next_any H).mono ?_
  rintro e w1 ⟨rfl, S1, hS1, H1, hf1⟩
  have A1 := Acc.step A0 hS1 hf1
  rw [Hr.out]
  go_wp2_with fail
  refine (isSpace_any (H1).tabsAt 61 (by omega) (by omega)).mono ?_
  rintro e w' ⟨rfl, xs2, d2, rfl⟩
  have H2 := H1.keep (grow_below w1 xs2 d2)
  have A2 := Acc.below A1 (grow_below w1 xs2 d2)
  obtain ⟨w2, hw2⟩ : ∃ x, x = grow w1 xs2 d2 := ⟨_, rfl⟩
  rw [← hw2] at H2 A2 ⊢
  clear hw2
  rw [show isSpaceZ 61 = false from by decide]
  go_wp2_with fail
  refine ((fun (_ : Lx W0 _ _ L s _) => contains_any cOpen 61 _ (by omega) (by omega)) H2).mono ?_
  rintro e w' ⟨rfl, xs3, d3, rfl⟩
  have H3 := H2.keep (grow_below w2 xs3 d3)
  have A3 := Acc.below A2 (grow_below w2 xs3 d3)
  obtain ⟨w3, hw3⟩ : ∃ x, x = grow w2 xs3 d3 := ⟨_, rfl⟩
  rw [← hw3] at H3 A3 ⊢
  clear hw3
  rw [show has cOpen 61 = false from by rw [has_cOpen]; decide]
  go_wp2_with fail
  refine ((fun (_ : Lx W0 _ _ L s _) => contains_any cShut 61 _ (by omega) (by omega)) H3).mono ?_
  rintro e w' ⟨rfl, xs4, d4, rfl⟩
  have H4 := H3.keep (grow_below w3 xs4 d4)
  have A4 := Acc.below A3 (grow_below w3 xs4 d4)
  obtain ⟨w4, hw4⟩ : ∃ x, x = grow w3 xs4 d4 := ⟨_, rfl⟩
  rw [← hw4] at H4 A4 ⊢
  clear hw4
  rw [show has cShut 61 = false from by rw [has_cShut]; decide]
  go_wp2_with fail
  refine ((fun (_ : Lx W0 _ _ L s _) => contains_any cOne 61 _ (by omega) (by omega)) H4).mono ?_
  rintro e w' ⟨rfl, xs5, d5, rfl⟩
  have H5 := H4.keep (grow_below w4 xs5 d5)
  have A5 := Acc.below A4 (grow_below w4 xs5 d5)
  obtain ⟨w5, hw5⟩ : ∃ x, x = grow w4 xs5 d5 := ⟨_, rfl⟩
  rw [← hw5] at H5 A5 ⊢
  clear hw5
  rw [show has cOne 61 = false from by rw [has_cOne]; decide]
  go_wp2_with fail
  refine ((fun (_ : Lx W0 _ _ L s _) => contains_any cTwo 61 _ (by omega) (by omega)) H5).mono ?_
  rintro e w' ⟨rfl, xs6, d6, rfl⟩
  have H6 := H5.keep (grow_below w5 xs6 d6)
  have A6 := Acc.below A5 (grow_below w5 xs6 d6)
  obtain ⟨w6, hw6⟩ : ∃ x, x = grow w5 xs6 d6 := ⟨_, rfl⟩
  rw [← hw6] at H6 A6 ⊢
  clear hw6
  rw [show has cTwo 61 = true from by rw [has_cTwo]; decide]
  go_wp2_with fail
  refine (accept_any (v := cTail) H6).mono ?_
  rintro e w7 ⟨rfl, S7, hS7, H7, hf7⟩
  have A7 := Acc.step A6 hS7 hf7
  go_wp2_with fail
  refine (emit_any H7 ((reads_accept _ s _).le (next_le hle)) (by rw [(reads_accept _ s _).toks, (reads_next s t).toks]; exact hn) kOperator).mono ?_
  rintro e w8 ⟨rfl, S8, hS8, H8, hf8⟩
  have A8 := Acc.step A7 hS8 hf8
  go_wp2_with fail
  go_ret
  exact ⟨rfl, A8.done H8⟩

set_option maxHeartbeats 4000000 in
set_option maxRecDepth 100000 in
theorem root_r42 {F : Stop.Interp} {W0 w : World} {S : Nat → Prop} {L : Nat} {s : ByteArray} {t : St} (_hF : F.answers W0.tape) (H : Lx W0 S w L s t) (hr : peek s t = 42) (hle : t.eb ≤ s.size) (hn : t.toks.length ≤ 9) :
    Calls Tryf.prog 31 #[.pointer (some ⟨L, 0, none⟩)] w fun e w' => e = .returned (qVal (some .root)) ∧ Done W0 S w L s (emit kOperator s (accept cTail s (next s t))) w' := by
  have A0 := Acc.refl S w
  have hlo := peek_lo s t
  have hhi := peek_hi s t
  have Hr := Lib.hid hr
  clear hr
  go_enter Tryf.func31, Tryf.ntmps31
  go_wp2_with fail
  refine (next_any H).mono ?_
  rintro e w1 ⟨rfl, S1, hS1, H1, hf1⟩
  have A1 := Acc.step A0 hS1 hf1
  rw [Hr.out]
  go_wp2_with fail
  refine (isSpace_any (H1).tabsAt 42 (by omega) (by omega)).mono ?_
  rintro e w' ⟨rfl, xs2, d2, rfl⟩
  have H2 := H1.keep (grow_below w1 xs2 d2)
  have A2 := Acc.below A1 (grow_below w1 xs2 d2)
  obtain ⟨w2, hw2⟩ : ∃ x, x = grow w1 xs2 d2 := ⟨_, rfl⟩
  rw [← hw2] at H2 A2 ⊢
  clear hw2
  rw [show isSpaceZ 42 = false from by decide]
  go_wp2_with fail
  refine ((fun (_ : Lx W0 _ _ L s _) => contains_any cOpen 42 _ (by omega) (by omega)) H2).mono ?_
  rintro e w' ⟨rfl, xs3, d3, rfl⟩
  have H3 := H2.keep (grow_below w2 xs3 d3)
  have A3 := Acc.below A2 (grow_below w2 xs3 d3)
  obtain ⟨w3, hw3⟩ : ∃ x, x = grow w2 xs3 d3 := ⟨_, rfl⟩
  rw [← hw3] at H3 A3 ⊢
  clear hw3
  rw [show has cOpen 42 = false from by rw [has_cOpen]; decide]
  go_wp2_with fail
  refine ((fun (_ : Lx W0 _ _ L s _) => contains_any cShut 42 _ (by omega) (by omega)) H3).mono ?_
  rintro e w' ⟨rfl, xs4, d4, rfl⟩
  have H4 := H3.keep (grow_below w3 xs4 d4)
  have A4 := Acc.below A3 (grow_below w3 xs4 d4)
  obtain ⟨w4, hw4⟩ : ∃ x, x = grow w3 xs4 d4 := ⟨_, rfl⟩
  rw [← hw4] at H4 A4 ⊢
  clear hw4
  rw [show has cShut 42 = false from by rw [has_cShut]; decide]
  go_wp2_with fail
  refine ((fun (_ : Lx W0 _ _ L s _) => contains_any cOne 42 _ (by omega) (by omega)) H4).mono ?_
  rintro e w' ⟨rfl, xs5, d5, rfl⟩
  have H5 := H4.keep (grow_below w4 xs5 d5)
  have A5 := Acc.below A4 (grow_below w4 xs5 d5)
  obtain ⟨w5, hw5⟩ : ∃ x, x = grow w4 xs5 d5 := ⟨_, rfl⟩
  rw [← hw5] at H5 A5 ⊢
  clear hw5
  rw [show has cOne 42 = false from by rw [has_cOne]; decide]
  go_wp2_with fail
  refine ((fun (_ : Lx W0 _ _ L s _) => contains_any cTwo 42 _ (by omega) (by omega)) H5).mono ?_
  rintro e w' ⟨rfl, xs6, d6, rfl⟩
  have H6 := H5.keep (grow_below w5 xs6 d6)
  have A6 := Acc.below A5 (grow_below w5 xs6 d6)
  obtain ⟨w6, hw6⟩ : ∃ x, x = grow w5 xs6 d6 := ⟨_, rfl⟩
  rw [← hw6] at H6 A6 ⊢
  clear hw6
  rw [show has cTwo 42 = true from by rw [has_cTwo]; decide]
  go_wp2_with fail
  refine (accept_any (v := cTail) H6).mono ?_
  rintro e w7 ⟨rfl, S7, hS7, H7, hf7⟩
  have A7 := Acc.step A6 hS7 hf7
  go_wp2_with fail
  refine (emit_any H7 ((reads_accept _ s _).le (next_le hle)) (by rw [(reads_accept _ s _).toks, (reads_next s t).toks]; exact hn) kOperator).mono ?_
  rintro e w8 ⟨rfl, S8, hS8, H8, hf8⟩
  have A8 := Acc.step A7 hS8 hf8
  go_wp2_with fail
  go_ret
  exact ⟨rfl, A8.done H8⟩

set_option maxHeartbeats 4000000 in
set_option maxRecDepth 100000 in
theorem root_r60 {F : Stop.Interp} {W0 w : World} {S : Nat → Prop} {L : Nat} {s : ByteArray} {t : St} (_hF : F.answers W0.tape) (H : Lx W0 S w L s t) (hr : peek s t = 60) (hle : t.eb ≤ s.size) (hn : t.toks.length ≤ 9) :
    Calls Tryf.prog 31 #[.pointer (some ⟨L, 0, none⟩)] w fun e w' => e = .returned (qVal (some .root)) ∧ Done W0 S w L s (emit kOperator s (accept cTail s (next s t))) w' := by
  have A0 := Acc.refl S w
  have hlo := peek_lo s t
  have hhi := peek_hi s t
  have Hr := Lib.hid hr
  clear hr
  go_enter Tryf.func31, Tryf.ntmps31
  go_wp2_with fail
  refine (next_any H).mono ?_
  rintro e w1 ⟨rfl, S1, hS1, H1, hf1⟩
  have A1 := Acc.step A0 hS1 hf1
  rw [Hr.out]
  go_wp2_with fail
  refine (isSpace_any (H1).tabsAt 60 (by omega) (by omega)).mono ?_
  rintro e w' ⟨rfl, xs2, d2, rfl⟩
  have H2 := H1.keep (grow_below w1 xs2 d2)
  have A2 := Acc.below A1 (grow_below w1 xs2 d2)
  obtain ⟨w2, hw2⟩ : ∃ x, x = grow w1 xs2 d2 := ⟨_, rfl⟩
  rw [← hw2] at H2 A2 ⊢
  clear hw2
  rw [show isSpaceZ 60 = false from by decide]
  go_wp2_with fail
  refine ((fun (_ : Lx W0 _ _ L s _) => contains_any cOpen 60 _ (by omega) (by omega)) H2).mono ?_
  rintro e w' ⟨rfl, xs3, d3, rfl⟩
  have H3 := H2.keep (grow_below w2 xs3 d3)
  have A3 := Acc.below A2 (grow_below w2 xs3 d3)
  obtain ⟨w3, hw3⟩ : ∃ x, x = grow w2 xs3 d3 := ⟨_, rfl⟩
  rw [← hw3] at H3 A3 ⊢
  clear hw3
  rw [show has cOpen 60 = false from by rw [has_cOpen]; decide]
  go_wp2_with fail
  refine ((fun (_ : Lx W0 _ _ L s _) => contains_any cShut 60 _ (by omega) (by omega)) H3).mono ?_
  rintro e w' ⟨rfl, xs4, d4, rfl⟩
  have H4 := H3.keep (grow_below w3 xs4 d4)
  have A4 := Acc.below A3 (grow_below w3 xs4 d4)
  obtain ⟨w4, hw4⟩ : ∃ x, x = grow w3 xs4 d4 := ⟨_, rfl⟩
  rw [← hw4] at H4 A4 ⊢
  clear hw4
  rw [show has cShut 60 = false from by rw [has_cShut]; decide]
  go_wp2_with fail
  refine ((fun (_ : Lx W0 _ _ L s _) => contains_any cOne 60 _ (by omega) (by omega)) H4).mono ?_
  rintro e w' ⟨rfl, xs5, d5, rfl⟩
  have H5 := H4.keep (grow_below w4 xs5 d5)
  have A5 := Acc.below A4 (grow_below w4 xs5 d5)
  obtain ⟨w5, hw5⟩ : ∃ x, x = grow w4 xs5 d5 := ⟨_, rfl⟩
  rw [← hw5] at H5 A5 ⊢
  clear hw5
  rw [show has cOne 60 = false from by rw [has_cOne]; decide]
  go_wp2_with fail
  refine ((fun (_ : Lx W0 _ _ L s _) => contains_any cTwo 60 _ (by omega) (by omega)) H5).mono ?_
  rintro e w' ⟨rfl, xs6, d6, rfl⟩
  have H6 := H5.keep (grow_below w5 xs6 d6)
  have A6 := Acc.below A5 (grow_below w5 xs6 d6)
  obtain ⟨w6, hw6⟩ : ∃ x, x = grow w5 xs6 d6 := ⟨_, rfl⟩
  rw [← hw6] at H6 A6 ⊢
  clear hw6
  rw [show has cTwo 60 = true from by rw [has_cTwo]; decide]
  go_wp2_with fail
  refine (accept_any (v := cTail) H6).mono ?_
  rintro e w7 ⟨rfl, S7, hS7, H7, hf7⟩
  have A7 := Acc.step A6 hS7 hf7
  go_wp2_with fail
  refine (emit_any H7 ((reads_accept _ s _).le (next_le hle)) (by rw [(reads_accept _ s _).toks, (reads_next s t).toks]; exact hn) kOperator).mono ?_
  rintro e w8 ⟨rfl, S8, hS8, H8, hf8⟩
  have A8 := Acc.step A7 hS8 hf8
  go_wp2_with fail
  go_ret
  exact ⟨rfl, A8.done H8⟩

set_option maxHeartbeats 4000000 in
set_option maxRecDepth 100000 in
theorem root_r62 {F : Stop.Interp} {W0 w : World} {S : Nat → Prop} {L : Nat} {s : ByteArray} {t : St} (_hF : F.answers W0.tape) (H : Lx W0 S w L s t) (hr : peek s t = 62) (hle : t.eb ≤ s.size) (hn : t.toks.length ≤ 9) :
    Calls Tryf.prog 31 #[.pointer (some ⟨L, 0, none⟩)] w fun e w' => e = .returned (qVal (some .root)) ∧ Done W0 S w L s (emit kOperator s (accept cTail s (next s t))) w' := by
  have A0 := Acc.refl S w
  have hlo := peek_lo s t
  have hhi := peek_hi s t
  have Hr := Lib.hid hr
  clear hr
  go_enter Tryf.func31, Tryf.ntmps31
  go_wp2_with fail
  refine (next_any H).mono ?_
  rintro e w1 ⟨rfl, S1, hS1, H1, hf1⟩
  have A1 := Acc.step A0 hS1 hf1
  rw [Hr.out]
  go_wp2_with fail
  refine (isSpace_any (H1).tabsAt 62 (by omega) (by omega)).mono ?_
  rintro e w' ⟨rfl, xs2, d2, rfl⟩
  have H2 := H1.keep (grow_below w1 xs2 d2)
  have A2 := Acc.below A1 (grow_below w1 xs2 d2)
  obtain ⟨w2, hw2⟩ : ∃ x, x = grow w1 xs2 d2 := ⟨_, rfl⟩
  rw [← hw2] at H2 A2 ⊢
  clear hw2
  rw [show isSpaceZ 62 = false from by decide]
  go_wp2_with fail
  refine ((fun (_ : Lx W0 _ _ L s _) => contains_any cOpen 62 _ (by omega) (by omega)) H2).mono ?_
  rintro e w' ⟨rfl, xs3, d3, rfl⟩
  have H3 := H2.keep (grow_below w2 xs3 d3)
  have A3 := Acc.below A2 (grow_below w2 xs3 d3)
  obtain ⟨w3, hw3⟩ : ∃ x, x = grow w2 xs3 d3 := ⟨_, rfl⟩
  rw [← hw3] at H3 A3 ⊢
  clear hw3
  rw [show has cOpen 62 = false from by rw [has_cOpen]; decide]
  go_wp2_with fail
  refine ((fun (_ : Lx W0 _ _ L s _) => contains_any cShut 62 _ (by omega) (by omega)) H3).mono ?_
  rintro e w' ⟨rfl, xs4, d4, rfl⟩
  have H4 := H3.keep (grow_below w3 xs4 d4)
  have A4 := Acc.below A3 (grow_below w3 xs4 d4)
  obtain ⟨w4, hw4⟩ : ∃ x, x = grow w3 xs4 d4 := ⟨_, rfl⟩
  rw [← hw4] at H4 A4 ⊢
  clear hw4
  rw [show has cShut 62 = false from by rw [has_cShut]; decide]
  go_wp2_with fail
  refine ((fun (_ : Lx W0 _ _ L s _) => contains_any cOne 62 _ (by omega) (by omega)) H4).mono ?_
  rintro e w' ⟨rfl, xs5, d5, rfl⟩
  have H5 := H4.keep (grow_below w4 xs5 d5)
  have A5 := Acc.below A4 (grow_below w4 xs5 d5)
  obtain ⟨w5, hw5⟩ : ∃ x, x = grow w4 xs5 d5 := ⟨_, rfl⟩
  rw [← hw5] at H5 A5 ⊢
  clear hw5
  rw [show has cOne 62 = false from by rw [has_cOne]; decide]
  go_wp2_with fail
  refine ((fun (_ : Lx W0 _ _ L s _) => contains_any cTwo 62 _ (by omega) (by omega)) H5).mono ?_
  rintro e w' ⟨rfl, xs6, d6, rfl⟩
  have H6 := H5.keep (grow_below w5 xs6 d6)
  have A6 := Acc.below A5 (grow_below w5 xs6 d6)
  obtain ⟨w6, hw6⟩ : ∃ x, x = grow w5 xs6 d6 := ⟨_, rfl⟩
  rw [← hw6] at H6 A6 ⊢
  clear hw6
  rw [show has cTwo 62 = true from by rw [has_cTwo]; decide]
  go_wp2_with fail
  refine (accept_any (v := cTail) H6).mono ?_
  rintro e w7 ⟨rfl, S7, hS7, H7, hf7⟩
  have A7 := Acc.step A6 hS7 hf7
  go_wp2_with fail
  refine (emit_any H7 ((reads_accept _ s _).le (next_le hle)) (by rw [(reads_accept _ s _).toks, (reads_next s t).toks]; exact hn) kOperator).mono ?_
  rintro e w8 ⟨rfl, S8, hS8, H8, hf8⟩
  have A8 := Acc.step A7 hS8 hf8
  go_wp2_with fail
  go_ret
  exact ⟨rfl, A8.done H8⟩

set_option maxHeartbeats 4000000 in
set_option maxRecDepth 100000 in
theorem root_r46 {F : Stop.Interp} {W0 w : World} {S : Nat → Prop} {L : Nat} {s : ByteArray} {t : St} (_hF : F.answers W0.tape) (H : Lx W0 S w L s t) (hr : peek s t = 46) (hB : Back s t) :
    Calls Tryf.prog 31 #[.pointer (some ⟨L, 0, none⟩)] w fun e w' => e = .returned (qVal (some .dot)) ∧ Done W0 S w L s t w' := by
  have A0 := Acc.refl S w
  have hlo := peek_lo s t
  have hhi := peek_hi s t
  have Hr := Lib.hid hr
  clear hr
  have hns := next_same s t
  have hbk := backup_next hB
  have hps := H.poss
  have Bk := Lib.hid hbk
  clear hbk
  go_enter Tryf.func31, Tryf.ntmps31
  go_wp2_with fail
  refine (next_any H).mono ?_
  rintro e w1 ⟨rfl, S1, hS1, H1, hf1⟩
  have A1 := Acc.step A0 hS1 hf1
  rw [Hr.out]
  go_wp2_with fail
  refine (isSpace_any (H1).tabsAt 46 (by omega) (by omega)).mono ?_
  rintro e w' ⟨rfl, xs2, d2, rfl⟩
  have H2 := H1.keep (grow_below w1 xs2 d2)
  have A2 := Acc.below A1 (grow_below w1 xs2 d2)
  obtain ⟨w2, hw2⟩ : ∃ x, x = grow w1 xs2 d2 := ⟨_, rfl⟩
  rw [← hw2] at H2 A2 ⊢
  clear hw2
  rw [show isSpaceZ 46 = false from by decide]
  go_wp2_with fail
  refine ((fun (_ : Lx W0 _ _ L s _) => contains_any cOpen 46 _ (by omega) (by omega)) H2).mono ?_
  rintro e w' ⟨rfl, xs3, d3, rfl⟩
  have H3 := H2.keep (grow_below w2 xs3 d3)
  have A3 := Acc.below A2 (grow_below w2 xs3 d3)
  obtain ⟨w3, hw3⟩ : ∃ x, x = grow w2 xs3 d3 := ⟨_, rfl⟩
  rw [← hw3] at H3 A3 ⊢
  clear hw3
  rw [show has cOpen 46 = false from by rw [has_cOpen]; decide]
  go_wp2_with fail
  refine ((fun (_ : Lx W0 _ _ L s _) => contains_any cShut 46 _ (by omega) (by omega)) H3).mono ?_
  rintro e w' ⟨rfl, xs4, d4, rfl⟩
  have H4 := H3.keep (grow_below w3 xs4 d4)
  have A4 := Acc.below A3 (grow_below w3 xs4 d4)
  obtain ⟨w4, hw4⟩ : ∃ x, x = grow w3 xs4 d4 := ⟨_, rfl⟩
  rw [← hw4] at H4 A4 ⊢
  clear hw4
  rw [show has cShut 46 = false from by rw [has_cShut]; decide]
  go_wp2_with fail
  refine ((fun (_ : Lx W0 _ _ L s _) => contains_any cOne 46 _ (by omega) (by omega)) H4).mono ?_
  rintro e w' ⟨rfl, xs5, d5, rfl⟩
  have H5 := H4.keep (grow_below w4 xs5 d5)
  have A5 := Acc.below A4 (grow_below w4 xs5 d5)
  obtain ⟨w5, hw5⟩ : ∃ x, x = grow w4 xs5 d5 := ⟨_, rfl⟩
  rw [← hw5] at H5 A5 ⊢
  clear hw5
  rw [show has cOne 46 = false from by rw [has_cOne]; decide]
  go_wp2_with fail
  refine ((fun (_ : Lx W0 _ _ L s _) => contains_any cTwo 46 _ (by omega) (by omega)) H5).mono ?_
  rintro e w' ⟨rfl, xs6, d6, rfl⟩
  have H6 := H5.keep (grow_below w5 xs6 d6)
  have A6 := Acc.below A5 (grow_below w5 xs6 d6)
  obtain ⟨w6, hw6⟩ : ∃ x, x = grow w5 xs6 d6 := ⟨_, rfl⟩
  rw [← hw6] at H6 A6 ⊢
  clear hw6
  rw [show has cTwo 46 = false from by rw [has_cTwo]; decide]
  go_wp2_with fail
  refine (backup_any H6 (next_le hB.le) (by rw [Bk.out, hns.1, hns.2.1]; omega)).mono ?_
  rintro e w7 ⟨rfl, S7, hS7, H7, hf7⟩
  have A7 := Acc.step A6 hS7 hf7
  rw [Bk.out] at H7
  go_wp2_with fail
  go_ret
  exact ⟨rfl, A7.done H7⟩

set_option maxHeartbeats 4000000 in
set_option maxRecDepth 100000 in
theorem root_r98 {F : Stop.Interp} {W0 w : World} {S : Nat → Prop} {L : Nat} {s : ByteArray} {t : St} (_hF : F.answers W0.tape) (H : Lx W0 S w L s t) (hr : peek s t = 98) (hB : Back s t) (hq1 : peek s (next s t) ≠ 39) (hq2 : peek s (next s t) ≠ 34) :
    Calls Tryf.prog 31 #[.pointer (some ⟨L, 0, none⟩)] w fun e w' => e = .returned (qVal (some .identifier)) ∧ Done W0 S w L s t w' := by
  have A0 := Acc.refl S w
  have hlo := peek_lo s t
  have hhi := peek_hi s t
  have Hr := Lib.hid hr
  clear hr
  have hns := next_same s t
  have hbk := backup_next hB
  have hps := H.poss
  have Bk := Lib.hid hbk
  clear hbk
  have q0 : (peek s (next s t) == 39) = false := beq_eq_false_iff_ne.2 hq1
  have q1 : (peek s (next s t) == 34) = false := beq_eq_false_iff_ne.2 hq2
  clear hq1 hq2
  go_enter Tryf.func31, Tryf.ntmps31
  go_wp2_with fail
  refine (next_any H).mono ?_
  rintro e w1 ⟨rfl, S1, hS1, H1, hf1⟩
  have A1 := Acc.step A0 hS1 hf1
  rw [Hr.out]
  go_wp2_with fail
  refine (isSpace_any (H1).tabsAt 98 (by omega) (by omega)).mono ?_
  rintro e w' ⟨rfl, xs2, d2, rfl⟩
  have H2 := H1.keep (grow_below w1 xs2 d2)
  have A2 := Acc.below A1 (grow_below w1 xs2 d2)
  obtain ⟨w2, hw2⟩ : ∃ x, x = grow w1 xs2 d2 := ⟨_, rfl⟩
  rw [← hw2] at H2 A2 ⊢
  clear hw2
  rw [show isSpaceZ 98 = false from by decide]
  go_wp2_with fail
  refine (peek_any H2).mono ?_
  rintro e w' ⟨rfl, xs3, d3, rfl⟩
  have H3 := H2.keep (grow_below w2 xs3 d3)
  have A3 := Acc.below A2 (grow_below w2 xs3 d3)
  obtain ⟨w3, hw3⟩ : ∃ x, x = grow w2 xs3 d3 := ⟨_, rfl⟩
  rw [← hw3] at H3 A3 ⊢
  clear hw3
  go_wp2_with fail
  refine (peek_any H3).mono ?_
  rintro e w' ⟨rfl, xs4, d4, rfl⟩
  have H4 := H3.keep (grow_below w3 xs4 d4)
  have A4 := Acc.below A3 (grow_below w3 xs4 d4)
  obtain ⟨w4, hw4⟩ : ∃ x, x = grow w3 xs4 d4 := ⟨_, rfl⟩
  rw [← hw4] at H4 A4 ⊢
  clear hw4
  go_wp2_with fail
  refine ((fun (_ : Lx W0 _ _ L s _) => contains_any cOpen 98 _ (by omega) (by omega)) H4).mono ?_
  rintro e w' ⟨rfl, xs5, d5, rfl⟩
  have H5 := H4.keep (grow_below w4 xs5 d5)
  have A5 := Acc.below A4 (grow_below w4 xs5 d5)
  obtain ⟨w5, hw5⟩ : ∃ x, x = grow w4 xs5 d5 := ⟨_, rfl⟩
  rw [← hw5] at H5 A5 ⊢
  clear hw5
  rw [show has cOpen 98 = false from by rw [has_cOpen]; decide]
  go_wp2_with fail
  refine ((fun (_ : Lx W0 _ _ L s _) => contains_any cShut 98 _ (by omega) (by omega)) H5).mono ?_
  rintro e w' ⟨rfl, xs6, d6, rfl⟩
  have H6 := H5.keep (grow_below w5 xs6 d6)
  have A6 := Acc.below A5 (grow_below w5 xs6 d6)
  obtain ⟨w6, hw6⟩ : ∃ x, x = grow w5 xs6 d6 := ⟨_, rfl⟩
  rw [← hw6] at H6 A6 ⊢
  clear hw6
  rw [show has cShut 98 = false from by rw [has_cShut]; decide]
  go_wp2_with fail
  refine ((fun (_ : Lx W0 _ _ L s _) => contains_any cOne 98 _ (by omega) (by omega)) H6).mono ?_
  rintro e w' ⟨rfl, xs7, d7, rfl⟩
  have H7 := H6.keep (grow_below w6 xs7 d7)
  have A7 := Acc.below A6 (grow_below w6 xs7 d7)
  obtain ⟨w7, hw7⟩ : ∃ x, x = grow w6 xs7 d7 := ⟨_, rfl⟩
  rw [← hw7] at H7 A7 ⊢
  clear hw7
  rw [show has cOne 98 = false from by rw [has_cOne]; decide]
  go_wp2_with fail
  refine ((fun (_ : Lx W0 _ _ L s _) => contains_any cTwo 98 _ (by omega) (by omega)) H7).mono ?_
  rintro e w' ⟨rfl, xs8, d8, rfl⟩
  have H8 := H7.keep (grow_below w7 xs8 d8)
  have A8 := Acc.below A7 (grow_below w7 xs8 d8)
  obtain ⟨w8, hw8⟩ : ∃ x, x = grow w7 xs8 d8 := ⟨_, rfl⟩
  rw [← hw8] at H8 A8 ⊢
  clear hw8
  rw [show has cTwo 98 = false from by rw [has_cTwo]; decide]
  go_wp2_with fail
  refine (alnum_any (H8).tabsAt 98 (by omega) (by omega)).mono ?_
  rintro e w' ⟨rfl, xs9, d9, rfl⟩
  have H9 := H8.keep (grow_below w8 xs9 d9)
  have A9 := Acc.below A8 (grow_below w8 xs9 d9)
  obtain ⟨w9, hw9⟩ : ∃ x, x = grow w8 xs9 d9 := ⟨_, rfl⟩
  rw [← hw9] at H9 A9 ⊢
  clear hw9
  rw [show alnum 98 = true from by kernel_rfl]
  go_wp2_with fail
  refine (backup_any H9 (next_le hB.le) (by rw [Bk.out, hns.1, hns.2.1]; omega)).mono ?_
  rintro e w10 ⟨rfl, S10, hS10, H10, hf10⟩
  have A10 := Acc.step A9 hS10 hf10
  rw [Bk.out] at H10
  go_wp2_with fail
  go_ret
  exact ⟨rfl, A10.done H10⟩

set_option maxHeartbeats 4000000 in
set_option maxRecDepth 100000 in
theorem root_r66 {F : Stop.Interp} {W0 w : World} {S : Nat → Prop} {L : Nat} {s : ByteArray} {t : St} (_hF : F.answers W0.tape) (H : Lx W0 S w L s t) (hr : peek s t = 66) (hB : Back s t) (hq1 : peek s (next s t) ≠ 39) (hq2 : peek s (next s t) ≠ 34) :
    Calls Tryf.prog 31 #[.pointer (some ⟨L, 0, none⟩)] w fun e w' => e = .returned (qVal (some .identifier)) ∧ Done W0 S w L s t w' := by
  have A0 := Acc.refl S w
  have hlo := peek_lo s t
  have hhi := peek_hi s t
  have Hr := Lib.hid hr
  clear hr
  have hns := next_same s t
  have hbk := backup_next hB
  have hps := H.poss
  have Bk := Lib.hid hbk
  clear hbk
  have q0 : (peek s (next s t) == 39) = false := beq_eq_false_iff_ne.2 hq1
  have q1 : (peek s (next s t) == 34) = false := beq_eq_false_iff_ne.2 hq2
  clear hq1 hq2
  go_enter Tryf.func31, Tryf.ntmps31
  go_wp2_with fail
  refine (next_any H).mono ?_
  rintro e w1 ⟨rfl, S1, hS1, H1, hf1⟩
  have A1 := Acc.step A0 hS1 hf1
  rw [Hr.out]
  go_wp2_with fail
  refine (isSpace_any (H1).tabsAt 66 (by omega) (by omega)).mono ?_
  rintro e w' ⟨rfl, xs2, d2, rfl⟩
  have H2 := H1.keep (grow_below w1 xs2 d2)
  have A2 := Acc.below A1 (grow_below w1 xs2 d2)
  obtain ⟨w2, hw2⟩ : ∃ x, x = grow w1 xs2 d2 := ⟨_, rfl⟩
  rw [← hw2] at H2 A2 ⊢
  clear hw2
  rw [show isSpaceZ 66 = false from by decide]
  go_wp2_with fail
  refine (peek_any H2).mono ?_
  rintro e w' ⟨rfl, xs3, d3, rfl⟩
  have H3 := H2.keep (grow_below w2 xs3 d3)
  have A3 := Acc.below A2 (grow_below w2 xs3 d3)
  obtain ⟨w3, hw3⟩ : ∃ x, x = grow w2 xs3 d3 := ⟨_, rfl⟩
  rw [← hw3] at H3 A3 ⊢
  clear hw3
  go_wp2_with fail
  refine (peek_any H3).mono ?_
  rintro e w' ⟨rfl, xs4, d4, rfl⟩
  have H4 := H3.keep (grow_below w3 xs4 d4)
  have A4 := Acc.below A3 (grow_below w3 xs4 d4)
  obtain ⟨w4, hw4⟩ : ∃ x, x = grow w3 xs4 d4 := ⟨_, rfl⟩
  rw [← hw4] at H4 A4 ⊢
  clear hw4
  go_wp2_with fail
  refine ((fun (_ : Lx W0 _ _ L s _) => contains_any cOpen 66 _ (by omega) (by omega)) H4).mono ?_
  rintro e w' ⟨rfl, xs5, d5, rfl⟩
  have H5 := H4.keep (grow_below w4 xs5 d5)
  have A5 := Acc.below A4 (grow_below w4 xs5 d5)
  obtain ⟨w5, hw5⟩ : ∃ x, x = grow w4 xs5 d5 := ⟨_, rfl⟩
  rw [← hw5] at H5 A5 ⊢
  clear hw5
  rw [show has cOpen 66 = false from by rw [has_cOpen]; decide]
  go_wp2_with fail
  refine ((fun (_ : Lx W0 _ _ L s _) => contains_any cShut 66 _ (by omega) (by omega)) H5).mono ?_
  rintro e w' ⟨rfl, xs6, d6, rfl⟩
  have H6 := H5.keep (grow_below w5 xs6 d6)
  have A6 := Acc.below A5 (grow_below w5 xs6 d6)
  obtain ⟨w6, hw6⟩ : ∃ x, x = grow w5 xs6 d6 := ⟨_, rfl⟩
  rw [← hw6] at H6 A6 ⊢
  clear hw6
  rw [show has cShut 66 = false from by rw [has_cShut]; decide]
  go_wp2_with fail
  refine ((fun (_ : Lx W0 _ _ L s _) => contains_any cOne 66 _ (by omega) (by omega)) H6).mono ?_
  rintro e w' ⟨rfl, xs7, d7, rfl⟩
  have H7 := H6.keep (grow_below w6 xs7 d7)
  have A7 := Acc.below A6 (grow_below w6 xs7 d7)
  obtain ⟨w7, hw7⟩ : ∃ x, x = grow w6 xs7 d7 := ⟨_, rfl⟩
  rw [← hw7] at H7 A7 ⊢
  clear hw7
  rw [show has cOne 66 = false from by rw [has_cOne]; decide]
  go_wp2_with fail
  refine ((fun (_ : Lx W0 _ _ L s _) => contains_any cTwo 66 _ (by omega) (by omega)) H7).mono ?_
  rintro e w' ⟨rfl, xs8, d8, rfl⟩
  have H8 := H7.keep (grow_below w7 xs8 d8)
  have A8 := Acc.below A7 (grow_below w7 xs8 d8)
  obtain ⟨w8, hw8⟩ : ∃ x, x = grow w7 xs8 d8 := ⟨_, rfl⟩
  rw [← hw8] at H8 A8 ⊢
  clear hw8
  rw [show has cTwo 66 = false from by rw [has_cTwo]; decide]
  go_wp2_with fail
  refine (alnum_any (H8).tabsAt 66 (by omega) (by omega)).mono ?_
  rintro e w' ⟨rfl, xs9, d9, rfl⟩
  have H9 := H8.keep (grow_below w8 xs9 d9)
  have A9 := Acc.below A8 (grow_below w8 xs9 d9)
  obtain ⟨w9, hw9⟩ : ∃ x, x = grow w8 xs9 d9 := ⟨_, rfl⟩
  rw [← hw9] at H9 A9 ⊢
  clear hw9
  rw [show alnum 66 = true from by kernel_rfl]
  go_wp2_with fail
  refine (backup_any H9 (next_le hB.le) (by rw [Bk.out, hns.1, hns.2.1]; omega)).mono ?_
  rintro e w10 ⟨rfl, S10, hS10, H10, hf10⟩
  have A10 := Acc.step A9 hS10 hf10
  rw [Bk.out] at H10
  go_wp2_with fail
  go_ret
  exact ⟨rfl, A10.done H10⟩

set_option maxHeartbeats 4000000 in
set_option maxRecDepth 100000 in
theorem root_ident_lo {F : Stop.Interp} {W0 w : World} {S : Nat → Prop} {L : Nat} {s : ByteArray} {t : St} (_hF : F.answers W0.tape) (H : Lx W0 S w L s t) (hsp : isSpaceZ (peek s t) = false) (nm1 : peek s t ≠ -1) (n39 : peek s t ≠ 39) (n34 : peek s t ≠ 34) (n96 : peek s t ≠ 96) (n98 : peek s t ≠ 98) (n66 : peek s t ≠ 66) (n63 : peek s t ≠ 63) (n47 : peek s t ≠ 47) (n35 : peek s t ≠ 35) (n124 : peek s t ≠ 124) (n58 : peek s t ≠ 58) (n46 : peek s t ≠ 46) (hd : peek s t < 48) (ho : has cOpen (peek s t) = false) (hs : has cShut (peek s t) = false) (h1 : has cOne (peek s t) = false) (h2 : has cTwo (peek s t) = false) (ha : alnum (peek s t) = true) (hB : Back s t) :
    Calls Tryf.prog 31 #[.pointer (some ⟨L, 0, none⟩)] w fun e w' => e = .returned (qVal (some .identifier)) ∧ Done W0 S w L s t w' := by
  have A0 := Acc.refl S w
  have hlo := peek_lo s t
  have hhi := peek_hi s t
  have em1 : (peek s t == -1) = false := beq_eq_false_iff_ne.2 nm1
  have e39 : (peek s t == 39) = false := beq_eq_false_iff_ne.2 n39
  have e34 : (peek s t == 34) = false := beq_eq_false_iff_ne.2 n34
  have e96 : (peek s t == 96) = false := beq_eq_false_iff_ne.2 n96
  have e98 : (peek s t == 98) = false := beq_eq_false_iff_ne.2 n98
  have e66 : (peek s t == 66) = false := beq_eq_false_iff_ne.2 n66
  have e63 : (peek s t == 63) = false := beq_eq_false_iff_ne.2 n63
  have e47 : (peek s t == 47) = false := beq_eq_false_iff_ne.2 n47
  have e35 : (peek s t == 35) = false := beq_eq_false_iff_ne.2 n35
  have e124 : (peek s t == 124) = false := beq_eq_false_iff_ne.2 n124
  have e58 : (peek s t == 58) = false := beq_eq_false_iff_ne.2 n58
  have e46 : (peek s t == 46) = false := beq_eq_false_iff_ne.2 n46
  have Ho := Lib.hid ho
  have Hs := Lib.hid hs
  have H1f := Lib.hid h1
  have H2f := Lib.hid h2
  have Ha := Lib.hid ha
  have Hsp := Lib.hid hsp
  clear ho hs h1 h2 ha hsp nm1 n39 n34 n96 n98 n66 n63 n47 n35 n124 n58 n46
  have hns := next_same s t
  have hbk := backup_next hB
  have hps := H.poss
  have Bk := Lib.hid hbk
  clear hbk
  go_enter Tryf.func31, Tryf.ntmps31
  go_wp2_with fail
  refine (next_any H).mono ?_
  rintro e w1 ⟨rfl, S1, hS1, H1, hf1⟩
  have A1 := Acc.step A0 hS1 hf1
  go_wp2_with fail
  refine (isSpace_any (H1).tabsAt (peek s t) (by omega) (by omega)).mono ?_
  rintro e w' ⟨rfl, xs2, d2, rfl⟩
  have H2 := H1.keep (grow_below w1 xs2 d2)
  have A2 := Acc.below A1 (grow_below w1 xs2 d2)
  obtain ⟨w2, hw2⟩ : ∃ x, x = grow w1 xs2 d2 := ⟨_, rfl⟩
  rw [← hw2] at H2 A2 ⊢
  clear hw2
  rw [Hsp.out]
  go_wp2_with fail
  refine ((fun (_ : Lx W0 _ _ L s _) => contains_any cOpen (peek s t) _ (by omega) (by omega)) H2).mono ?_
  rintro e w' ⟨rfl, xs3, d3, rfl⟩
  have H3 := H2.keep (grow_below w2 xs3 d3)
  have A3 := Acc.below A2 (grow_below w2 xs3 d3)
  obtain ⟨w3, hw3⟩ : ∃ x, x = grow w2 xs3 d3 := ⟨_, rfl⟩
  rw [← hw3] at H3 A3 ⊢
  clear hw3
  rw [Ho.out]
  go_wp2_with fail
  refine ((fun (_ : Lx W0 _ _ L s _) => contains_any cShut (peek s t) _ (by omega) (by omega)) H3).mono ?_
  rintro e w' ⟨rfl, xs4, d4, rfl⟩
  have H4 := H3.keep (grow_below w3 xs4 d4)
  have A4 := Acc.below A3 (grow_below w3 xs4 d4)
  obtain ⟨w4, hw4⟩ : ∃ x, x = grow w3 xs4 d4 := ⟨_, rfl⟩
  rw [← hw4] at H4 A4 ⊢
  clear hw4
  rw [Hs.out]
  go_wp2_with fail
  refine ((fun (_ : Lx W0 _ _ L s _) => contains_any cOne (peek s t) _ (by omega) (by omega)) H4).mono ?_
  rintro e w' ⟨rfl, xs5, d5, rfl⟩
  have H5 := H4.keep (grow_below w4 xs5 d5)
  have A5 := Acc.below A4 (grow_below w4 xs5 d5)
  obtain ⟨w5, hw5⟩ : ∃ x, x = grow w4 xs5 d5 := ⟨_, rfl⟩
  rw [← hw5] at H5 A5 ⊢
  clear hw5
  rw [H1f.out]
  go_wp2_with fail
  refine ((fun (_ : Lx W0 _ _ L s _) => contains_any cTwo (peek s t) _ (by omega) (by omega)) H5).mono ?_
  rintro e w' ⟨rfl, xs6, d6, rfl⟩
  have H6 := H5.keep (grow_below w5 xs6 d6)
  have A6 := Acc.below A5 (grow_below w5 xs6 d6)
  obtain ⟨w6, hw6⟩ : ∃ x, x = grow w5 xs6 d6 := ⟨_, rfl⟩
  rw [← hw6] at H6 A6 ⊢
  clear hw6
  rw [H2f.out]
  go_wp2_with fail
  refine (alnum_any (H6).tabsAt (peek s t) (by omega) (by omega)).mono ?_
  rintro e w' ⟨rfl, xs7, d7, rfl⟩
  have H7 := H6.keep (grow_below w6 xs7 d7)
  have A7 := Acc.below A6 (grow_below w6 xs7 d7)
  obtain ⟨w7, hw7⟩ : ∃ x, x = grow w6 xs7 d7 := ⟨_, rfl⟩
  rw [← hw7] at H7 A7 ⊢
  clear hw7
  rw [Ha.out]
  go_wp2_with fail
  refine (backup_any H7 (next_le hB.le) (by rw [Bk.out, hns.1, hns.2.1]; omega)).mono ?_
  rintro e w8 ⟨rfl, S8, hS8, H8, hf8⟩
  have A8 := Acc.step A7 hS8 hf8
  rw [Bk.out] at H8
  go_wp2_with fail
  go_ret
  exact ⟨rfl, A8.done H8⟩

set_option maxHeartbeats 4000000 in
set_option maxRecDepth 100000 in
theorem root_bad_lo {F : Stop.Interp} {W0 w : World} {S : Nat → Prop} {L : Nat} {s : ByteArray} {t : St} (hF : F.answers W0.tape) (H : Lx W0 S w L s t) (hsp : isSpaceZ (peek s t) = false) (nm1 : peek s t ≠ -1) (n39 : peek s t ≠ 39) (n34 : peek s t ≠ 34) (n96 : peek s t ≠ 96) (n98 : peek s t ≠ 98) (n66 : peek s t ≠ 66) (n63 : peek s t ≠ 63) (n47 : peek s t ≠ 47) (n35 : peek s t ≠ 35) (n124 : peek s t ≠ 124) (n58 : peek s t ≠ 58) (n46 : peek s t ≠ 46) (hd : peek s t < 48) (ho : has cOpen (peek s t) = false) (hs : has cShut (peek s t) = false) (h1 : has cOne (peek s t) = false) (h2 : has cTwo (peek s t) = false) (ha : alnum (peek s t) = false) :
    Calls Tryf.prog 31 #[.pointer (some ⟨L, 0, none⟩)] w fun e w' => e = .returned (qVal none) ∧ Done W0 S w L s (error (next s t)) w' := by
  have A0 := Acc.refl S w
  have hlo := peek_lo s t
  have hhi := peek_hi s t
  have em1 : (peek s t == -1) = false := beq_eq_false_iff_ne.2 nm1
  have e39 : (peek s t == 39) = false := beq_eq_false_iff_ne.2 n39
  have e34 : (peek s t == 34) = false := beq_eq_false_iff_ne.2 n34
  have e96 : (peek s t == 96) = false := beq_eq_false_iff_ne.2 n96
  have e98 : (peek s t == 98) = false := beq_eq_false_iff_ne.2 n98
  have e66 : (peek s t == 66) = false := beq_eq_false_iff_ne.2 n66
  have e63 : (peek s t == 63) = false := beq_eq_false_iff_ne.2 n63
  have e47 : (peek s t == 47) = false := beq_eq_false_iff_ne.2 n47
  have e35 : (peek s t == 35) = false := beq_eq_false_iff_ne.2 n35
  have e124 : (peek s t == 124) = false := beq_eq_false_iff_ne.2 n124
  have e58 : (peek s t == 58) = false := beq_eq_false_iff_ne.2 n58
  have e46 : (peek s t == 46) = false := beq_eq_false_iff_ne.2 n46
  have Ho := Lib.hid ho
  have Hs := Lib.hid hs
  have H1f := Lib.hid h1
  have H2f := Lib.hid h2
  have Ha := Lib.hid ha
  have Hsp := Lib.hid hsp
  clear ho hs h1 h2 ha hsp nm1 n39 n34 n96 n98 n66 n63 n47 n35 n124 n58 n46
  go_enter Tryf.func31, Tryf.ntmps31
  go_wp2_with fail
  refine (next_any H).mono ?_
  rintro e w1 ⟨rfl, S1, hS1, H1, hf1⟩
  have A1 := Acc.step A0 hS1 hf1
  go_wp2_with fail
  refine (isSpace_any (H1).tabsAt (peek s t) (by omega) (by omega)).mono ?_
  rintro e w' ⟨rfl, xs2, d2, rfl⟩
  have H2 := H1.keep (grow_below w1 xs2 d2)
  have A2 := Acc.below A1 (grow_below w1 xs2 d2)
  obtain ⟨w2, hw2⟩ : ∃ x, x = grow w1 xs2 d2 := ⟨_, rfl⟩
  rw [← hw2] at H2 A2 ⊢
  clear hw2
  rw [Hsp.out]
  go_wp2_with fail
  refine ((fun (_ : Lx W0 _ _ L s _) => contains_any cOpen (peek s t) _ (by omega) (by omega)) H2).mono ?_
  rintro e w' ⟨rfl, xs3, d3, rfl⟩
  have H3 := H2.keep (grow_below w2 xs3 d3)
  have A3 := Acc.below A2 (grow_below w2 xs3 d3)
  obtain ⟨w3, hw3⟩ : ∃ x, x = grow w2 xs3 d3 := ⟨_, rfl⟩
  rw [← hw3] at H3 A3 ⊢
  clear hw3
  rw [Ho.out]
  go_wp2_with fail
  refine ((fun (_ : Lx W0 _ _ L s _) => contains_any cShut (peek s t) _ (by omega) (by omega)) H3).mono ?_
  rintro e w' ⟨rfl, xs4, d4, rfl⟩
  have H4 := H3.keep (grow_below w3 xs4 d4)
  have A4 := Acc.below A3 (grow_below w3 xs4 d4)
  obtain ⟨w4, hw4⟩ : ∃ x, x = grow w3 xs4 d4 := ⟨_, rfl⟩
  rw [← hw4] at H4 A4 ⊢
  clear hw4
  rw [Hs.out]
  go_wp2_with fail
  refine ((fun (_ : Lx W0 _ _ L s _) => contains_any cOne (peek s t) _ (by omega) (by omega)) H4).mono ?_
  rintro e w' ⟨rfl, xs5, d5, rfl⟩
  have H5 := H4.keep (grow_below w4 xs5 d5)
  have A5 := Acc.below A4 (grow_below w4 xs5 d5)
  obtain ⟨w5, hw5⟩ : ∃ x, x = grow w4 xs5 d5 := ⟨_, rfl⟩
  rw [← hw5] at H5 A5 ⊢
  clear hw5
  rw [H1f.out]
  go_wp2_with fail
  refine ((fun (_ : Lx W0 _ _ L s _) => contains_any cTwo (peek s t) _ (by omega) (by omega)) H5).mono ?_
  rintro e w' ⟨rfl, xs6, d6, rfl⟩
  have H6 := H5.keep (grow_below w5 xs6 d6)
  have A6 := Acc.below A5 (grow_below w5 xs6 d6)
  obtain ⟨w6, hw6⟩ : ∃ x, x = grow w5 xs6 d6 := ⟨_, rfl⟩
  rw [← hw6] at H6 A6 ⊢
  clear hw6
  rw [H2f.out]
  go_wp2_with fail
  refine (alnum_any (H6).tabsAt (peek s t) (by omega) (by omega)).mono ?_
  rintro e w' ⟨rfl, xs7, d7, rfl⟩
  have H7 := H6.keep (grow_below w6 xs7 d7)
  have A7 := Acc.below A6 (grow_below w6 xs7 d7)
  obtain ⟨w7, hw7⟩ : ∃ x, x = grow w6 xs7 d7 := ⟨_, rfl⟩
  rw [← hw7] at H7 A7 ⊢
  clear hw7
  rw [Ha.out]
  go_wp2_with fail
  refine (error_U hF (H7.keep (by repeat (first | exact Below.refl _ _ | apply below_drew | apply below_drewN | apply below_alloc | apply below_grow))) (peek s t) (by go_simp)).mono ?_
  rintro e w8 ⟨rfl, S8, hS8, H8, hf8⟩
  have A8 := Acc.step (Acc.below A7 (by repeat (first | exact Below.refl _ _ | apply below_drew | apply below_drewN | apply below_alloc | apply below_grow))) hS8 hf8
  go_wp2_with fail
  go_ret
  exact ⟨rfl, A8.done H8⟩

set_option maxHeartbeats 4000000 in
set_option maxRecDepth 100000 in
theorem root_ident_hi {F : Stop.Interp} {W0 w : World} {S : Nat → Prop} {L : Nat} {s : ByteArray} {t : St} (_hF : F.answers W0.tape) (H : Lx W0 S w L s t) (hsp : isSpaceZ (peek s t) = false) (nm1 : peek s t ≠ -1) (n39 : peek s t ≠ 39) (n34 : peek s t ≠ 34) (n96 : peek s t ≠ 96) (n98 : peek s t ≠ 98) (n66 : peek s t ≠ 66) (n63 : peek s t ≠ 63) (n47 : peek s t ≠ 47) (n35 : peek s t ≠ 35) (n124 : peek s t ≠ 124) (n58 : peek s t ≠ 58) (n46 : peek s t ≠ 46) (hd : 57 < peek s t) (ho : has cOpen (peek s t) = false) (hs : has cShut (peek s t) = false) (h1 : has cOne (peek s t) = false) (h2 : has cTwo (peek s t) = false) (ha : alnum (peek s t) = true) (hB : Back s t) :
    Calls Tryf.prog 31 #[.pointer (some ⟨L, 0, none⟩)] w fun e w' => e = .returned (qVal (some .identifier)) ∧ Done W0 S w L s t w' := by
  have A0 := Acc.refl S w
  have hlo := peek_lo s t
  have hhi := peek_hi s t
  have em1 : (peek s t == -1) = false := beq_eq_false_iff_ne.2 nm1
  have e39 : (peek s t == 39) = false := beq_eq_false_iff_ne.2 n39
  have e34 : (peek s t == 34) = false := beq_eq_false_iff_ne.2 n34
  have e96 : (peek s t == 96) = false := beq_eq_false_iff_ne.2 n96
  have e98 : (peek s t == 98) = false := beq_eq_false_iff_ne.2 n98
  have e66 : (peek s t == 66) = false := beq_eq_false_iff_ne.2 n66
  have e63 : (peek s t == 63) = false := beq_eq_false_iff_ne.2 n63
  have e47 : (peek s t == 47) = false := beq_eq_false_iff_ne.2 n47
  have e35 : (peek s t == 35) = false := beq_eq_false_iff_ne.2 n35
  have e124 : (peek s t == 124) = false := beq_eq_false_iff_ne.2 n124
  have e58 : (peek s t == 58) = false := beq_eq_false_iff_ne.2 n58
  have e46 : (peek s t == 46) = false := beq_eq_false_iff_ne.2 n46
  have Ho := Lib.hid ho
  have Hs := Lib.hid hs
  have H1f := Lib.hid h1
  have H2f := Lib.hid h2
  have Ha := Lib.hid ha
  have Hsp := Lib.hid hsp
  clear ho hs h1 h2 ha hsp nm1 n39 n34 n96 n98 n66 n63 n47 n35 n124 n58 n46
  have hns := next_same s t
  have hbk := backup_next hB
  have hps := H.poss
  have Bk := Lib.hid hbk
  clear hbk
  go_enter Tryf.func31, Tryf.ntmps31
  go_wp2_with fail
  refine (next_any H).mono ?_
  rintro e w1 ⟨rfl, S1, hS1, H1, hf1⟩
  have A1 := Acc.step A0 hS1 hf1
  go_wp2_with fail
  refine (isSpace_any (H1).tabsAt (peek s t) (by omega) (by omega)).mono ?_
  rintro e w' ⟨rfl, xs2, d2, rfl⟩
  have H2 := H1.keep (grow_below w1 xs2 d2)
  have A2 := Acc.below A1 (grow_below w1 xs2 d2)
  obtain ⟨w2, hw2⟩ : ∃ x, x = grow w1 xs2 d2 := ⟨_, rfl⟩
  rw [← hw2] at H2 A2 ⊢
  clear hw2
  rw [Hsp.out]
  go_wp2_with fail
  refine ((fun (_ : Lx W0 _ _ L s _) => contains_any cOpen (peek s t) _ (by omega) (by omega)) H2).mono ?_
  rintro e w' ⟨rfl, xs3, d3, rfl⟩
  have H3 := H2.keep (grow_below w2 xs3 d3)
  have A3 := Acc.below A2 (grow_below w2 xs3 d3)
  obtain ⟨w3, hw3⟩ : ∃ x, x = grow w2 xs3 d3 := ⟨_, rfl⟩
  rw [← hw3] at H3 A3 ⊢
  clear hw3
  rw [Ho.out]
  go_wp2_with fail
  refine ((fun (_ : Lx W0 _ _ L s _) => contains_any cShut (peek s t) _ (by omega) (by omega)) H3).mono ?_
  rintro e w' ⟨rfl, xs4, d4, rfl⟩
  have H4 := H3.keep (grow_below w3 xs4 d4)
  have A4 := Acc.below A3 (grow_below w3 xs4 d4)
  obtain ⟨w4, hw4⟩ : ∃ x, x = grow w3 xs4 d4 := ⟨_, rfl⟩
  rw [← hw4] at H4 A4 ⊢
  clear hw4
  rw [Hs.out]
  go_wp2_with fail
  refine ((fun (_ : Lx W0 _ _ L s _) => contains_any cOne (peek s t) _ (by omega) (by omega)) H4).mono ?_
  rintro e w' ⟨rfl, xs5, d5, rfl⟩
  have H5 := H4.keep (grow_below w4 xs5 d5)
  have A5 := Acc.below A4 (grow_below w4 xs5 d5)
  obtain ⟨w5, hw5⟩ : ∃ x, x = grow w4 xs5 d5 := ⟨_, rfl⟩
  rw [← hw5] at H5 A5 ⊢
  clear hw5
  rw [H1f.out]
  go_wp2_with fail
  refine ((fun (_ : Lx W0 _ _ L s _) => contains_any cTwo (peek s t) _ (by omega) (by omega)) H5).mono ?_
  rintro e w' ⟨rfl, xs6, d6, rfl⟩
  have H6 := H5.keep (grow_below w5 xs6 d6)
  have A6 := Acc.below A5 (grow_below w5 xs6 d6)
  obtain ⟨w6, hw6⟩ : ∃ x, x = grow w5 xs6 d6 := ⟨_, rfl⟩
  rw [← hw6] at H6 A6 ⊢
  clear hw6
  rw [H2f.out]
  go_wp2_with fail
  refine (alnum_any (H6).tabsAt (peek s t) (by omega) (by omega)).mono ?_
  rintro e w' ⟨rfl, xs7, d7, rfl⟩
  have H7 := H6.keep (grow_below w6 xs7 d7)
  have A7 := Acc.below A6 (grow_below w6 xs7 d7)
  obtain ⟨w7, hw7⟩ : ∃ x, x = grow w6 xs7 d7 := ⟨_, rfl⟩
  rw [← hw7] at H7 A7 ⊢
  clear hw7
  rw [Ha.out]
  go_wp2_with fail
  refine (backup_any H7 (next_le hB.le) (by rw [Bk.out, hns.1, hns.2.1]; omega)).mono ?_
  rintro e w8 ⟨rfl, S8, hS8, H8, hf8⟩
  have A8 := Acc.step A7 hS8 hf8
  rw [Bk.out] at H8
  go_wp2_with fail
  go_ret
  exact ⟨rfl, A8.done H8⟩

set_option maxHeartbeats 4000000 in
set_option maxRecDepth 100000 in
theorem root_bad_hi {F : Stop.Interp} {W0 w : World} {S : Nat → Prop} {L : Nat} {s : ByteArray} {t : St} (hF : F.answers W0.tape) (H : Lx W0 S w L s t) (hsp : isSpaceZ (peek s t) = false) (nm1 : peek s t ≠ -1) (n39 : peek s t ≠ 39) (n34 : peek s t ≠ 34) (n96 : peek s t ≠ 96) (n98 : peek s t ≠ 98) (n66 : peek s t ≠ 66) (n63 : peek s t ≠ 63) (n47 : peek s t ≠ 47) (n35 : peek s t ≠ 35) (n124 : peek s t ≠ 124) (n58 : peek s t ≠ 58) (n46 : peek s t ≠ 46) (hd : 57 < peek s t) (ho : has cOpen (peek s t) = false) (hs : has cShut (peek s t) = false) (h1 : has cOne (peek s t) = false) (h2 : has cTwo (peek s t) = false) (ha : alnum (peek s t) = false) :
    Calls Tryf.prog 31 #[.pointer (some ⟨L, 0, none⟩)] w fun e w' => e = .returned (qVal none) ∧ Done W0 S w L s (error (next s t)) w' := by
  have A0 := Acc.refl S w
  have hlo := peek_lo s t
  have hhi := peek_hi s t
  have em1 : (peek s t == -1) = false := beq_eq_false_iff_ne.2 nm1
  have e39 : (peek s t == 39) = false := beq_eq_false_iff_ne.2 n39
  have e34 : (peek s t == 34) = false := beq_eq_false_iff_ne.2 n34
  have e96 : (peek s t == 96) = false := beq_eq_false_iff_ne.2 n96
  have e98 : (peek s t == 98) = false := beq_eq_false_iff_ne.2 n98
  have e66 : (peek s t == 66) = false := beq_eq_false_iff_ne.2 n66
  have e63 : (peek s t == 63) = false := beq_eq_false_iff_ne.2 n63
  have e47 : (peek s t == 47) = false := beq_eq_false_iff_ne.2 n47
  have e35 : (peek s t == 35) = false := beq_eq_false_iff_ne.2 n35
  have e124 : (peek s t == 124) = false := beq_eq_false_iff_ne.2 n124
  have e58 : (peek s t == 58) = false := beq_eq_false_iff_ne.2 n58
  have e46 : (peek s t == 46) = false := beq_eq_false_iff_ne.2 n46
  have Ho := Lib.hid ho
  have Hs := Lib.hid hs
  have H1f := Lib.hid h1
  have H2f := Lib.hid h2
  have Ha := Lib.hid ha
  have Hsp := Lib.hid hsp
  clear ho hs h1 h2 ha hsp nm1 n39 n34 n96 n98 n66 n63 n47 n35 n124 n58 n46
  go_enter Tryf.func31, Tryf.ntmps31
  go_wp2_with fail
  refine (next_any H).mono ?_
  rintro e w1 ⟨rfl, S1, hS1, H1, hf1⟩
  have A1 := Acc.step A0 hS1 hf1
  go_wp2_with fail
  refine (isSpace_any (H1).tabsAt (peek s t) (by omega) (by omega)).mono ?_
  rintro e w' ⟨rfl, xs2, d2, rfl⟩
  have H2 := H1.keep (grow_below w1 xs2 d2)
  have A2 := Acc.below A1 (grow_below w1 xs2 d2)
  obtain ⟨w2, hw2⟩ : ∃ x, x = grow w1 xs2 d2 := ⟨_, rfl⟩
  rw [← hw2] at H2 A2 ⊢
  clear hw2
  rw [Hsp.out]
  go_wp2_with fail
  refine ((fun (_ : Lx W0 _ _ L s _) => contains_any cOpen (peek s t) _ (by omega) (by omega)) H2).mono ?_
  rintro e w' ⟨rfl, xs3, d3, rfl⟩
  have H3 := H2.keep (grow_below w2 xs3 d3)
  have A3 := Acc.below A2 (grow_below w2 xs3 d3)
  obtain ⟨w3, hw3⟩ : ∃ x, x = grow w2 xs3 d3 := ⟨_, rfl⟩
  rw [← hw3] at H3 A3 ⊢
  clear hw3
  rw [Ho.out]
  go_wp2_with fail
  refine ((fun (_ : Lx W0 _ _ L s _) => contains_any cShut (peek s t) _ (by omega) (by omega)) H3).mono ?_
  rintro e w' ⟨rfl, xs4, d4, rfl⟩
  have H4 := H3.keep (grow_below w3 xs4 d4)
  have A4 := Acc.below A3 (grow_below w3 xs4 d4)
  obtain ⟨w4, hw4⟩ : ∃ x, x = grow w3 xs4 d4 := ⟨_, rfl⟩
  rw [← hw4] at H4 A4 ⊢
  clear hw4
  rw [Hs.out]
  go_wp2_with fail
  refine ((fun (_ : Lx W0 _ _ L s _) => contains_any cOne (peek s t) _ (by omega) (by omega)) H4).mono ?_
  rintro e w' ⟨rfl, xs5, d5, rfl⟩
  have H5 := H4.keep (grow_below w4 xs5 d5)
  have A5 := Acc.below A4 (grow_below w4 xs5 d5)
  obtain ⟨w5, hw5⟩ : ∃ x, x = grow w4 xs5 d5 := ⟨_, rfl⟩
  rw [← hw5] at H5 A5 ⊢
  clear hw5
  rw [H1f.out]
  go_wp2_with fail
  refine ((fun (_ : Lx W0 _ _ L s _) => contains_any cTwo (peek s t) _ (by omega) (by omega)) H5).mono ?_
  rintro e w' ⟨rfl, xs6, d6, rfl⟩
  have H6 := H5.keep (grow_below w5 xs6 d6)
  have A6 := Acc.below A5 (grow_below w5 xs6 d6)
  obtain ⟨w6, hw6⟩ : ∃ x, x = grow w5 xs6 d6 := ⟨_, rfl⟩
  rw [← hw6] at H6 A6 ⊢
  clear hw6
  rw [H2f.out]
  go_wp2_with fail
  refine (alnum_any (H6).tabsAt (peek s t) (by omega) (by omega)).mono ?_
  rintro e w' ⟨rfl, xs7, d7, rfl⟩
  have H7 := H6.keep (grow_below w6 xs7 d7)
  have A7 := Acc.below A6 (grow_below w6 xs7 d7)
  obtain ⟨w7, hw7⟩ : ∃ x, x = grow w6 xs7 d7 := ⟨_, rfl⟩
  rw [← hw7] at H7 A7 ⊢
  clear hw7
  rw [Ha.out]
  go_wp2_with fail
  refine (error_U hF (H7.keep (by repeat (first | exact Below.refl _ _ | apply below_drew | apply below_drewN | apply below_alloc | apply below_grow))) (peek s t) (by go_simp)).mono ?_
  rintro e w8 ⟨rfl, S8, hS8, H8, hf8⟩
  have A8 := Acc.step (Acc.below A7 (by repeat (first | exact Below.refl _ _ | apply below_drew | apply below_drewN | apply below_alloc | apply below_grow))) hS8 hf8
  go_wp2_with fail
  go_ret
  exact ⟨rfl, A8.done H8⟩

end Go.Proofs.YtdpdgppjeekcmaaFmt
