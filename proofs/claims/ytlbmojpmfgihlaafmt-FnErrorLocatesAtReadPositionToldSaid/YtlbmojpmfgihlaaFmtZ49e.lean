/-
  Walks: more shims of n003_49, and its own helpers that look at lexers.
-/
import Derived.Test.YtlbmojpmfgihlaaFmtZ49
import Derived.Test.YtlbmojpmfgihlaaFmtScan
import Derived.Test.YtlbmojpmfgihlaaFmtP49
import Derived.WalkKit
namespace Go.Proofs.YtlbmojpmfgihlaaFmt
open Go Go.Lib Go.RowKit Go.Proofs
open Go.Extern.Stop Go.Stop Go.Extern

theorem zscanDigits_any {F : Stop.Interp} {W0 w : World} {S : Nat → Prop} {L : Nat} {s : ByteArray} {t : St} (hF : F.answers W0.tape) (H : Lx W0 S w L s t) (base ch n : Int) (h0 : -2147483648 ≤ ch) (h1 : ch ≤ 2147483647) (hn : n ≤ 1099511627776) (hn0 : -9223372036854775808 ≤ n) :
    Calls Tryf.prog 8 #[.pointer (some ⟨L, 0, none⟩), .int .i32 ch, .int .i64 base, .int .i64 n] w fun e w' => e = .returned (.int .i32 (scanDigits s base n.toNat ch t).1) ∧ Done W0 S w L s (scanDigits s base n.toNat ch t).2 w' := by
  go_enter Tryf.func8, Tryf.ntmps8
  go_wp2_with fail
  refine (scanDigits_any hF H base ch n h0 h1 hn hn0).mono ?_
  rintro e w1 ⟨rfl, hd⟩
  go_wp2_with fail
  go_ret
  exact ⟨rfl, hd⟩
theorem zscanEscape_any {F : Stop.Interp} {W0 w : World} {S : Nat → Prop} {L : Nat} {s : ByteArray} {t : St} (hF : F.answers W0.tape) (H : Lx W0 S w L s t) (quote : Int) :
    Calls Tryf.prog 14 #[.pointer (some ⟨L, 0, none⟩), .int .i32 quote] w fun e w' => e = .returned (.int .i32 (scanEscape s quote t).1) ∧ Done W0 S w L s (scanEscape s quote t).2 w' := by
  go_enter Tryf.func14, Tryf.ntmps14
  go_wp2_with fail
  refine (scanEscape_any hF H quote).mono ?_
  rintro e w1 ⟨rfl, hd⟩
  go_wp2_with fail
  go_ret
  exact ⟨rfl, hd⟩

/-- An error stands at f, o. -/
theorem errAt_any {W0 w : World} {S : Nat → Prop} {L : Nat} {s : ByteArray} {t : St} {f o : Int} (H : Lx W0 S w L s t) (he : t.err = some (f, o)) :
    Calls Tryf.prog 20 #[.pointer (some ⟨L, 0, none⟩), .int .i64 f, .int .i64 o] w fun e w' => e = .returned (.bool true) ∧ Below w.heap.size w w' := by
  have h1 := zerrSet_some H he
  have h2 := zerrFrom_any H he
  have h3 := zerrTo_any H he
  have H1 := Lib.hid h1
  have H2 := Lib.hid h2
  have H3 := Lib.hid h3
  clear h1 h2 h3
  go_enter Tryf.func20, Tryf.ntmps20
  go_wp2_with (first | (go_at_call 25; refine H1.out.mono ?_; rintro e w' ⟨rfl, rfl⟩) | (go_at_call 27; refine H2.out.mono ?_; rintro e w' ⟨rfl, rfl⟩) | (go_at_call 28; refine H3.out.mono ?_; rintro e w' ⟨rfl, rfl⟩))
  go_ret
  exact ⟨rfl, (by repeat (first | exact Below.refl _ _ | apply below_drew | apply below_drewN | apply below_alloc | apply below_grow))⟩

/-- Two lexers stand alike. -/
structure SameAt (w : World) (La Lb : Nat) : Prop where
  ex : ∃ (W0 : World) (Sa Sb : Nat → Prop) (sa sb : ByteArray) (ta tb : St), Lx W0 Sa w La sa ta ∧ Lx W0 Sb w Lb sb tb ∧ ta.er = tb.er ∧ ta.eb = tb.eb ∧ ta.eof = tb.eof ∧ ta.err = tb.err

set_option maxHeartbeats 4000000 in
set_option maxRecDepth 100000 in
theorem sameState_any {w : World} {La Lb : Nat} (h : SameAt w La Lb) :
    Calls Tryf.prog 11 #[.pointer (some ⟨La, 0, none⟩), .pointer (some ⟨Lb, 0, none⟩)] w fun e w' => e = .returned (.bool true) ∧ Below w.heap.size w w' := by
  obtain ⟨W0, Sa, Sb, sa, sb, ta, tb, Ha, Hb, e1, e2, e3, e4⟩ := h.ex
  have a1 := zendRune_any Ha
  have b1 := zendRune_any Hb
  have a2 := zendByte_any Ha
  have b2 := zendByte_any Hb
  have a3 := zeof_any Ha
  have b3 := zeof_any Hb
  rw [← e1] at b1
  rw [← e2] at b2
  rw [← e3] at b3
  have A1 := Lib.hid a1
  have B1 := Lib.hid b1
  have A2 := Lib.hid a2
  have B2 := Lib.hid b2
  have A3 := Lib.hid a3
  have B3 := Lib.hid b3
  clear a1 b1 a2 b2 a3 b3
  cases he : ta.err with
  | none =>
    have a0 := zerrSet_none Ha he
    have b0 := zerrSet_none Hb (e4.symm.trans he)
    have A0 := Lib.hid a0
    have B0 := Lib.hid b0
    clear a0 b0 he e1 e2 e3 e4
    go_enter Tryf.func11, Tryf.ntmps11
    go_wp2_with (first
      | (go_at_call 25; refine Calls.mono (by first | with_reducible exact A0.out | with_reducible exact B0.out) ?_; rintro e w' ⟨rfl, rfl⟩)
      | (go_at_call 15; refine Calls.mono (by first | with_reducible exact A1.out | with_reducible exact B1.out) ?_; rintro e w' ⟨rfl, rfl⟩)
      | (go_at_call 18; refine Calls.mono (by first | with_reducible exact A2.out | with_reducible exact B2.out) ?_; rintro e w' ⟨rfl, rfl⟩)
      | (go_at_call 26; refine Calls.mono (by first | with_reducible exact A3.out | with_reducible exact B3.out) ?_; rintro e w' ⟨rfl, rfl⟩))
    go_ret
    exact ⟨rfl, (by repeat (first | exact Below.refl _ _ | apply below_drew | apply below_drewN | apply below_alloc | apply below_grow))⟩
  | some p =>
    obtain ⟨f, o⟩ := p
    have a0 := zerrSet_some Ha he
    have b0 := zerrSet_some Hb (e4.symm.trans he)
    have a4 := zerrFrom_any Ha he
    have b4 := zerrFrom_any Hb (e4.symm.trans he)
    have a5 := zerrTo_any Ha he
    have b5 := zerrTo_any Hb (e4.symm.trans he)
    have A0 := Lib.hid a0
    have B0 := Lib.hid b0
    have A4 := Lib.hid a4
    have B4 := Lib.hid b4
    have A5 := Lib.hid a5
    have B5 := Lib.hid b5
    clear a0 b0 a4 b4 a5 b5 he e1 e2 e3 e4
    go_enter Tryf.func11, Tryf.ntmps11
    go_wp2_with (first
      | (go_at_call 25; refine Calls.mono (by first | with_reducible exact A0.out | with_reducible exact B0.out) ?_; rintro e w' ⟨rfl, rfl⟩)
      | (go_at_call 15; refine Calls.mono (by first | with_reducible exact A1.out | with_reducible exact B1.out) ?_; rintro e w' ⟨rfl, rfl⟩)
      | (go_at_call 18; refine Calls.mono (by first | with_reducible exact A2.out | with_reducible exact B2.out) ?_; rintro e w' ⟨rfl, rfl⟩)
      | (go_at_call 26; refine Calls.mono (by first | with_reducible exact A3.out | with_reducible exact B3.out) ?_; rintro e w' ⟨rfl, rfl⟩)
      | (go_at_call 27; refine Calls.mono (by first | with_reducible exact A4.out | with_reducible exact B4.out) ?_; rintro e w' ⟨rfl, rfl⟩)
      | (go_at_call 28; refine Calls.mono (by first | with_reducible exact A5.out | with_reducible exact B5.out) ?_; rintro e w' ⟨rfl, rfl⟩))
    go_ret
    exact ⟨rfl, (by repeat (first | exact Below.refl _ _ | apply below_drew | apply below_drewN | apply below_alloc | apply below_grow))⟩

theorem upperRune_any (r : Int) (h0 : -2147483648 ≤ r) (h1 : r ≤ 2147483647) (w : World) :
    Calls Tryf.prog 10 #[.int .i32 r] w fun e w' => e = .returned (.int .i32 (upR r)) ∧ w = w' := by
  by_cases h : 97 ≤ r
  · by_cases h2 : r ≤ 122
    · have e : upR r = r - 32 := by unfold upR; rw [if_pos ⟨h, h2⟩]
      rw [e]
      clear e
      have wr : IntKind.i32.wrap (r - 32) = r - 32 := by rw [IntKind.wrap_i32]; omega
      go_enter Tryf.func10, Tryf.ntmps10
      go_wp2_with fail
      go_ret
      exact ⟨rfl, rfl⟩
    · have e : upR r = r := by unfold upR; rw [if_neg (by omega)]
      rw [e]
      clear e
      go_enter Tryf.func10, Tryf.ntmps10
      go_wp2_with fail
      go_ret
      exact ⟨rfl, rfl⟩
  · have e : upR r = r := by unfold upR; rw [if_neg (by omega)]
    rw [e]
    clear e
    go_enter Tryf.func10, Tryf.ntmps10
    go_wp2_with fail
    go_ret
    exact ⟨rfl, rfl⟩

end Go.Proofs.YtlbmojpmfgihlaaFmt
