/-
  Walk of a law of n003_49: digits in either case.
-/
import Derived.Test.YtlbmojpmfgihlaaFmtZ49u
namespace Go.Proofs.YtlbmojpmfgihlaaFmt
open Go Go.Lib Go.RowKit Go.Proofs
open Go.Extern.Stop Go.Stop Go.Extern

theorem scanDigits_in (s : ByteArray) (base : Int) : ∀ (n : Nat) (ch : Int) (t : St), -2147483648 ≤ ch → ch ≤ 2147483647 → -2147483648 ≤ (scanDigits s base n ch t).1 ∧ (scanDigits s base n ch t).1 ≤ 2147483647
  | 0, _, _, h, k => ⟨h, k⟩
  | n + 1, ch, t, h, k => by
    unfold scanDigits
    split
    · have h1 := peek_lo s t
      have h2 := peek_hi s t
      exact scanDigits_in s base n _ _ (by omega) (by omega)
    · exact ⟨h, k⟩

def SaysB (w : World) (e : Ending) (w' : World) : Prop := ∃ b, e = .returned (.bool b) ∧ w = w'

set_option maxRecDepth 100000 in
theorem zzBytes_SD (c : ByteArray) (ch base n : Int) (w : World) (wc : c.size ≤ maxLen) : Calls Tryf.prog 6 #[.string c, .int .i32 ch, .int .i64 base, .int .i64 n] w (SaysB w) := by
  unfold maxLen at wc
  by_cases z0 : (1048576 : Int) < (c.size : Int)
  · go_enter Tryf.func6, Tryf.ntmps6
    go_wp2_with fail
    go_ret
    exact ⟨_, rfl, rfl⟩
  · go_enter Tryf.func6, Tryf.ntmps6
    go_wp2_with fail
    go_ret
    exact ⟨_, rfl, rfl⟩

set_option maxHeartbeats 4000000 in
set_option maxRecDepth 100000 in
theorem SD_walk {W : World} (hT : Tabs W) (F : Stop.Interp) (hF : F.answers W.tape) (s : ByteArray) (ch base n : Int) (ws : s.size ≤ maxLen) (hc0 : -2147483648 ≤ ch) (hc1 : ch ≤ 2147483647) (hb0 : -9223372036854775808 ≤ base) (hb1 : base ≤ 9223372036854775807) (hn0 : -9223372036854775808 ≤ n) (hn1 : n ≤ 9223372036854775807) :
    Calls Tryf.prog 3 #[.string s, .int .i32 ch, .int .i64 base, .int .i64 n] W fun e w' => e = .returned (.bool true) ∧ Below W.heap.size W w' := by
  have hz := zzBytes_SD s ch base n W ws
  have Hz := Lib.hid hz
  clear hz
  by_cases c0 : (65536 : Int) < (s.size : Int)
  · go_enter Tryf.func3, Tryf.ntmps3
    go_wp2_with fail
    refine (Hz.out).mono ?_
    rintro e w' ⟨b, rfl, rfl⟩
    cases b
    · go_wp2_with fail
      go_ret
      exact ⟨rfl, Below.refl _ _⟩
    · go_wp2_with fail
      go_ret
      exact ⟨rfl, Below.refl _ _⟩
  by_cases c1 : (65536 : Int) < n
  · go_enter Tryf.func3, Tryf.ntmps3
    go_wp2_with fail
    refine (Hz.out).mono ?_
    rintro e w' ⟨b, rfl, rfl⟩
    cases b
    · go_wp2_with fail
      go_ret
      exact ⟨rfl, Below.refl _ _⟩
    · go_wp2_with fail
      go_ret
      exact ⟨rfl, Below.refl _ _⟩
  have hs : s.size ≤ 1099511627776 := by omega
  have hu : (upperS s).size ≤ 1099511627776 := by rw [upper_size]; exact hs
  have hup := scanDigits_upper s base n.toNat ch start
  obtain ⟨g, t1, hg⟩ : ∃ g t1, scanDigits s base n.toNat ch start = (g, t1) := ⟨_, _, rfl⟩
  rw [hg] at hup
  have hgb : -2147483648 ≤ g ∧ g ≤ 2147483647 := by
    have h := scanDigits_in s base n.toNat ch start hc0 hc1
    rw [hg] at h
    exact h
  have hch : -2147483648 ≤ upR ch ∧ upR ch ≤ 2147483647 := by unfold upR; split <;> omega
  have hgu : (upR g == upR g) = true := by simp
  have Hup := Lib.hid hup
  have Hg := Lib.hid hg
  clear hup hg
  go_enter Tryf.func3, Tryf.ntmps3
  go_wp2_with fail
  refine Hz.out.mono ?_
  rintro e w' ⟨b, rfl, rfl⟩
  cases b
  · go_wp2_with fail
    go_ret
    exact ⟨rfl, Below.refl _ _⟩
  go_wp2_with fail
  refine (znew_any hT (Below.refl _ _) s hs).mono ?_
  rintro e w1 ⟨L1, S1, rfl, hS1, H1, hb1⟩
  go_wp2_with fail
  refine (zscanDigits_any hF H1 base ch n hc0 hc1 (by omega) hn0).mono ?_
  rintro e w2 ⟨rfl, S2, hS2, H2, hf2⟩
  rw [Hg.out] at H2
  rw [Hg.out]
  have hbw2 : Below W.heap.size W w2 := hb1.trans (hf2.below hS1 hb1.size)
  have Hbw2 := Lib.hid hbw2
  clear hbw2 hf2 hS2 hb1 hS1 H1
  go_wp2_with fail
  refine (upperString_any s hs w2).mono ?_
  rintro e w3 ⟨rfl, hb3⟩
  have hbw3 : Below W.heap.size W w3 := Hbw2.out.trans (hb3.mono Hbw2.out.size)
  have H3 := H2.keep hb3
  have Hbw3 := Lib.hid hbw3
  clear hbw3 hb3 H2 Hbw2
  go_wp2_with fail
  refine (znew_any hT Hbw3.out (upperS s) hu).mono ?_
  rintro e w4 ⟨L4, S4, rfl, hS4, H4, hb4⟩
  have hbw4 : Below W.heap.size W w4 := Hbw3.out.trans (hb4.mono Hbw3.out.size)
  have H3' := H3.keep hb4
  have hdis : ∀ k, S2 k → ¬ S4 k := fun k h2 h4 => by have := H3.lt k h2; have := hS4 k h4; omega
  have Hbw4 := Lib.hid hbw4
  have Hdis := Lib.hid hdis
  clear hbw4 hb4 H3 hdis
  go_wp2_with fail
  refine (upperRune_any ch hc0 hc1 w4).mono ?_
  rintro e w' ⟨rfl, rfl⟩
  go_wp2_with fail
  refine (zscanDigits_any hF H4 base (upR ch) n hch.1 hch.2 (by omega) hn0).mono ?_
  rintro e w5 ⟨rfl, S5, hS5, H5, hf5⟩
  rw [Hup.out] at H5
  rw [Hup.out]
  have hbw5 : Below W.heap.size W w5 := Hbw4.out.trans (hf5.below (fun k hk => Nat.le_trans Hbw3.out.size (hS4 k hk)) Hbw4.out.size)
  have H6 := H3'.keepFr hf5 (fun k h2 h4 => Hdis.out k h2 h4) (fun k hk => Nat.le_trans Hbw3.out.size (hS4 k hk))
  have hsame : SameAt w5 L1 L4 := ⟨W, S2, S5, s, upperS s, t1, t1, H6, H5, rfl, rfl, rfl, rfl⟩
  have Hsame := Lib.hid hsame
  have Hbw5 := Lib.hid hbw5
  clear hsame hbw5 hf5 hS5 H6 H5 H4 H3' Hdis Hbw4 hS4 Hbw3
  go_wp2_with fail
  refine (upperRune_any g hgb.1 hgb.2 w5).mono ?_
  rintro e w' ⟨rfl, rfl⟩
  go_wp2_with fail
  refine (sameState_any Hsame.out).mono ?_
  rintro e w6 ⟨rfl, hb6⟩
  go_wp2_with fail
  go_ret
  exact ⟨rfl, Hbw5.out.trans (hb6.mono Hbw5.out.size)⟩

end Go.Proofs.YtlbmojpmfgihlaaFmt
