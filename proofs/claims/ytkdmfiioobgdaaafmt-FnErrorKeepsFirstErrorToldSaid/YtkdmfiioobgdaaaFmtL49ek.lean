/-
  Walk of a law of n003_49: the first error stays.
-/
import Derived.Test.YtkdmfiioobgdaaaFmtZ49e
namespace Go.Proofs.YtkdmfiioobgdaaaFmt
open Go Go.Lib Go.RowKit Go.Proofs
open Go.Extern.Stop Go.Stop Go.Extern

def SaysB (w : World) (e : Ending) (w' : World) : Prop := ∃ b, e = .returned (.bool b) ∧ w = w'

set_option maxRecDepth 100000 in
theorem zzBytes_EK (c : ByteArray) (k1 k2 : Int) (w : World) (wc : c.size ≤ maxLen) : Calls Tryf.prog 22 #[.string c, .int .i64 k1, .int .i64 k2] w (SaysB w) := by
  unfold maxLen at wc
  by_cases z0 : (1048576 : Int) < (c.size : Int)
  · go_enter Tryf.func22, Tryf.ntmps22
    go_wp2_with fail
    go_ret
    exact ⟨_, rfl, rfl⟩
  · go_enter Tryf.func22, Tryf.ntmps22
    go_wp2_with fail
    go_ret
    exact ⟨_, rfl, rfl⟩

set_option maxHeartbeats 4000000 in
set_option maxRecDepth 100000 in
theorem EK_in {W : World} (hT : Tabs W) (F : Stop.Interp) (hF : F.answers W.tape) (s : ByteArray) (a b : Nat) (hs : s.size ≤ 65536) (ha : a ≤ 65536) (hb : b ≤ 65536) :
    Calls Tryf.prog 6 #[.string s, .int .i64 (a : Nat), .int .i64 (b : Nat)] W fun e w' => e = .returned (.bool true) ∧ Below W.heap.size W w' := by
  have b0 : ¬ (65536 : Int) < (s.size : Int) := by omega
  have b1 : ¬ (65536 : Int) < (a : Int) := by omega
  have b2 : ¬ (65536 : Int) < (b : Int) := by omega
  have b3 : ¬ (a : Int) < 0 := by omega
  have b4 : ¬ (b : Int) < 0 := by omega
  have hz := zzBytes_EK s (a : Nat) (b : Nat) W (by unfold maxLen; omega)
  have Hz := Lib.hid hz
  clear hz
  go_enter Tryf.func6, Tryf.ntmps6
  go_wp2_with fail
  refine Hz.out.mono ?_
  rintro e w' ⟨b, rfl, rfl⟩
  cases b
  · go_wp2_with fail
    go_ret
    exact ⟨rfl, Below.refl _ _⟩
  go_wp2_with fail
  refine (znew_any hT (Below.refl _ _) s (by omega)).mono ?_
  rintro e w1 ⟨L, S, rfl, hS, H, hb1⟩
  go_wp2_with fail
  go_loopg [8] (a + 1) (fun g i wr => ∃ (j : Nat) (S1 : Nat → Prop) (t1 : St), i = .int .i64 j ∧ j ≤ a ∧ a < j + g ∧ Hid (∀ i, S1 i → W.heap.size ≤ i) ∧ Hid (Below W.heap.size W wr) ∧ Lx W S1 wr L s t1 ∧ Hid (t1 = nextN s j start))
  case atStart => exact ⟨0, S, start, rfl, by omega, by omega, Lib.hid hS, Lib.hid hb1, H, Lib.hid rfl⟩
  case round =>
    obtain ⟨j, S1, t1, rfl, hj, hg, hS1, hf, H1, heq⟩ := hrel
    by_cases hjk : (j : Int) < (a : Int)
    · go_wp2_with fail
      refine (znext_any H1).mono ?_
      rintro e w2 ⟨rfl, S2, hS2, H2, hf2⟩
      have hb2 := hf.out.trans (hf2.below hS1.out hf.out.size)
      have hS3 : ∀ i, S2 i → W.heap.size ≤ i := fun i hi => (hS2 i hi).elim (hS1.out i) (fun h => Nat.le_trans hf.out.size h)
      have Hb2 := Lib.hid hb2
      have HS3 := Lib.hid hS3
      have hn : next s t1 = nextN s (j + 1) start := by rw [nextN_snoc, heq.out]
      have Hn := Lib.hid hn
      clear hb2 hS3 hf2 hS2 hn
      go_wp2_with fail
      go_roundg (a - j)
      case measure => omega
      case rel => exact ⟨j + 1, S2, _, by go_num, by omega, by omega, HS3, Hb2, H2, Hn⟩
    · obtain rfl : j = a := by omega
      have hter : t1.err = none := by rw [heq.out]; exact (nextN_q s j start).2.1
      have hne := error_ne t1
      obtain ⟨⟨f, o⟩, hfo⟩ : ∃ p, (error t1).err = some p := Option.ne_none_iff_exists'.1 hne
      have Hter := Lib.hid hter
      have Hfo := Lib.hid hfo
      clear hter hne hfo
      go_wp2_with fail
      refine (zerr_first hF H1 Hter.out).mono ?_
      rintro e w2 ⟨rfl, S2, hS2, H2, hf2⟩
      have hb2 := hf.out.trans (hf2.below hS1.out hf.out.size)
      have hS3 : ∀ i, S2 i → W.heap.size ≤ i := fun i hi => (hS2 i hi).elim (hS1.out i) (fun h => Nat.le_trans hf.out.size h)
      have Hb2 := Lib.hid hb2
      have HS3 := Lib.hid hS3
      clear hb2 hS3 hf2 hS2
      go_wp2_with fail
      refine (zerrSet_some H2 Hfo.out).mono ?_
      rintro e w' ⟨rfl, rfl⟩
      go_wp2_with fail
      refine (zerrFrom_any H2 Hfo.out).mono ?_
      rintro e w' ⟨rfl, rfl⟩
      go_wp2_with fail
      refine (zerrTo_any H2 Hfo.out).mono ?_
      rintro e w' ⟨rfl, rfl⟩
      go_wp2_with fail
      go_loopg [11] (b + 1) (fun g i wr => ∃ (j : Nat) (S1 : Nat → Prop) (t2 : St), i = .int .i64 j ∧ j ≤ b ∧ b < j + g ∧ Hid (∀ i, S1 i → W.heap.size ≤ i) ∧ Hid (Below W.heap.size W wr) ∧ Lx W S1 wr L s t2 ∧ Hid (t2 = nextN s j (error t1)))
      case atStart => exact ⟨0, S2, _, rfl, by omega, by omega, HS3, Hb2, H2, Lib.hid rfl⟩
      case round =>
        obtain ⟨i, S4, t2, rfl, hi, hg2, hS4, hf4, H4, heq2⟩ := hrel
        by_cases hik : (i : Int) < (b : Int)
        · go_wp2_with fail
          refine (znext_any H4).mono ?_
          rintro e w4 ⟨rfl, S5, hS5, H5, hf5⟩
          have hb5 := hf4.out.trans (hf5.below hS4.out hf4.out.size)
          have hS6 : ∀ i, S5 i → W.heap.size ≤ i := fun i hi => (hS5 i hi).elim (hS4.out i) (fun h => Nat.le_trans hf4.out.size h)
          have Hb5 := Lib.hid hb5
          have HS6 := Lib.hid hS6
          have hn : next s t2 = nextN s (i + 1) (error t1) := by rw [nextN_snoc, heq2.out]
          have Hn := Lib.hid hn
          clear hb5 hS6 hf5 hS5 hn
          go_wp2_with fail
          go_roundg (b - i)
          case measure => omega
          case rel => exact ⟨i + 1, S5, _, by go_num, by omega, by omega, HS6, Hb5, H5, Hn⟩
        · have he2 : t2.err = some (f, o) := by rw [heq2.out, (nextN_q s i (error t1)).2.1]; exact Hfo.out
          have He2 := Lib.hid he2
          clear he2
          go_wp2_with fail
          refine (zendRune_any H4).mono ?_
          rintro e w' ⟨rfl, rfl⟩
          go_wp2_with fail
          refine (zendByte_any H4).mono ?_
          rintro e w' ⟨rfl, rfl⟩
          go_wp2_with fail
          refine (zeof_any H4).mono ?_
          rintro e w' ⟨rfl, rfl⟩
          go_wp2_with fail
          refine (zerr_again H4 He2.out _).mono ?_
          rintro e w' ⟨rfl, rfl⟩
          have r1 := zendRune_any H4
          have r2 := zendByte_any H4
          have r3 := zeof_any H4
          have R1 := Lib.hid r1
          have R2 := Lib.hid r2
          have R3 := Lib.hid r3
          clear r1 r2 r3
          go_wp2_with (first | (go_at_call 16; refine R1.out.mono ?_; rintro e w' ⟨rfl, rfl⟩) | (go_at_call 19; refine R2.out.mono ?_; rintro e w' ⟨rfl, rfl⟩) | (go_at_call 26; refine R3.out.mono ?_; rintro e w' ⟨rfl, rfl⟩))
          refine (errAt_any H4 He2.out).mono ?_
          rintro e w6 ⟨rfl, hb6⟩
          go_wp2_with fail
          go_ret
          exact ⟨rfl, hf4.out.trans (hb6.mono hf4.out.size)⟩

set_option maxHeartbeats 1000000 in
set_option maxRecDepth 100000 in
theorem EK_walk {W : World} (hT : Tabs W) (F : Stop.Interp) (hF : F.answers W.tape) (s : ByteArray) (k1 k2 : Int) (ws : s.size ≤ maxLen) (ha0 : -9223372036854775808 ≤ k1) (ha1 : k1 ≤ 9223372036854775807) (hb0 : -9223372036854775808 ≤ k2) (hb1 : k2 ≤ 9223372036854775807) :
    Calls Tryf.prog 6 #[.string s, .int .i64 k1, .int .i64 k2] W fun e w' => e = .returned (.bool true) ∧ Below W.heap.size W w' := by
  have hz := zzBytes_EK s k1 k2 W ws
  have Hz := Lib.hid hz
  clear hz
  by_cases c0 : (65536 : Int) < (s.size : Int)
  · go_enter Tryf.func6, Tryf.ntmps6
    go_wp2_with fail
    refine (Hz.out).mono ?_
    rintro e w' ⟨b, rfl, rfl⟩
    cases b
    · go_wp2_with fail
      go_ret
      exact ⟨rfl, Below.refl _ _⟩
    · go_wp2_with fail
      go_ret
      exact ⟨rfl, Below.refl _ _⟩
  by_cases c1 : k1 < 0
  · go_enter Tryf.func6, Tryf.ntmps6
    go_wp2_with fail
    refine (Hz.out).mono ?_
    rintro e w' ⟨b, rfl, rfl⟩
    cases b
    · go_wp2_with fail
      go_ret
      exact ⟨rfl, Below.refl _ _⟩
    · go_wp2_with fail
      go_ret
      exact ⟨rfl, Below.refl _ _⟩
  by_cases c2 : (65536 : Int) < k1
  · go_enter Tryf.func6, Tryf.ntmps6
    go_wp2_with fail
    refine (Hz.out).mono ?_
    rintro e w' ⟨b, rfl, rfl⟩
    cases b
    · go_wp2_with fail
      go_ret
      exact ⟨rfl, Below.refl _ _⟩
    · go_wp2_with fail
      go_ret
      exact ⟨rfl, Below.refl _ _⟩
  by_cases c3 : k2 < 0
  · go_enter Tryf.func6, Tryf.ntmps6
    go_wp2_with fail
    refine (Hz.out).mono ?_
    rintro e w' ⟨b, rfl, rfl⟩
    cases b
    · go_wp2_with fail
      go_ret
      exact ⟨rfl, Below.refl _ _⟩
    · go_wp2_with fail
      go_ret
      exact ⟨rfl, Below.refl _ _⟩
  by_cases c4 : (65536 : Int) < k2
  · go_enter Tryf.func6, Tryf.ntmps6
    go_wp2_with fail
    refine (Hz.out).mono ?_
    rintro e w' ⟨b, rfl, rfl⟩
    cases b
    · go_wp2_with fail
      go_ret
      exact ⟨rfl, Below.refl _ _⟩
    · go_wp2_with fail
      go_ret
      exact ⟨rfl, Below.refl _ _⟩
  obtain ⟨a, rfl⟩ : ∃ n : Nat, k1 = (n : Int) := ⟨k1.toNat, by omega⟩
  obtain ⟨b, rfl⟩ : ∃ n : Nat, k2 = (n : Int) := ⟨k2.toNat, by omega⟩
  exact EK_in hT F hF s a b (by omega) (by omega) (by omega)

end Go.Proofs.YtkdmfiioobgdaaaFmt
