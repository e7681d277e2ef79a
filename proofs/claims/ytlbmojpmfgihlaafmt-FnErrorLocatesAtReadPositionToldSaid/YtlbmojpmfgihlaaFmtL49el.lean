/-
  Walk of a law of n003_49: where an error is put.
-/
import Derived.Test.YtlbmojpmfgihlaaFmtZ49e
import Derived.Test.YtlbmojpmfgihlaaFmtZ49d
namespace Go.Proofs.YtlbmojpmfgihlaaFmt
open Go Go.Lib Go.RowKit Go.Proofs
open Go.Extern.Stop Go.Stop Go.Extern

def SaysB (w : World) (e : Ending) (w' : World) : Prop := ∃ b, e = .returned (.bool b) ∧ w = w'

set_option maxRecDepth 100000 in
theorem zzBytes_EL (c : ByteArray) (k1 : Int) (w : World) (wc : c.size ≤ maxLen) : Calls Tryf.prog 16 #[.string c, .int .i64 k1] w (SaysB w) := by
  unfold maxLen at wc
  by_cases z0 : (1048576 : Int) < (c.size : Int)
  · go_enter Tryf.func16, Tryf.ntmps16
    go_wp2_with fail
    go_ret
    exact ⟨_, rfl, rfl⟩
  · go_enter Tryf.func16, Tryf.ntmps16
    go_wp2_with fail
    go_ret
    exact ⟨_, rfl, rfl⟩

theorem error_stands (t : St) : (error t).er = t.er ∧ (error t).eb = t.eb := by
  unfold error
  split
  · exact ⟨rfl, rfl⟩
  · split <;> exact ⟨rfl, rfl⟩
theorem bd_offs (s : ByteArray) : ∀ k, Bd s (offs s k) (cnts s k)
  | 0 => .zero
  | k + 1 => by
    have ih := bd_offs s k
    unfold offs cnts at ih ⊢
    rw [nextN_snoc]
    by_cases h : (nextN s k start).eb < s.size
    · rw [next_in h]
      exact .step ih h
    · rw [next_end h]
      exact ih
theorem cnt_runes {s : ByteArray} {n : Nat} (h : Bd s s.size n) : n = runes s := by
  have h1 := bd_offs s (runes s)
  rw [offs_runes, cnts_min, Nat.min_self] at h1
  exact Bd.cnt_inj h h1

set_option maxHeartbeats 4000000 in
set_option maxRecDepth 100000 in
theorem EL_in {W : World} (hT : Tabs W) (F : Stop.Interp) (hF : F.answers W.tape) (s : ByteArray) (a : Nat) (hs : s.size ≤ 65536) (ha : a ≤ 65536) :
    Calls Tryf.prog 5 #[.string s, .int .i64 (a : Nat)] W fun e w' => e = .returned (.bool true) ∧ Below W.heap.size W w' := by
  have b0 : ¬ (65536 : Int) < (s.size : Int) := by omega
  have b1 : ¬ (65536 : Int) < (a : Int) := by omega
  have b3 : ¬ (a : Int) < 0 := by omega
  have hz := zzBytes_EL s (a : Nat) W (by unfold maxLen; omega)
  have Hz := Lib.hid hz
  clear hz
  go_enter Tryf.func5, Tryf.ntmps5
  go_wp2_with fail
  refine Hz.out.mono ?_
  rintro e w' ⟨b, rfl, rfl⟩
  cases b
  · go_wp2_with fail
    go_ret
    exact ⟨rfl, Below.refl _ _⟩
  go_wp2_with fail
  refine (b5Decode_any s (by omega) W).mono ?_
  rintro e w0 ⟨vr, vo, rs, l, rfl, hor, hoo, hrl, hpl, hb0⟩
  have hN : rs.length = runes s := by
    have h := hpl l.length (by simp)
    rw [hrl]
    apply cnt_runes
    simpa using h
  have hshape : ∃ x c, vr = .slice x rs.length c := by
    obtain ⟨_, ⟨rfl, h⟩ | ⟨g, cap, cur, rfl, _⟩⟩ := hor
    · exact ⟨none, 0, by rw [h]⟩
    · exact ⟨_, cap, rfl⟩
  obtain ⟨x, c, rfl⟩ := hshape
  obtain ⟨N, hNN⟩ : ∃ N, rs.length = N := ⟨_, rfl⟩
  rw [hNN] at hN ⊢
  have hNs : N ≤ 65536 := by have := runes_le s; omega
  have HN := Lib.hid hN
  have Hb0 := Lib.hid hb0
  clear hor hoo hrl hpl hN hNN hb0
  go_wp2_with fail
  refine (znew_any hT Hb0.out s (by omega)).mono ?_
  rintro e w1 ⟨L, S, rfl, hS, H, hb1⟩
  have hbw1 : Below W.heap.size W w1 := Hb0.out.trans (hb1.mono Hb0.out.size)
  have hSw : ∀ k, S k → W.heap.size ≤ k := fun k hk => Nat.le_trans Hb0.out.size (hS k hk)
  have Hbw1 := Lib.hid hbw1
  have HSw := Lib.hid hSw
  clear hb1 hS hbw1 hSw
  go_wp2_with fail
  go_loopg [9] (a + 1) (fun g i wr => ∃ (j : Nat) (S1 : Nat → Prop) (t1 : St), i = .int .i64 j ∧ j ≤ a ∧ a < j + g ∧ Hid (∀ i, S1 i → W.heap.size ≤ i) ∧ Hid (Below W.heap.size W wr) ∧ Lx W S1 wr L s t1 ∧ Hid (t1 = nextN s j start))
  case atStart => exact ⟨0, S, start, rfl, by omega, by omega, HSw, Hbw1, H, Lib.hid rfl⟩
  case round =>
    obtain ⟨j, S1, t1, rfl, hj, hg, hS1, hf, H1, heq⟩ := hrel
    by_cases hjk : (j : Int) < (a : Int)
    · go_wp2_with fail
      refine (znext_any H1).mono ?_
      rintro e w2 ⟨rfl, S2, hS2, H2, hf2⟩
      have hb2 := hf.out.trans (hf2.below hS1.out hf.out.size)
      have hS3 : ∀ i, S2 i → W.heap.size ≤ i := fun i hi => (hS2 i hi).elim (hS1.out i) (fun h => Nat.le_trans hf.out.size h)
      have Hb2 := Lib.hid hb2
      have HS3 := Lib.hid hS3
      have hn : next s t1 = nextN s (j + 1) start := by rw [nextN_snoc, heq.out]
      have Hn := Lib.hid hn
      clear hb2 hS3 hf2 hS2 hn
      go_wp2_with fail
      go_roundg (a - j)
      case measure => omega
      case rel => exact ⟨j + 1, S2, _, by go_num, by omega, by omega, HS3, Hb2, H2, Hn⟩
    · obtain rfl : j = a := by omega
      have hplace := err_place s j
      rw [← heq.out] at hplace
      have her := (error_stands t1).1
      have heb := (error_stands t1).2
      have Hplace := Lib.hid hplace
      have Her := Lib.hid her
      have Heb := Lib.hid heb
      clear hplace her heb
      go_wp2_with fail
      refine (zendRune_any H1).mono ?_
      rintro e w' ⟨rfl, rfl⟩
      go_wp2_with fail
      refine (zendByte_any H1).mono ?_
      rintro e w' ⟨rfl, rfl⟩
      go_wp2_with fail
      refine (zerr_esc hF H1).mono ?_
      rintro e w2 ⟨rfl, S2, hS2, H2, hf2⟩
      have hb2 := hf.out.trans (hf2.below hS1.out hf.out.size)
      have Hb2 := Lib.hid hb2
      have r1 := zendRune_any H2
      have r2 := zendByte_any H2
      rw [Her.out] at r1
      rw [Heb.out] at r2
      have R1 := Lib.hid r1
      have R2 := Lib.hid r2
      clear hb2 hf2 hS2 r1 r2
      by_cases hkN : j ≤ N
      · have k0 : (j : Int) ≤ (N : Int) := by omega
        have he : (error t1).err = some ((j : Int) - 1, (j : Int)) := by rw [Hplace.out, if_pos (by rw [← HN.out]; exact hkN)]
        have ha := fun w (H : Lx W S2 w L s (error t1)) => errAt_any H he
        have wr1 : IntKind.i64.wrap ((j : Int) - 1) = (j : Int) - 1 := by rw [IntKind.wrap_i64]; omega
        have Ha := Lib.hid ha
        clear ha he
        go_wp2_with (first | (go_at_call 15; refine R1.out.mono ?_; rintro e w' ⟨rfl, rfl⟩) | (go_at_call 18; refine R2.out.mono ?_; rintro e w' ⟨rfl, rfl⟩))
        refine (Ha.out _ H2).mono ?_
        rintro e w6 ⟨rfl, hb6⟩
        go_wp2_with fail
        go_ret
        exact ⟨rfl, Hb2.out.trans (hb6.mono Hb2.out.size)⟩
      · have k0 : ¬ (j : Int) ≤ (N : Int) := by omega
        have he : (error t1).err = some ((N : Int), (N : Int) + 1) := by rw [Hplace.out, if_neg (by rw [← HN.out]; exact hkN), HN.out]
        have ha := fun w (H : Lx W S2 w L s (error t1)) => errAt_any H he
        have Ha := Lib.hid ha
        clear ha he
        go_wp2_with (first | (go_at_call 15; refine R1.out.mono ?_; rintro e w' ⟨rfl, rfl⟩) | (go_at_call 18; refine R2.out.mono ?_; rintro e w' ⟨rfl, rfl⟩))
        refine (Ha.out _ H2).mono ?_
        rintro e w6 ⟨rfl, hb6⟩
        go_wp2_with fail
        go_ret
        exact ⟨rfl, Hb2.out.trans (hb6.mono Hb2.out.size)⟩

set_option maxHeartbeats 1000000 in
set_option maxRecDepth 100000 in
theorem EL_walk {W : World} (hT : Tabs W) (F : Stop.Interp) (hF : F.answers W.tape) (s : ByteArray) (k1 : Int) (ws : s.size ≤ maxLen) (ha0 : -9223372036854775808 ≤ k1) (ha1 : k1 ≤ 9223372036854775807) :
    Calls Tryf.prog 5 #[.string s, .int .i64 k1] W fun e w' => e = .returned (.bool true) ∧ Below W.heap.size W w' := by
  have hz := zzBytes_EL s k1 W ws
  have Hz := Lib.hid hz
  clear hz
  by_cases c0 : (65536 : Int) < (s.size : Int)
  · go_enter Tryf.func5, Tryf.ntmps5
    go_wp2_with fail
    refine (Hz.out).mono ?_
    rintro e w' ⟨b, rfl, rfl⟩
    cases b
    · go_wp2_with fail
      go_ret
      exact ⟨rfl, Below.refl _ _⟩
    · go_wp2_with fail
      go_ret
      exact ⟨rfl, Below.refl _ _⟩
  by_cases c1 : k1 < 0
  · go_enter Tryf.func5, Tryf.ntmps5
    go_wp2_with fail
    refine (Hz.out).mono ?_
    rintro e w' ⟨b, rfl, rfl⟩
    cases b
    · go_wp2_with fail
      go_ret
      exact ⟨rfl, Below.refl _ _⟩
    · go_wp2_with fail
      go_ret
      exact ⟨rfl, Below.refl _ _⟩
  by_cases c2 : (65536 : Int) < k1
  · go_enter Tryf.func5, Tryf.ntmps5
    go_wp2_with fail
    refine (Hz.out).mono ?_
    rintro e w' ⟨b, rfl, rfl⟩
    cases b
    · go_wp2_with fail
      go_ret
      exact ⟨rfl, Below.refl _ _⟩
    · go_wp2_with fail
      go_ret
      exact ⟨rfl, Below.refl _ _⟩
  obtain ⟨a, rfl⟩ : ∃ n : Nat, k1 = (n : Int) := ⟨k1.toNat, by omega⟩
  exact EL_in hT F hF s a (by omega) (by omega)

end Go.Proofs.YtlbmojpmfgihlaaFmt
