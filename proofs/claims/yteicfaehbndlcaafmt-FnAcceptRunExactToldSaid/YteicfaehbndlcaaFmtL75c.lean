/-
  Walk of a law of n003_75: word is the source's slice.
-/
import Derived.Test.YteicfaehbndlcaaFmtPos75
import Derived.Deep.RegionHeld3
namespace Go.Proofs.YteicfaehbndlcaaFmt
open Go Go.Lib Go.RowKit Go.Proofs

theorem zzBytes_WIS (s : ByteArray) (a b : Int) (w : World) (ws : s.size ≤ maxLen) : Calls Tryf.prog 17 #[.string s, .int .i64 a, .int .i64 b] w fun e w' => e = .returned (.bool (decide (s.size ≤ 1048576))) ∧ w = w' := by
  unfold maxLen at ws
  by_cases h : s.size ≤ 1048576
  · have h1 : ¬ (1048576 : Int) < (s.size : Int) := by omega
    have hd : decide (s.size ≤ 1048576) = true := by simpa using h
    rw [hd]
    clear hd
    go_enter Tryf.func17, Tryf.ntmps17
    go_wp2_with fail
    go_ret
    exact ⟨rfl, rfl⟩
  · have h1 : (1048576 : Int) < (s.size : Int) := by omega
    have hd : decide (s.size ≤ 1048576) = false := by simpa using h
    rw [hd]
    clear hd
    go_enter Tryf.func17, Tryf.ntmps17
    go_wp2_with fail
    go_ret
    exact ⟨rfl, rfl⟩

set_option maxHeartbeats 2000000 in
set_option maxRecDepth 100000 in
theorem wordIsSourceSlice_in {W : World} (hT : Tabs W) (s : ByteArray) (a b : Nat) (hs : s.size ≤ 1048576) (ha : a ≤ s.size + 1) (hb : b ≤ s.size + 1) :
    Calls Tryf.prog 4 #[.string s, .int .i64 a, .int .i64 b] W fun e w' => e = .returned (.bool true) ∧ Below W.heap.size W w' := by
  have b1 : ¬ (1048576 : Int) < (s.size : Int) := by omega
  have b2 : ¬ (a : Int) < 0 := by omega
  have b3 : ¬ (b : Int) < 0 := by omega
  have b4 : ¬ (s.size : Int) + 1 < (a : Int) := by omega
  have b5 : ¬ (s.size : Int) + 1 < (b : Int) := by omega
  have Hz := Lib.hid (show decide (s.size ≤ 1048576) = true by simpa using hs)
  -- where the lexer stands behind a reads, and behind a + b
  obtain ⟨PA, hPA⟩ : ∃ x, (nextN s a start).eb = x := ⟨_, rfl⟩
  obtain ⟨RA, hRA⟩ : ∃ x, (nextN s a start).er = x := ⟨_, rfl⟩
  obtain ⟨PB, hPB⟩ : ∃ x, (nextN s (a + b) start).eb = x := ⟨_, rfl⟩
  obtain ⟨RB, hRB⟩ : ∃ x, (nextN s (a + b) start).er = x := ⟨_, rfl⟩
  have hle : PB ≤ s.size := by rw [← hPB]; exact nextN_le s _ start (Nat.zero_le _)
  have hcom : nextN s b (commit (nextN s a start)) = { nextN s (a + b) start with sb := PA, sr := RA } := by
    show nextN s b { nextN s a start with sb := (nextN s a start).eb, sr := (nextN s a start).er } = _
    rw [nextN_place s _ _ b (nextN s a start), hPA, hRA, nextN_add]
  have HA := Lib.hid hPA
  have HRA := Lib.hid hRA
  have HPB := Lib.hid hPB
  have HRB := Lib.hid hRB
  have Hc := Lib.hid hcom
  clear hPA hRA hPB hRB hcom
  go_enter Tryf.func4, Tryf.ntmps4
  go_wp2_with fail
  refine (zzBytes_WIS s a b W (by unfold maxLen; omega)).mono ?_
  rintro e w' ⟨rfl, rfl⟩
  rw [Hz.out]
  go_wp2_with fail
  refine (zzAt_any hT (Below.refl _ _) s a hs (by omega)).mono ?_
  rintro e w1 ⟨L, S, rfl, hS, H, hb1⟩
  rw [Int.toNat_natCast] at H
  go_wp2_with fail
  refine (zcommit_any H).mono ?_
  rintro e w2 ⟨rfl, S2, hS2, H2, hf2⟩
  have hb2 : Below W.heap.size W w2 := hb1.trans (hf2.below hS hb1.size)
  have hold2 : ∀ k, S2 k → W.heap.size ≤ k := fun k hk => (hS2 k hk).elim (hS k) (fun h => Nat.le_trans hb1.size h)
  clear H hf2 hS2 hS hb1
  go_wp2_with fail
  go_loopg [8] (b + 1) (fun g i wr => ∃ (j : Nat) (S1 : Nat → Prop) (t1 : St), i = .int .i64 (j : Nat) ∧ j ≤ b ∧ b < j + g ∧ (∀ k, S1 k → W.heap.size ≤ k) ∧ Below W.heap.size W wr ∧ Lx W S1 wr L s t1 ∧ Hid (nextN s (b - j) t1 = nextN s b (commit (nextN s a start))))
  case atStart => exact ⟨0, S2, _, rfl, by omega, by omega, hold2, hb2, H2, Lib.hid rfl⟩
  case round =>
    obtain ⟨j, S1, t1, rfl, hj, hg, hold, hbw, H1, heq⟩ := hrel
    by_cases hjk : (j : Int) < (b : Int)
    · go_wp2_with fail
      refine (znext_any H1).mono ?_
      rintro e w3 ⟨rfl, S3, hS3, H3, hf3⟩
      go_wp2_with fail
      go_roundg (b - j)
      case measure => omega
      case rel =>
        refine ⟨j + 1, S3, _, by go_num, by omega, by omega, fun k hk => (hS3 k hk).elim (hold k) (fun h => Nat.le_trans hbw.size h), hbw.trans (hf3.below hold hbw.size), H3, Lib.hid ?_⟩
        rw [← heq.out]
        have : b - j = (b - (j + 1)) + 1 := by omega
        rw [this]
        rfl
    · have ht : t1 = { nextN s (a + b) start with sb := PA, sr := RA } := by
        rw [← Hc.out, ← heq.out, show b - j = 0 by omega]
        rfl
      have e1 : t1.sb = PA := by rw [ht]
      have e2 : t1.sr = RA := by rw [ht]
      have e3 : t1.eb = PB := by rw [ht]; exact HPB.out
      have e4 : t1.er = RB := by rw [ht]; exact HRB.out
      have e5 : word s t1 = s.extract PA PB := by unfold word; rw [e1, e3]
      have hpab : PA ≤ PB := by rw [← e1, ← e3]; exact H1.poss.1
      have q1 : (0 : Int) ≤ (PA : Int) := by omega
      have q2 : (PA : Int) ≤ (PB : Int) := by omega
      have q3 : (PB : Int) ≤ (s.size : Int) := by omega
      have hle1 : t1.eb ≤ s.size := by rw [e3]; exact hle
      have E1 := Lib.hid e1
      have E2 := Lib.hid e2
      have E3 := Lib.hid e3
      have E4 := Lib.hid e4
      have E5 := Lib.hid e5
      clear e1 e2 e3 e4 e5 ht heq
      go_wp2_with fail
      refine (zzPos_any s a wr hs (by omega)).mono ?_
      rintro e w4 ⟨rfl, xs4, d4, rfl⟩
      rw [HA.out, HRA.out]
      go_wp2_with fail
      rw [show (a : Int) + (b : Int) = ((a + b : Nat) : Int) by simp]
      refine (zzPos_any s (a + b) _ hs (by omega)).mono ?_
      rintro e w5 ⟨rfl, xs5, d5, rfl⟩
      rw [HPB.out, HRB.out]
      have H5 : Lx W S1 (grow (grow wr xs4 d4) xs5 d5) L s t1 := H1.keep (by repeat (first | exact Below.refl _ _ | apply below_drew | apply below_drewN | apply below_alloc | apply below_grow))
      have hb5 : Below W.heap.size W (grow (grow wr xs4 d4) xs5 d5) := below_grow (below_grow hbw)
      obtain ⟨w6, hw6⟩ : ∃ w6, w6 = grow (grow wr xs4 d4) xs5 d5 := ⟨_, rfl⟩
      rw [← hw6] at H5 hb5 ⊢
      clear hw6 H1 hbw
      go_wp2_with fail
      go_region_held3 (fun w' => Lx W S1 w' L s t1) (first | assumption | exact Lx.keep (by assumption) (by repeat (first | exact Below.refl _ _ | apply below_drew | apply below_drewN | apply below_alloc | apply below_grow)))
        (first
          | (go_at_call 16; refine (zword_any (by assumption) hle1).mono ?_; rintro e w' ⟨rfl, xs, d, rfl⟩; rw [E5.out])
          | (go_at_call 14; refine (zstartByte_any (by assumption)).mono ?_; rintro e w' ⟨rfl, rfl⟩; rw [E1.out])
          | (go_at_call 15; refine (zstartRune_any (by assumption)).mono ?_; rintro e w' ⟨rfl, rfl⟩; rw [E2.out])
          | (go_at_call 12; refine (zendByte_any (by assumption)).mono ?_; rintro e w' ⟨rfl, rfl⟩; rw [E3.out])
          | (go_at_call 13; refine (zendRune_any (by assumption)).mono ?_; rintro e w' ⟨rfl, rfl⟩; rw [E4.out]))
      go_wp2_with fail
      go_ret
      exact ⟨rfl, by repeat (first | exact hb5 | apply below_drew | apply below_drewN | apply below_alloc | apply below_grow)⟩

set_option maxHeartbeats 1000000 in
set_option maxRecDepth 100000 in
theorem wordIsSourceSlice_walk {W : World} (hT : Tabs W) (F : Stop.Interp) (_ : F.answers W.tape) (s : ByteArray) (a b : Int) (ws : s.size ≤ maxLen) (ha0 : -9223372036854775808 ≤ a) (ha1 : a ≤ 9223372036854775807) (hb0 : -9223372036854775808 ≤ b) (hb1 : b ≤ 9223372036854775807) :
    Calls Tryf.prog 4 #[.string s, .int .i64 a, .int .i64 b] W fun e w' => e = .returned (.bool true) ∧ Below W.heap.size W w' := by
  by_cases hin : s.size ≤ 1048576 ∧ (0 ≤ a ∧ a ≤ s.size + 1) ∧ 0 ≤ b ∧ b ≤ s.size + 1
  · obtain ⟨h1, ⟨h2, h3⟩, h4, h5⟩ := hin
    obtain ⟨a, rfl⟩ := Int.eq_ofNat_of_zero_le h2
    obtain ⟨b, rfl⟩ := Int.eq_ofNat_of_zero_le h4
    exact wordIsSourceSlice_in hT s a b h1 (by omega) (by omega)
  · have hz := zzBytes_WIS s a b W ws
    by_cases c0 : s.size ≤ 1048576
    · have e : decide (s.size ≤ 1048576) = true := by simpa using c0
      rw [e] at hz
      clear e
      have c0' : ¬ (1048576 : Int) < (s.size : Int) := by omega
      have Hz := Lib.hid hz
      clear hz
      by_cases c1 : a < 0
      · clear hin
        go_enter Tryf.func4, Tryf.ntmps4
        go_wp2_with fail
        refine Hz.out.mono ?_
        rintro e w' ⟨rfl, rfl⟩
        go_wp2_with fail
        go_ret
        exact ⟨rfl, Below.refl _ _⟩
      · by_cases c2 : b < 0
        · clear hin
          go_enter Tryf.func4, Tryf.ntmps4
          go_wp2_with fail
          refine Hz.out.mono ?_
          rintro e w' ⟨rfl, rfl⟩
          go_wp2_with fail
          go_ret
          exact ⟨rfl, Below.refl _ _⟩
        · by_cases c3 : (s.size : Int) + 1 < a
          · clear hin
            go_enter Tryf.func4, Tryf.ntmps4
            go_wp2_with fail
            refine Hz.out.mono ?_
            rintro e w' ⟨rfl, rfl⟩
            go_wp2_with fail
            go_ret
            exact ⟨rfl, Below.refl _ _⟩
          · have c4 : (s.size : Int) + 1 < b := by omega
            clear hin
            go_enter Tryf.func4, Tryf.ntmps4
            go_wp2_with fail
            refine Hz.out.mono ?_
            rintro e w' ⟨rfl, rfl⟩
            go_wp2_with fail
            go_ret
            exact ⟨rfl, Below.refl _ _⟩
    · have e : decide (s.size ≤ 1048576) = false := by simpa using c0
      rw [e] at hz
      clear e
      have Hz := Lib.hid hz
      clear hz hin c0
      go_enter Tryf.func4, Tryf.ntmps4
      go_wp2_with fail
      refine Hz.out.mono ?_
      rintro e w' ⟨rfl, rfl⟩
      go_wp2_with fail
      go_ret
      exact ⟨rfl, Below.refl _ _⟩

end Go.Proofs.YteicfaehbndlcaaFmt
