/-
  Walk of a law of n003_66: emitEOF.
-/
import Derived.Test.YtoopnllpocioiaaGreatFmtZ66c
import Derived.Test.YtoopnllpocioiaaGreatFmtTabs
namespace Go.Proofs.YtoopnllpocioiaaGreatFmt
open Go Go.Lib Go.RowKit Go.Proofs

theorem zzBytes_EOFE (s : ByteArray) (c i : Int) (w : World) (ws : s.size ≤ maxLen) : Calls Tryz.prog 20 #[.string s, .int .i64 c, .int .i64 i] w (SaysBool w) := by
  unfold maxLen at ws
  by_cases h : (1048576 : Int) < (s.size : Int)
  · go_enter Tryz.func20, Tryz.ntmps20
    go_wp2_with fail
    go_ret
    exact ⟨_, rfl, rfl⟩
  · go_enter Tryz.func20, Tryz.ntmps20
    go_wp2_with fail
    go_ret
    exact ⟨_, rfl, rfl⟩

set_option maxHeartbeats 2000000 in
set_option maxRecDepth 100000 in
theorem emitEOFExact_in {W : World} (hT : Tabs W) (s : ByteArray) (c i : Nat) (hs : s.size ≤ 65536) (hci : c ≤ i) (hi : i ≤ 65536) :
    Calls Tryz.prog 4 #[.string s, .int .i64 c, .int .i64 i] W fun e w' => e = .returned (.bool true) ∧ Below W.heap.size W w' := by
  have b1 : ¬ (65536 : Int) < (s.size : Int) := by omega
  have b2 : ¬ (c : Int) < 0 := by omega
  have b3 : ¬ (i : Int) < (c : Int) := by omega
  have b4 : ¬ (65536 : Int) < (i : Int) := by omega
  have hrs := runes_le s
  have hcn := cnts_le s i
  go_enter Tryz.func4, Tryz.ntmps4
  go_wp2_with fail
  refine (zzBytes_EOFE s c i W (by unfold maxLen; omega)).mono ?_
  rintro e w' ⟨b, rfl, rfl⟩
  cases b
  · go_wp2_with fail
    go_ret
    exact ⟨rfl, Below.refl _ _⟩
  go_wp2_with fail
  refine (runeCount_any s _ (by omega)).mono ?_
  rintro e w1 ⟨rfl, hb1⟩
  go_wp2_with fail
  refine (minCnt_any s i _).mono ?_
  rintro e w' ⟨rfl, rfl⟩
  obtain ⟨f, hf⟩ : ∃ f : Nat, cnts s i - 1 = f := ⟨_, rfl⟩
  by_cases hz : (cnts s i : Int) - 1 < 0
  · obtain rfl : f = 0 := by omega
    go_wp2_with fail
    refine (freshLexer_any hT hb1 s (by omega)).mono ?_
    rintro e w2 ⟨L, S, rfl, H, hS0, hb2⟩
    go_wp2_with fail
    refine (advance_int H _ c (by omega) (by omega) (by omega)).mono ?_
    rintro e w3 ⟨rfl, S3, hS3, H3, hf3⟩
    go_wp2_with fail
    refine (zskip_any H3).mono ?_
    rintro e w4 ⟨rfl, S4, hS4, H4, hf4⟩
    go_wp2_with fail
    refine (advance_int H4 _ i (by omega) (by omega) (by omega)).mono ?_
    rintro e w5 ⟨rfl, S5, hS5, H5, hf5⟩
    go_wp2_with fail
    refine (zemitEOF_any H5 (by simp)).mono ?_
    rintro e w6 ⟨rfl, S6, hS6, H6, hf6⟩
    rw [hf] at H6
    go_wp2_with fail
    refine (zqueued_any H6).mono ?_
    rintro e w' ⟨rfl, rfl⟩
    go_wp2_with fail
    refine (zNext_any H6).mono ?_
    rintro e w7 ⟨rfl, S7, hS7, H7, hf7⟩
    unfold tokVal kEOF
    go_wp2_with fail
    refine (zqueued_any (H7.keep (by repeat (first | exact Below.refl _ _ | apply below_drew | apply below_drewN | apply below_alloc | apply below_grow)))).mono ?_
    rintro e w' ⟨rfl, rfl⟩
    go_wp2_with fail
    go_ret
    exact ⟨rfl, H7.low.trans (Below.mono (by repeat (first | exact Below.refl _ _ | apply below_drew | apply below_drewN | apply below_alloc | apply below_grow)) H7.low.size)⟩
  · have hfe : (f : Int) = (cnts s i : Int) - 1 := by omega
    have hfe2 : (((cnts s i - 1 : Nat) : Int)) = (cnts s i : Int) - 1 := by omega
    obtain ⟨y, hy⟩ : ∃ y : Int, y = (cnts s i : Int) - 1 := ⟨_, rfl⟩
    go_wp2_with fail
    refine (freshLexer_any hT hb1 s (by omega)).mono ?_
    rintro e w2 ⟨L, S, rfl, H, hS0, hb2⟩
    go_wp2_with fail
    refine (advance_int H _ c (by omega) (by omega) (by omega)).mono ?_
    rintro e w3 ⟨rfl, S3, hS3, H3, hf3⟩
    go_wp2_with fail
    refine (zskip_any H3).mono ?_
    rintro e w4 ⟨rfl, S4, hS4, H4, hf4⟩
    go_wp2_with fail
    refine (advance_int H4 _ i (by omega) (by omega) (by omega)).mono ?_
    rintro e w5 ⟨rfl, S5, hS5, H5, hf5⟩
    go_wp2_with fail
    refine (zemitEOF_any H5 (by simp)).mono ?_
    rintro e w6 ⟨rfl, S6, hS6, H6, hf6⟩
    rw [hfe2] at H6
    go_wp2_with fail
    refine (zqueued_any H6).mono ?_
    rintro e w' ⟨rfl, rfl⟩
    go_wp2_with fail
    refine (zNext_any H6).mono ?_
    rintro e w7 ⟨rfl, S7, hS7, H7, hf7⟩
    unfold tokVal kEOF
    go_wp2_with fail
    refine (zqueued_any (H7.keep (by repeat (first | exact Below.refl _ _ | apply below_drew | apply below_drewN | apply below_alloc | apply below_grow)))).mono ?_
    rintro e w' ⟨rfl, rfl⟩
    go_wp2_with fail
    go_ret
    exact ⟨rfl, H7.low.trans (Below.mono (by repeat (first | exact Below.refl _ _ | apply below_drew | apply below_drewN | apply below_alloc | apply below_grow)) H7.low.size)⟩

set_option maxHeartbeats 4000000 in
set_option maxRecDepth 100000 in
theorem EOFE_walk {W : World} (hT : Tabs W) (F : Stop.Interp) (_hF : F.answers W.tape) (s : ByteArray) (c i : Int) (ws : s.size ≤ maxLen) (lc : -9223372036854775808 ≤ c) (uc : c ≤ 9223372036854775807) (li : -9223372036854775808 ≤ i) (ui : i ≤ 9223372036854775807) :
    Calls Tryz.prog 4 #[.string s, .int .i64 c, .int .i64 i] W fun e w' => e = .returned (.bool true) ∧ Below W.heap.size W w' := by
  by_cases gs : (65536 : Int) < (s.size : Int)
  · go_enter Tryz.func4, Tryz.ntmps4
    go_wp2_with fail
    refine (zzBytes_EOFE s c i W ws).mono ?_
    rintro e w' ⟨b, rfl, rfl⟩
    cases b
    · go_wp2_with fail
      go_ret
      exact ⟨rfl, Below.refl _ _⟩
    · go_wp2_with fail
      go_ret
      exact ⟨rfl, Below.refl _ _⟩
  by_cases vi : c < 0
  · go_enter Tryz.func4, Tryz.ntmps4
    go_wp2_with fail
    refine (zzBytes_EOFE s c i W ws).mono ?_
    rintro e w' ⟨b, rfl, rfl⟩
    cases b
    · go_wp2_with fail
      go_ret
      exact ⟨rfl, Below.refl _ _⟩
    · go_wp2_with fail
      go_ret
      exact ⟨rfl, Below.refl _ _⟩
  by_cases vj : i < c
  · go_enter Tryz.func4, Tryz.ntmps4
    go_wp2_with fail
    refine (zzBytes_EOFE s c i W ws).mono ?_
    rintro e w' ⟨b, rfl, rfl⟩
    cases b
    · go_wp2_with fail
      go_ret
      exact ⟨rfl, Below.refl _ _⟩
    · go_wp2_with fail
      go_ret
      exact ⟨rfl, Below.refl _ _⟩
  by_cases vz : 65536 < i
  · go_enter Tryz.func4, Tryz.ntmps4
    go_wp2_with fail
    refine (zzBytes_EOFE s c i W ws).mono ?_
    rintro e w' ⟨b, rfl, rfl⟩
    cases b
    · go_wp2_with fail
      go_ret
      exact ⟨rfl, Below.refl _ _⟩
    · go_wp2_with fail
      go_ret
      exact ⟨rfl, Below.refl _ _⟩
  obtain ⟨c, rfl⟩ := Int.eq_ofNat_of_zero_le (show 0 ≤ c by omega)
  obtain ⟨i, rfl⟩ := Int.eq_ofNat_of_zero_le (show 0 ≤ i by omega)
  exact emitEOFExact_in hT s c i (by omega) (by omega) (by omega)

end Go.Proofs.YtoopnllpocioiaaGreatFmt
