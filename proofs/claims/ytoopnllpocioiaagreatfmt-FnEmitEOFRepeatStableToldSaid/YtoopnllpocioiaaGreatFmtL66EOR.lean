/-
  Walk of a law of n003_66: FnEmitEOFRepeatStable.
-/
import Derived.Test.YtoopnllpocioiaaGreatFmtZ66c
import Derived.Test.YtoopnllpocioiaaGreatFmtTabs
namespace Go.Proofs.YtoopnllpocioiaaGreatFmt
open Go Go.Lib Go.RowKit Go.Proofs

set_option maxRecDepth 100000 in
theorem zzBytes_EOR (s : ByteArray) (k : ByteArray) (i : Int) (w : World) (ws : s.size ≤ maxLen) (wk : k.size ≤ maxLen) : Calls Tryz.prog 29 #[.string s, .string k, .int .i64 i] w (SaysBool w) := by
  unfold maxLen at ws wk
  by_cases z0 : (1048576 : Int) < (s.size : Int)
  · go_enter Tryz.func29, Tryz.ntmps29
    go_wp2_with fail
    go_ret
    exact ⟨_, rfl, rfl⟩
  by_cases z1 : (1048576 : Int) < (k.size : Int)
  · go_enter Tryz.func29, Tryz.ntmps29
    go_wp2_with fail
    go_ret
    exact ⟨_, rfl, rfl⟩
  have zw1 : IntKind.i64.wrap ((s.size : Int) + (k.size : Int)) = (s.size : Int) + (k.size : Int) := by rw [IntKind.wrap_i64]; omega
  by_cases y1 : (1048576 : Int) < (s.size : Int) + (k.size : Int)
  · go_enter Tryz.func29, Tryz.ntmps29
    go_wp2_with fail
    go_ret
    exact ⟨_, rfl, rfl⟩
  go_enter Tryz.func29, Tryz.ntmps29
  go_wp2_with fail
  go_ret
  exact ⟨_, rfl, rfl⟩

set_option maxHeartbeats 4000000 in
set_option maxRecDepth 100000 in
theorem EOR_in {W : World} (hT : Tabs W) (s : ByteArray) (k : ByteArray) (i : Nat) (hs : s.size ≤ 65536) (hk : k.size ≤ 65536) (hz : i ≤ 65536) :
    Calls Tryz.prog 9 #[.string s, .string k, .int .i64 i] W fun e w' => e = .returned (.bool true) ∧ Below W.heap.size W w' := by
  have bs : ¬ (65536 : Int) < (s.size : Int) := by omega
  have bk : ¬ (65536 : Int) < (k.size : Int) := by omega
  have bw1 : IntKind.i64.wrap ((s.size : Int) + (k.size : Int)) = (s.size : Int) + (k.size : Int) := by rw [IntKind.wrap_i64]; omega
  have bsum : ¬ (1048576 : Int) < (s.size : Int) + (k.size : Int) := by omega
  have ci : ¬ (i : Int) < 0 := by omega
  have cz : ¬ (65536 : Int) < (i : Int) := by omega
  have hrs := runes_le s
  have o0 : offs s 0 = 0 := rfl
  have n0 : cnts s 0 = 0 := rfl
  have hcni := cnts_le s i
  have hofi := offs_le s i
  have i0i : (0 : Int) ≤ (offs s i : Int) := by omega
  have i1i : (offs s i : Int) ≤ (s.size : Int) := by omega
  go_enter Tryz.func9, Tryz.ntmps9
  go_wp2_with fail
  refine (zzBytes_EOR s k i W (by unfold maxLen; omega) (by unfold maxLen; omega)).mono ?_
  rintro e w' ⟨b, rfl, rfl⟩
  cases b
  · go_wp2_with fail
    go_ret
    exact ⟨rfl, Below.refl _ _⟩
  go_wp2_with fail
  refine (freshLexer_any hT (Below.refl _ _) s (by omega)).mono ?_
  rintro e w1 ⟨L, S1, rfl, H1, hS1, hb1⟩
  go_wp2_with fail
  refine (advance_int H1 _ i (by omega) (by omega) (by omega)).mono ?_
  rintro e w2 ⟨rfl, S2, hS2, H2, hf2⟩
  go_wp2_with fail
  refine (zemitEOF_any H2 (by simp)).mono ?_
  rintro e w3 ⟨rfl, S3, hS3, H3, hf3⟩
  go_wp2_with fail
  refine (zemitEOF_any H3 (by simp)).mono ?_
  rintro e w4 ⟨rfl, S4, hS4, H4, hf4⟩
  go_wp2_with fail
  refine (zemit_any H4 (by simp) k).mono ?_
  rintro e w5 ⟨rfl, S5, hS5, H5, hf5⟩
  go_wp2_with fail
  refine (zqueued_any H5).mono ?_
  rintro e w' ⟨rfl, rfl⟩
  go_wp2_with fail
  refine (zNext_any H5).mono ?_
  rintro e w6 ⟨rfl, S6, hS6, H6, hf6⟩
  unfold tokVal
  unfold kEOF
  go_wp2_with fail
  refine (zNext_any (H6.keep (by repeat (first | exact Below.refl _ _ | apply below_drew | apply below_drewN | apply below_alloc | apply below_grow)))).mono ?_
  rintro e w7 ⟨rfl, S7, hS7, H7, hf7⟩
  have B0_7 := Beside.keep (Beside.made H6 ⟨((cnts s i - 1 : Nat) : Int), cnts s i, kEOF, ⟨#[]⟩⟩) hS7 hf7
  unfold tokVal
  unfold kEOF
  have lt0_7 := B0_7.lt
  go_wp2_with fail
  refine (zNext_any (H7.keep (by repeat (first | exact Below.refl _ _ | apply below_drew | apply below_drewN | apply below_alloc | apply below_grow)))).mono ?_
  rintro e w8 ⟨rfl, S8, hS8, H8, hf8⟩
  have B0_8 := Beside.keep (Beside.below B0_7 (by repeat (first | exact Below.refl _ _ | apply below_drew | apply below_drewN | apply below_alloc | apply below_grow))) hS8 hf8
  have B1_8 := Beside.keep (Beside.made H7 ⟨((cnts s i - 1 : Nat) : Int), cnts s i, kEOF, ⟨#[]⟩⟩) hS8 hf8
  unfold tokVal
  have lt0_8 := B0_8.lt
  have lt1_8 := B1_8.lt
  obtain ⟨q00, q01, q02, q03⟩ := B0_8.cells
  have ql0 := B0_8.lt
  obtain ⟨q10, q11, q12, q13⟩ := B1_8.cells
  have ql1 := B1_8.lt
  go_wp2_with fail
  go_ret
  exact ⟨rfl, H8.low.trans (Below.mono (by repeat (first | exact Below.refl _ _ | apply below_drew | apply below_drewN | apply below_alloc | apply below_grow)) H8.low.size)⟩

set_option maxHeartbeats 4000000 in
set_option maxRecDepth 100000 in
theorem EOR_walk {W : World} (hT : Tabs W) (F : Stop.Interp) (_hF : F.answers W.tape) (s : ByteArray) (k : ByteArray) (i : Int) (ws : s.size ≤ maxLen) (wk : k.size ≤ maxLen) (li : -9223372036854775808 ≤ i) (ui : i ≤ 9223372036854775807) :
    Calls Tryz.prog 9 #[.string s, .string k, .int .i64 i] W fun e w' => e = .returned (.bool true) ∧ Below W.heap.size W w' := by
  by_cases gs : (65536 : Int) < (s.size : Int)
  · go_enter Tryz.func9, Tryz.ntmps9
    go_wp2_with fail
    refine (zzBytes_EOR s k i W ws wk).mono ?_
    rintro e w' ⟨b, rfl, rfl⟩
    cases b
    · go_wp2_with fail
      go_ret
      exact ⟨rfl, Below.refl _ _⟩
    · go_wp2_with fail
      go_ret
      exact ⟨rfl, Below.refl _ _⟩
  by_cases gk : (65536 : Int) < (k.size : Int)
  · go_enter Tryz.func9, Tryz.ntmps9
    go_wp2_with fail
    refine (zzBytes_EOR s k i W ws wk).mono ?_
    rintro e w' ⟨b, rfl, rfl⟩
    cases b
    · go_wp2_with fail
      go_ret
      exact ⟨rfl, Below.refl _ _⟩
    · go_wp2_with fail
      go_ret
      exact ⟨rfl, Below.refl _ _⟩
  have bw1 : IntKind.i64.wrap ((s.size : Int) + (k.size : Int)) = (s.size : Int) + (k.size : Int) := by rw [IntKind.wrap_i64]; omega
  have bsum : ¬ (1048576 : Int) < (s.size : Int) + (k.size : Int) := by omega
  by_cases vi : i < 0
  · go_enter Tryz.func9, Tryz.ntmps9
    go_wp2_with fail
    refine (zzBytes_EOR s k i W ws wk).mono ?_
    rintro e w' ⟨b, rfl, rfl⟩
    cases b
    · go_wp2_with fail
      go_ret
      exact ⟨rfl, Below.refl _ _⟩
    · go_wp2_with fail
      go_ret
      exact ⟨rfl, Below.refl _ _⟩
  by_cases vz : 65536 < i
  · go_enter Tryz.func9, Tryz.ntmps9
    go_wp2_with fail
    refine (zzBytes_EOR s k i W ws wk).mono ?_
    rintro e w' ⟨b, rfl, rfl⟩
    cases b
    · go_wp2_with fail
      go_ret
      exact ⟨rfl, Below.refl _ _⟩
    · go_wp2_with fail
      go_ret
      exact ⟨rfl, Below.refl _ _⟩
  obtain ⟨i, rfl⟩ := Int.eq_ofNat_of_zero_le (show 0 ≤ i by omega)
  exact EOR_in hT s k i (by omega) (by omega) (by omega)

end Go.Proofs.YtoopnllpocioiaaGreatFmt
