/-
  Walk of a law of n003_66: FnEmitValueBackToBack.
-/
import Derived.Test.YtoopnllpocioiaaGreatFmtZ66c
import Derived.Test.YtoopnllpocioiaaGreatFmtTabs
namespace Go.Proofs.YtoopnllpocioiaaGreatFmt
open Go Go.Lib Go.RowKit Go.Proofs

set_option maxRecDepth 100000 in
theorem zzBytes_EVB (s : ByteArray) (k : ByteArray) (v1 : ByteArray) (v2 : ByteArray) (i : Int) (w : World) (ws : s.size ≤ maxLen) (wk : k.size ≤ maxLen) (wv1 : v1.size ≤ maxLen) (wv2 : v2.size ≤ maxLen) : Calls Tryz.prog 28 #[.string s, .string k, .string v1, .string v2, .int .i64 i] w (SaysBool w) := by
  unfold maxLen at ws wk wv1 wv2
  by_cases z0 : (1048576 : Int) < (s.size : Int)
  · go_enter Tryz.func28, Tryz.ntmps28
    go_wp2_with fail
    go_ret
    exact ⟨_, rfl, rfl⟩
  by_cases z1 : (1048576 : Int) < (k.size : Int)
  · go_enter Tryz.func28, Tryz.ntmps28
    go_wp2_with fail
    go_ret
    exact ⟨_, rfl, rfl⟩
  have zw1 : IntKind.i64.wrap ((s.size : Int) + (k.size : Int)) = (s.size : Int) + (k.size : Int) := by rw [IntKind.wrap_i64]; omega
  by_cases y1 : (1048576 : Int) < (s.size : Int) + (k.size : Int)
  · go_enter Tryz.func28, Tryz.ntmps28
    go_wp2_with fail
    go_ret
    exact ⟨_, rfl, rfl⟩
  by_cases z2 : (1048576 : Int) < (v1.size : Int)
  · go_enter Tryz.func28, Tryz.ntmps28
    go_wp2_with fail
    go_ret
    exact ⟨_, rfl, rfl⟩
  have zw2 : IntKind.i64.wrap ((s.size : Int) + (k.size : Int) + (v1.size : Int)) = (s.size : Int) + (k.size : Int) + (v1.size : Int) := by rw [IntKind.wrap_i64]; omega
  by_cases y2 : (1048576 : Int) < (s.size : Int) + (k.size : Int) + (v1.size : Int)
  · go_enter Tryz.func28, Tryz.ntmps28
    go_wp2_with fail
    go_ret
    exact ⟨_, rfl, rfl⟩
  by_cases z3 : (1048576 : Int) < (v2.size : Int)
  · go_enter Tryz.func28, Tryz.ntmps28
    go_wp2_with fail
    go_ret
    exact ⟨_, rfl, rfl⟩
  have zw3 : IntKind.i64.wrap ((s.size : Int) + (k.size : Int) + (v1.size : Int) + (v2.size : Int)) = (s.size : Int) + (k.size : Int) + (v1.size : Int) + (v2.size : Int) := by rw [IntKind.wrap_i64]; omega
  by_cases y3 : (1048576 : Int) < (s.size : Int) + (k.size : Int) + (v1.size : Int) + (v2.size : Int)
  · go_enter Tryz.func28, Tryz.ntmps28
    go_wp2_with fail
    go_ret
    exact ⟨_, rfl, rfl⟩
  go_enter Tryz.func28, Tryz.ntmps28
  go_wp2_with fail
  go_ret
  exact ⟨_, rfl, rfl⟩

set_option maxHeartbeats 4000000 in
set_option maxRecDepth 100000 in
theorem EVB_in {W : World} (hT : Tabs W) (s : ByteArray) (k : ByteArray) (v1 : ByteArray) (v2 : ByteArray) (i : Nat) (hs : s.size ≤ 65536) (hk : k.size ≤ 65536) (hv1 : v1.size ≤ 65536) (hv2 : v2.size ≤ 65536) (hz : i ≤ 65536) :
    Calls Tryz.prog 8 #[.string s, .string k, .string v1, .string v2, .int .i64 i] W fun e w' => e = .returned (.bool true) ∧ Below W.heap.size W w' := by
  have bs : ¬ (65536 : Int) < (s.size : Int) := by omega
  have bk : ¬ (65536 : Int) < (k.size : Int) := by omega
  have bv1 : ¬ (65536 : Int) < (v1.size : Int) := by omega
  have bv2 : ¬ (65536 : Int) < (v2.size : Int) := by omega
  have bw1 : IntKind.i64.wrap ((s.size : Int) + (k.size : Int)) = (s.size : Int) + (k.size : Int) := by rw [IntKind.wrap_i64]; omega
  have bw2 : IntKind.i64.wrap ((s.size : Int) + (k.size : Int) + (v1.size : Int)) = (s.size : Int) + (k.size : Int) + (v1.size : Int) := by rw [IntKind.wrap_i64]; omega
  have bw3 : IntKind.i64.wrap ((s.size : Int) + (k.size : Int) + (v1.size : Int) + (v2.size : Int)) = (s.size : Int) + (k.size : Int) + (v1.size : Int) + (v2.size : Int) := by rw [IntKind.wrap_i64]; omega
  have bsum : ¬ (1048576 : Int) < (s.size : Int) + (k.size : Int) + (v1.size : Int) + (v2.size : Int) := by omega
  have ci : ¬ (i : Int) < 0 := by omega
  have cz : ¬ (65536 : Int) < (i : Int) := by omega
  have hrs := runes_le s
  have hcni := cnts_le s i
  have hofi := offs_le s i
  have i0i : (0 : Int) ≤ (offs s i : Int) := by omega
  have i1i : (offs s i : Int) ≤ (s.size : Int) := by omega
  go_enter Tryz.func8, Tryz.ntmps8
  go_wp2_with fail
  refine (zzBytes_EVB s k v1 v2 i W (by unfold maxLen; omega) (by unfold maxLen; omega) (by unfold maxLen; omega) (by unfold maxLen; omega)).mono ?_
  rintro e w' ⟨b, rfl, rfl⟩
  cases b
  · go_wp2_with fail
    go_ret
    exact ⟨rfl, Below.refl _ _⟩
  go_wp2_with fail
  refine (runeCount_any s _ (by omega)).mono ?_
  rintro e w1 ⟨rfl, hb1⟩
  have hB1 := hb1
  go_wp2_with fail
  refine (minCnt_any s i _).mono ?_
  rintro e w' ⟨rfl, rfl⟩
  go_wp2_with fail
  refine (freshLexer_any hT (hB1) s (by omega)).mono ?_
  rintro e w2 ⟨L, S2, rfl, H2, hS2, hb2⟩
  go_wp2_with fail
  refine (advance_int H2 _ i (by omega) (by omega) (by omega)).mono ?_
  rintro e w3 ⟨rfl, S3, hS3, H3, hf3⟩
  go_wp2_with fail
  refine (zemitValue_any H3 (by simp) k v1).mono ?_
  rintro e w4 ⟨rfl, S4, hS4, H4, hf4⟩
  go_wp2_with fail
  refine (zemitValue_any H4 (by simp) k v2).mono ?_
  rintro e w5 ⟨rfl, S5, hS5, H5, hf5⟩
  go_wp2_with fail
  refine (zqueued_any H5).mono ?_
  rintro e w' ⟨rfl, rfl⟩
  go_wp2_with fail
  refine (zNext_any H5).mono ?_
  rintro e w6 ⟨rfl, S6, hS6, H6, hf6⟩
  unfold tokVal
  go_wp2_with fail
  refine (zNext_any (H6.keep (by repeat (first | exact Below.refl _ _ | apply below_drew | apply below_drewN | apply below_alloc | apply below_grow)))).mono ?_
  rintro e w7 ⟨rfl, S7, hS7, H7, hf7⟩
  have B0_7 := Beside.keep (Beside.made H6 ⟨cnts s 0, cnts s i, k, v1⟩) hS7 hf7
  unfold tokVal
  have lt0_7 := B0_7.lt
  go_wp2_with fail
  obtain ⟨q00, q01, q02, q03⟩ := B0_7.cells
  have ql0 := B0_7.lt
  refine (zqueued_any (H7.keep (by repeat (first | exact Below.refl _ _ | apply below_drew | apply below_drewN | apply below_alloc | apply below_grow)))).mono ?_
  rintro e w' ⟨rfl, rfl⟩
  go_wp2_with fail
  go_ret
  exact ⟨rfl, H7.low.trans (Below.mono (by repeat (first | exact Below.refl _ _ | apply below_drew | apply below_drewN | apply below_alloc | apply below_grow)) H7.low.size)⟩

set_option maxHeartbeats 4000000 in
set_option maxRecDepth 100000 in
theorem EVB_walk {W : World} (hT : Tabs W) (F : Stop.Interp) (_hF : F.answers W.tape) (s : ByteArray) (k : ByteArray) (v1 : ByteArray) (v2 : ByteArray) (i : Int) (ws : s.size ≤ maxLen) (wk : k.size ≤ maxLen) (wv1 : v1.size ≤ maxLen) (wv2 : v2.size ≤ maxLen) (li : -9223372036854775808 ≤ i) (ui : i ≤ 9223372036854775807) :
    Calls Tryz.prog 8 #[.string s, .string k, .string v1, .string v2, .int .i64 i] W fun e w' => e = .returned (.bool true) ∧ Below W.heap.size W w' := by
  by_cases gs : (65536 : Int) < (s.size : Int)
  · go_enter Tryz.func8, Tryz.ntmps8
    go_wp2_with fail
    refine (zzBytes_EVB s k v1 v2 i W ws wk wv1 wv2).mono ?_
    rintro e w' ⟨b, rfl, rfl⟩
    cases b
    · go_wp2_with fail
      go_ret
      exact ⟨rfl, Below.refl _ _⟩
    · go_wp2_with fail
      go_ret
      exact ⟨rfl, Below.refl _ _⟩
  by_cases gk : (65536 : Int) < (k.size : Int)
  · go_enter Tryz.func8, Tryz.ntmps8
    go_wp2_with fail
    refine (zzBytes_EVB s k v1 v2 i W ws wk wv1 wv2).mono ?_
    rintro e w' ⟨b, rfl, rfl⟩
    cases b
    · go_wp2_with fail
      go_ret
      exact ⟨rfl, Below.refl _ _⟩
    · go_wp2_with fail
      go_ret
      exact ⟨rfl, Below.refl _ _⟩
  by_cases gv1 : (65536 : Int) < (v1.size : Int)
  · go_enter Tryz.func8, Tryz.ntmps8
    go_wp2_with fail
    refine (zzBytes_EVB s k v1 v2 i W ws wk wv1 wv2).mono ?_
    rintro e w' ⟨b, rfl, rfl⟩
    cases b
    · go_wp2_with fail
      go_ret
      exact ⟨rfl, Below.refl _ _⟩
    · go_wp2_with fail
      go_ret
      exact ⟨rfl, Below.refl _ _⟩
  by_cases gv2 : (65536 : Int) < (v2.size : Int)
  · go_enter Tryz.func8, Tryz.ntmps8
    go_wp2_with fail
    refine (zzBytes_EVB s k v1 v2 i W ws wk wv1 wv2).mono ?_
    rintro e w' ⟨b, rfl, rfl⟩
    cases b
    · go_wp2_with fail
      go_ret
      exact ⟨rfl, Below.refl _ _⟩
    · go_wp2_with fail
      go_ret
      exact ⟨rfl, Below.refl _ _⟩
  have bw1 : IntKind.i64.wrap ((s.size : Int) + (k.size : Int)) = (s.size : Int) + (k.size : Int) := by rw [IntKind.wrap_i64]; omega
  have bw2 : IntKind.i64.wrap ((s.size : Int) + (k.size : Int) + (v1.size : Int)) = (s.size : Int) + (k.size : Int) + (v1.size : Int) := by rw [IntKind.wrap_i64]; omega
  have bw3 : IntKind.i64.wrap ((s.size : Int) + (k.size : Int) + (v1.size : Int) + (v2.size : Int)) = (s.size : Int) + (k.size : Int) + (v1.size : Int) + (v2.size : Int) := by rw [IntKind.wrap_i64]; omega
  have bsum : ¬ (1048576 : Int) < (s.size : Int) + (k.size : Int) + (v1.size : Int) + (v2.size : Int) := by omega
  by_cases vi : i < 0
  · go_enter Tryz.func8, Tryz.ntmps8
    go_wp2_with fail
    refine (zzBytes_EVB s k v1 v2 i W ws wk wv1 wv2).mono ?_
    rintro e w' ⟨b, rfl, rfl⟩
    cases b
    · go_wp2_with fail
      go_ret
      exact ⟨rfl, Below.refl _ _⟩
    · go_wp2_with fail
      go_ret
      exact ⟨rfl, Below.refl _ _⟩
  by_cases vz : 65536 < i
  · go_enter Tryz.func8, Tryz.ntmps8
    go_wp2_with fail
    refine (zzBytes_EVB s k v1 v2 i W ws wk wv1 wv2).mono ?_
    rintro e w' ⟨b, rfl, rfl⟩
    cases b
    · go_wp2_with fail
      go_ret
      exact ⟨rfl, Below.refl _ _⟩
    · go_wp2_with fail
      go_ret
      exact ⟨rfl, Below.refl _ _⟩
  obtain ⟨i, rfl⟩ := Int.eq_ofNat_of_zero_le (show 0 ≤ i by omega)
  exact EVB_in hT s k v1 v2 i (by omega) (by omega) (by omega) (by omega) (by omega)

end Go.Proofs.YtoopnllpocioiaaGreatFmt
