/-
  Walk of a law of n003_66: FnSkipOnlyLastCounts.
-/
import Derived.Test.YtoopnllpocioiaaGreatFmtZ66c
import Derived.Test.YtoopnllpocioiaaGreatFmtTabs
namespace Go.Proofs.YtoopnllpocioiaaGreatFmt
open Go Go.Lib Go.RowKit Go.Proofs

set_option maxRecDepth 100000 in
theorem zzBytes_SOL (s : ByteArray) (k : ByteArray) (i : Int) (j : Int) (m : Int) (w : World) (ws : s.size ≤ maxLen) (wk : k.size ≤ maxLen) : Calls Tryz.prog 30 #[.string s, .string k, .int .i64 i, .int .i64 j, .int .i64 m] w (SaysBool w) := by
  unfold maxLen at ws wk
  by_cases z0 : (1048576 : Int) < (s.size : Int)
  · go_enter Tryz.func30, Tryz.ntmps30
    go_wp2_with fail
    go_ret
    exact ⟨_, rfl, rfl⟩
  by_cases z1 : (1048576 : Int) < (k.size : Int)
  · go_enter Tryz.func30, Tryz.ntmps30
    go_wp2_with fail
    go_ret
    exact ⟨_, rfl, rfl⟩
  have zw1 : IntKind.i64.wrap ((s.size : Int) + (k.size : Int)) = (s.size : Int) + (k.size : Int) := by rw [IntKind.wrap_i64]; omega
  by_cases y1 : (1048576 : Int) < (s.size : Int) + (k.size : Int)
  · go_enter Tryz.func30, Tryz.ntmps30
    go_wp2_with fail
    go_ret
    exact ⟨_, rfl, rfl⟩
  go_enter Tryz.func30, Tryz.ntmps30
  go_wp2_with fail
  go_ret
  exact ⟨_, rfl, rfl⟩

set_option maxHeartbeats 4000000 in
set_option maxRecDepth 100000 in
theorem SOL_in {W : World} (hT : Tabs W) (s : ByteArray) (k : ByteArray) (i : Nat) (j : Nat) (m : Nat) (hs : s.size ≤ 65536) (hk : k.size ≤ 65536) (hj : i ≤ j) (hm : j ≤ m) (hz : m ≤ 65536) :
    Calls Tryz.prog 10 #[.string s, .string k, .int .i64 i, .int .i64 j, .int .i64 m] W fun e w' => e = .returned (.bool true) ∧ Below W.heap.size W w' := by
  have bs : ¬ (65536 : Int) < (s.size : Int) := by omega
  have bk : ¬ (65536 : Int) < (k.size : Int) := by omega
  have bw1 : IntKind.i64.wrap ((s.size : Int) + (k.size : Int)) = (s.size : Int) + (k.size : Int) := by rw [IntKind.wrap_i64]; omega
  have bsum : ¬ (1048576 : Int) < (s.size : Int) + (k.size : Int) := by omega
  have ci : ¬ (i : Int) < 0 := by omega
  have cj : ¬ (j : Int) < (i : Int) := by omega
  have cm : ¬ (m : Int) < (j : Int) := by omega
  have cz : ¬ (65536 : Int) < (m : Int) := by omega
  have hrs := runes_le s
  have o0 : offs s 0 = 0 := rfl
  have n0 : cnts s 0 = 0 := rfl
  have hcni := cnts_le s i
  have hofi := offs_le s i
  have i0i : (0 : Int) ≤ (offs s i : Int) := by omega
  have i1i : (offs s i : Int) ≤ (s.size : Int) := by omega
  have hcnj := cnts_le s j
  have hofj := offs_le s j
  have i0j : (0 : Int) ≤ (offs s j : Int) := by omega
  have i1j : (offs s j : Int) ≤ (s.size : Int) := by omega
  have hcnm := cnts_le s m
  have hofm := offs_le s m
  have i0m : (0 : Int) ≤ (offs s m : Int) := by omega
  have i1m : (offs s m : Int) ≤ (s.size : Int) := by omega
  have hmoj : offs s i ≤ offs s j := by have := offs_mono s i (j - i); rwa [show i + (j - i) = j by omega] at this
  have i2j : (offs s i : Int) ≤ (offs s j : Int) := by omega
  have hmom : offs s j ≤ offs s m := by have := offs_mono s j (m - j); rwa [show j + (m - j) = m by omega] at this
  have i2m : (offs s j : Int) ≤ (offs s m : Int) := by omega
  go_enter Tryz.func10, Tryz.ntmps10
  go_wp2_with fail
  refine (zzBytes_SOL s k i j m W (by unfold maxLen; omega) (by unfold maxLen; omega)).mono ?_
  rintro e w' ⟨b, rfl, rfl⟩
  cases b
  · go_wp2_with fail
    go_ret
    exact ⟨rfl, Below.refl _ _⟩
  go_wp2_with fail
  refine (runeCount_any s _ (by omega)).mono ?_
  rintro e w1 ⟨rfl, hb1⟩
  have hB1 := hb1
  go_wp2_with fail
  refine (minCnt_any s j _).mono ?_
  rintro e w' ⟨rfl, rfl⟩
  go_wp2_with fail
  refine (minCnt_any s m _).mono ?_
  rintro e w' ⟨rfl, rfl⟩
  go_wp2_with fail
  refine (freshLexer_any hT (hB1) s (by omega)).mono ?_
  rintro e w2 ⟨L, S2, rfl, H2, hS2, hb2⟩
  go_wp2_with fail
  refine (advance_int H2 _ i (by omega) (by omega) (by omega)).mono ?_
  rintro e w3 ⟨rfl, S3, hS3, H3, hf3⟩
  go_wp2_with fail
  refine (zskip_any H3).mono ?_
  rintro e w4 ⟨rfl, S4, hS4, H4, hf4⟩
  go_wp2_with fail
  refine (advance_int H4 _ j (by omega) (by omega) (by omega)).mono ?_
  rintro e w5 ⟨rfl, S5, hS5, H5, hf5⟩
  go_wp2_with fail
  refine (zskip_any H5).mono ?_
  rintro e w6 ⟨rfl, S6, hS6, H6, hf6⟩
  go_wp2_with fail
  refine (zskip_any H6).mono ?_
  rintro e w7 ⟨rfl, S7, hS7, H7, hf7⟩
  go_wp2_with fail
  refine (advance_int H7 _ m (by omega) (by omega) (by omega)).mono ?_
  rintro e w8 ⟨rfl, S8, hS8, H8, hf8⟩
  go_wp2_with fail
  refine (zqueued_any H8).mono ?_
  rintro e w' ⟨rfl, rfl⟩
  go_wp2_with fail
  refine (zemit_any H8 (by simp) k).mono ?_
  rintro e w9 ⟨rfl, S9, hS9, H9, hf9⟩
  go_wp2_with fail
  refine (zqueued_any H9).mono ?_
  rintro e w' ⟨rfl, rfl⟩
  go_wp2_with fail
  refine (zNext_any H9).mono ?_
  rintro e w10 ⟨rfl, S10, hS10, H10, hf10⟩
  unfold tokVal
  go_wp2_with fail
  go_region_held3 (fun w' => w'.cell? ⟨w10.heap.size, 0, none⟩ = some (.int .i64 (cnts s j)) ∧ w'.cell? ⟨w10.heap.size, 1, none⟩ = some (.int .i64 (cnts s m)) ∧ w'.cell? ⟨w10.heap.size, 2, none⟩ = some (.string k) ∧ w'.cell? ⟨w10.heap.size, 3, none⟩ = some (.string (s.extract (offs s j) (offs s m))) ∧ Below W.heap.size W w')
    (first | assumption | exact four_below (by assumption) hb | (refine ⟨?_, ?_, ?_, ?_, ?_⟩ <;> first | go_keep | exact H10.low.trans (Below.mono (by repeat (first | exact Below.refl _ _ | apply below_drew | apply below_drewN | apply below_alloc | apply below_grow)) H10.low.size)))
    (first | (go_at_call 14; refine (byteCnt_any s _ _ (by omega)).mono ?_; rintro e w' ⟨rfl, hb⟩))
  go_wp2_with fail
  go_ret
  exact ⟨rfl, (show _ ∧ _ ∧ _ ∧ _ ∧ Below W.heap.size W w' by assumption).2.2.2.2⟩

set_option maxHeartbeats 4000000 in
set_option maxRecDepth 100000 in
theorem SOL_walk {W : World} (hT : Tabs W) (F : Stop.Interp) (_hF : F.answers W.tape) (s : ByteArray) (k : ByteArray) (i : Int) (j : Int) (m : Int) (ws : s.size ≤ maxLen) (wk : k.size ≤ maxLen) (li : -9223372036854775808 ≤ i) (ui : i ≤ 9223372036854775807) (lj : -9223372036854775808 ≤ j) (uj : j ≤ 9223372036854775807) (lm : -9223372036854775808 ≤ m) (um : m ≤ 9223372036854775807) :
    Calls Tryz.prog 10 #[.string s, .string k, .int .i64 i, .int .i64 j, .int .i64 m] W fun e w' => e = .returned (.bool true) ∧ Below W.heap.size W w' := by
  by_cases gs : (65536 : Int) < (s.size : Int)
  · go_enter Tryz.func10, Tryz.ntmps10
    go_wp2_with fail
    refine (zzBytes_SOL s k i j m W ws wk).mono ?_
    rintro e w' ⟨b, rfl, rfl⟩
    cases b
    · go_wp2_with fail
      go_ret
      exact ⟨rfl, Below.refl _ _⟩
    · go_wp2_with fail
      go_ret
      exact ⟨rfl, Below.refl _ _⟩
  by_cases gk : (65536 : Int) < (k.size : Int)
  · go_enter Tryz.func10, Tryz.ntmps10
    go_wp2_with fail
    refine (zzBytes_SOL s k i j m W ws wk).mono ?_
    rintro e w' ⟨b, rfl, rfl⟩
    cases b
    · go_wp2_with fail
      go_ret
      exact ⟨rfl, Below.refl _ _⟩
    · go_wp2_with fail
      go_ret
      exact ⟨rfl, Below.refl _ _⟩
  have bw1 : IntKind.i64.wrap ((s.size : Int) + (k.size : Int)) = (s.size : Int) + (k.size : Int) := by rw [IntKind.wrap_i64]; omega
  have bsum : ¬ (1048576 : Int) < (s.size : Int) + (k.size : Int) := by omega
  by_cases vi : i < 0
  · go_enter Tryz.func10, Tryz.ntmps10
    go_wp2_with fail
    refine (zzBytes_SOL s k i j m W ws wk).mono ?_
    rintro e w' ⟨b, rfl, rfl⟩
    cases b
    · go_wp2_with fail
      go_ret
      exact ⟨rfl, Below.refl _ _⟩
    · go_wp2_with fail
      go_ret
      exact ⟨rfl, Below.refl _ _⟩
  by_cases vj : j < i
  · go_enter Tryz.func10, Tryz.ntmps10
    go_wp2_with fail
    refine (zzBytes_SOL s k i j m W ws wk).mono ?_
    rintro e w' ⟨b, rfl, rfl⟩
    cases b
    · go_wp2_with fail
      go_ret
      exact ⟨rfl, Below.refl _ _⟩
    · go_wp2_with fail
      go_ret
      exact ⟨rfl, Below.refl _ _⟩
  by_cases vm : m < j
  · go_enter Tryz.func10, Tryz.ntmps10
    go_wp2_with fail
    refine (zzBytes_SOL s k i j m W ws wk).mono ?_
    rintro e w' ⟨b, rfl, rfl⟩
    cases b
    · go_wp2_with fail
      go_ret
      exact ⟨rfl, Below.refl _ _⟩
    · go_wp2_with fail
      go_ret
      exact ⟨rfl, Below.refl _ _⟩
  by_cases vz : 65536 < m
  · go_enter Tryz.func10, Tryz.ntmps10
    go_wp2_with fail
    refine (zzBytes_SOL s k i j m W ws wk).mono ?_
    rintro e w' ⟨b, rfl, rfl⟩
    cases b
    · go_wp2_with fail
      go_ret
      exact ⟨rfl, Below.refl _ _⟩
    · go_wp2_with fail
      go_ret
      exact ⟨rfl, Below.refl _ _⟩
  obtain ⟨i, rfl⟩ := Int.eq_ofNat_of_zero_le (show 0 ≤ i by omega)
  obtain ⟨j, rfl⟩ := Int.eq_ofNat_of_zero_le (show 0 ≤ j by omega)
  obtain ⟨m, rfl⟩ := Int.eq_ofNat_of_zero_le (show 0 ≤ m by omega)
  exact SOL_in hT s k i j m (by omega) (by omega) (by omega) (by omega) (by omega)

end Go.Proofs.YtoopnllpocioiaaGreatFmt
