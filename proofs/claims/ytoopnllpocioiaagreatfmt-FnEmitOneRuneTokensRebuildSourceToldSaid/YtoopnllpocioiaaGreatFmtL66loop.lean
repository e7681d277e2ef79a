/-
  Walk of a law of n003_66: one token a rune, laid end to end.
-/
import Derived.Test.YtoopnllpocioiaaGreatFmtZ66c
import Derived.Test.YtoopnllpocioiaaGreatFmtTabs
namespace Go.Proofs.YtoopnllpocioiaaGreatFmt
open Go Go.Lib Go.RowKit Go.Proofs

set_option maxRecDepth 100000 in
theorem zzBytes_EOT (s k : ByteArray) (w : World) (ws : s.size ≤ maxLen) (wk : k.size ≤ maxLen) : Calls Tryz.prog 24 #[.string s, .string k] w (SaysBool w) := by
  unfold maxLen at ws wk
  by_cases z0 : (1048576 : Int) < (s.size : Int)
  · go_enter Tryz.func24, Tryz.ntmps24
    go_wp2_with fail
    go_ret
    exact ⟨_, rfl, rfl⟩
  by_cases z1 : (1048576 : Int) < (k.size : Int)
  · go_enter Tryz.func24, Tryz.ntmps24
    go_wp2_with fail
    go_ret
    exact ⟨_, rfl, rfl⟩
  have zw1 : IntKind.i64.wrap ((s.size : Int) + (k.size : Int)) = (s.size : Int) + (k.size : Int) := by rw [IntKind.wrap_i64]; omega
  by_cases y1 : (1048576 : Int) < (s.size : Int) + (k.size : Int)
  · go_enter Tryz.func24, Tryz.ntmps24
    go_wp2_with fail
    go_ret
    exact ⟨_, rfl, rfl⟩
  go_enter Tryz.func24, Tryz.ntmps24
  go_wp2_with fail
  go_ret
  exact ⟨_, rfl, rfl⟩

set_option maxHeartbeats 4000000 in
set_option maxRecDepth 100000 in
theorem EOT_in {W : World} (hT : Tabs W) (s k : ByteArray) (hs : s.size ≤ 65536) (hk : k.size ≤ 65536) :
    Calls Tryz.prog 6 #[.string s, .string k] W fun e w' => e = .returned (.bool true) ∧ Below W.heap.size W w' := by
  have bs : ¬ (65536 : Int) < (s.size : Int) := by omega
  have bk : ¬ (65536 : Int) < (k.size : Int) := by omega
  have bw1 : IntKind.i64.wrap ((s.size : Int) + (k.size : Int)) = (s.size : Int) + (k.size : Int) := by rw [IntKind.wrap_i64]; omega
  have bsum : ¬ (1048576 : Int) < (s.size : Int) + (k.size : Int) := by omega
  have hrs := runes_le s
  go_enter Tryz.func6, Tryz.ntmps6
  go_wp2_with fail
  refine (zzBytes_EOT s k W (by unfold maxLen; omega) (by unfold maxLen; omega)).mono ?_
  rintro e w' ⟨b, rfl, rfl⟩
  cases b
  · go_wp2_with fail
    go_ret
    exact ⟨rfl, Below.refl _ _⟩
  go_wp2_with fail
  refine (runeCount_any s _ (by omega)).mono ?_
  rintro e w1 ⟨rfl, hb1⟩
  go_wp2_with fail
  refine (freshLexer_any hT hb1 s (by omega)).mono ?_
  rintro e w2 ⟨L, S2, rfl, H2, hS2, hb2⟩
  go_wp2_with fail
  go_loopg [8, 9] (runes s + 1) (fun g p x wr => ∃ (j : Nat) (S1 : Nat → Prop), p = .int .i64 (offs s j) ∧ x = .int .i64 j ∧ j ≤ runes s ∧ runes s < j + g ∧ Lx W S1 wr L s (mk s j j []))
  case atStart => exact ⟨0, S2, rfl, rfl, by omega, by omega, H2⟩
  case round =>
    obtain ⟨j, S1, rfl, rfl, hj, hg, H1⟩ := hrel
    by_cases hjn : (j : Int) < (runes s : Int)
    · have hin : offs s j < s.size := by
        by_cases h : offs s j < s.size
        · exact h
        · have h1 := cnts_all s j h
          have h2 := cnts_le s j
          omega
      have hc0 := cnts_in s j hin
      have hc1 : cnts s (j + 1) = j + 1 := by rw [cnts_min]; omega
      have hgt := offs_gt s j hin
      have hwp := wAt_pos s (offs s j) hin
      have hle := offs_le s (j + 1)
      obtain ⟨v, hv⟩ : ∃ v, s.extract (offs s j) (offs s (j + 1)) = v := ⟨_, rfl⟩
      have hvs : v.size = offs s (j + 1) - offs s j := by rw [← hv, ByteArray.size_extract]; omega
      obtain ⟨p, hp⟩ : ∃ p, offs s j = p := ⟨_, rfl⟩
      obtain ⟨p', hp'⟩ : ∃ p, offs s (j + 1) = p := ⟨_, rfl⟩
      rw [hp] at hin hgt hvs hv hwp
      rw [hp'] at hgt hle hvs hv
      rw [hp]
      have v0 : (0 : Int) ≤ (p : Int) := by omega
      have v1 : (p : Int) ≤ (p : Int) + (v.size : Int) := by omega
      have v2 : (p : Int) + (v.size : Int) ≤ (s.size : Int) := by omega
      have v3 : ((p : Int) + (v.size : Int)).toNat = p' := by omega
      have v4 : ¬ (v.size : Int) = 0 := by omega
      have v5 : ((v.size : Int) == 0) = false := by rw [beq_eq_false_iff_ne]; omega
      have v6 : ¬ (s.size : Int) - (p : Int) < (v.size : Int) := by omega
      have v7 : IntKind.i64.wrap ((p : Int) + (v.size : Int)) = (p : Int) + (v.size : Int) := by rw [IntKind.wrap_i64]; omega
      have v8 : IntKind.i64.wrap ((s.size : Int) - (p : Int)) = (s.size : Int) - (p : Int) := by rw [IntKind.wrap_i64]; omega
      have Hp := Lib.hid hp
      have Hp' := Lib.hid hp'
      have Hgt := Lib.hid hgt
      have Hvs := Lib.hid hvs
      clear hp hp' hgt hvs
      go_wp2_with fail
      refine (znext_any H1).mono ?_
      rintro e w3 ⟨rfl, S3, hS3, H3, hf3⟩
      go_wp2_with fail
      refine (zemit_any H3 (by simp) k).mono ?_
      rintro e w4 ⟨rfl, S4, hS4, H4, hf4⟩
      rw [hc0, hc1, Hp.out, Hp'.out, hv] at H4
      go_wp2_with fail
      refine (zqueued_any H4).mono ?_
      rintro e w' ⟨rfl, rfl⟩
      go_wp2_with fail
      refine (zNext_any H4).mono ?_
      rintro e w5 ⟨rfl, S5, hS5, H5, hf5⟩
      unfold tokVal
      go_wp2_with fail
      go_quiet (fail)
      go_wp2_with fail
      go_roundg (runes s - j)
      case measure => omega
      case rel =>
        refine ⟨j + 1, S5, ?_, by go_num, by omega, by omega, H5.keep (by repeat (first | exact Below.refl _ _ | apply below_drew | apply below_drewN | apply below_alloc | apply below_grow))⟩
        have := Hvs.out
        rw [Hp'.out]
        congr 1
        omega
    · obtain rfl : j = runes s := by omega
      rw [offs_runes]
      go_wp2_with fail
      go_ret
      exact ⟨rfl, H1.low⟩

set_option maxHeartbeats 4000000 in
set_option maxRecDepth 100000 in
theorem EOT_walk {W : World} (hT : Tabs W) (F : Stop.Interp) (_hF : F.answers W.tape) (s k : ByteArray) (ws : s.size ≤ maxLen) (wk : k.size ≤ maxLen) :
    Calls Tryz.prog 6 #[.string s, .string k] W fun e w' => e = .returned (.bool true) ∧ Below W.heap.size W w' := by
  by_cases gs : (65536 : Int) < (s.size : Int)
  · go_enter Tryz.func6, Tryz.ntmps6
    go_wp2_with fail
    refine (zzBytes_EOT s k W ws wk).mono ?_
    rintro e w' ⟨b, rfl, rfl⟩
    cases b
    · go_wp2_with fail
      go_ret
      exact ⟨rfl, Below.refl _ _⟩
    · go_wp2_with fail
      go_ret
      exact ⟨rfl, Below.refl _ _⟩
  by_cases gk : (65536 : Int) < (k.size : Int)
  · go_enter Tryz.func6, Tryz.ntmps6
    go_wp2_with fail
    refine (zzBytes_EOT s k W ws wk).mono ?_
    rintro e w' ⟨b, rfl, rfl⟩
    cases b
    · go_wp2_with fail
      go_ret
      exact ⟨rfl, Below.refl _ _⟩
    · go_wp2_with fail
      go_ret
      exact ⟨rfl, Below.refl _ _⟩
  exact EOT_in hT s k (by omega) (by omega)

end Go.Proofs.YtoopnllpocioiaaGreatFmt
