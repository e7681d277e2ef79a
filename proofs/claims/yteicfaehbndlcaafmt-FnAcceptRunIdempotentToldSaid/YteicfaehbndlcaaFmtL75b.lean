/-
  Walk of a law of n003_75: acceptRun twice.
-/
import Derived.Test.YteicfaehbndlcaaFmtL75a
namespace Go.Proofs.YteicfaehbndlcaaFmt
open Go Go.Lib Go.RowKit Go.Proofs

theorem zzBytes_ARI (s : ByteArray) (k : Int) (v : ByteArray) (w : World) (ws : s.size ≤ maxLen) (wv : v.size ≤ maxLen) :
    Calls Tryf.prog 20 #[.string s, .int .i64 k, .string v] w fun e w' => e = .returned (.bool (decide (s.size + v.size ≤ 1048576))) ∧ w = w' := by
  unfold maxLen at ws wv
  by_cases h1 : (1048576 : Int) < (s.size : Int)
  · have hd : decide (s.size + v.size ≤ 1048576) = false := by simp; omega
    rw [hd]
    clear hd
    go_enter Tryf.func20, Tryf.ntmps20
    go_wp2_with fail
    go_ret
    exact ⟨rfl, rfl⟩
  · by_cases h2 : (1048576 : Int) < (v.size : Int)
    · have hd : decide (s.size + v.size ≤ 1048576) = false := by simp; omega
      rw [hd]
      clear hd
      go_enter Tryf.func20, Tryf.ntmps20
      go_wp2_with fail
      go_ret
      exact ⟨rfl, rfl⟩
    · by_cases h3 : (1048576 : Int) < (s.size : Int) + (v.size : Int)
      · have hd : decide (s.size + v.size ≤ 1048576) = false := by simp; omega
        rw [hd]
        clear hd
        go_enter Tryf.func20, Tryf.ntmps20
        go_wp2_with fail
        go_ret
        exact ⟨rfl, rfl⟩
      · have hd : decide (s.size + v.size ≤ 1048576) = true := by simp; omega
        rw [hd]
        clear hd
        go_enter Tryf.func20, Tryf.ntmps20
        go_wp2_with fail
        go_ret
        exact ⟨rfl, rfl⟩

set_option maxHeartbeats 1000000 in
set_option maxRecDepth 100000 in
theorem acceptRunIdempotent_in {W : World} (hT : Tabs W) (s : ByteArray) (k : Int) (v : ByteArray) (hs : s.size ≤ 65536) (hv : v.size ≤ 4096) (ha : ¬ k < 0) (hb : ¬ (s.size : Int) + 1 < k) :
    Calls Tryf.prog 5 #[.string s, .int .i64 k, .string v] W fun e w' => e = .returned (.bool true) ∧ Below W.heap.size W w' := by
  have b1 : ¬ (65536 : Int) < (s.size : Int) := by omega
  have b2 : ¬ (4096 : Int) < (v.size : Int) := by omega
  have hz : decide (s.size + v.size ≤ 1048576) = true := by simp; omega
  have Hz := Lib.hid hz
  clear hz
  go_enter Tryf.func5, Tryf.ntmps5
  go_wp2_with fail
  refine (zzBytes_ARI s k v W (by unfold maxLen; omega) (by unfold maxLen; omega)).mono ?_
  rintro e w' ⟨rfl, rfl⟩
  rw [Hz.out]
  go_wp2_with fail
  refine (zzAt_any hT (Below.refl _ _) s k (by omega) (by omega)).mono ?_
  rintro e w1 ⟨L, S, rfl, hS, H, hb1⟩
  go_wp2_with fail
  refine (zacceptRun_any H).mono ?_
  rintro e w2 ⟨rfl, S2, hS2, H2, hf2⟩
  have hst := acceptRun_stop v s (nextN s k.toNat start)
  obtain ⟨t1, ht1⟩ : ∃ t1, acceptRun v s (nextN s k.toNat start) = t1 := ⟨_, rfl⟩
  rw [ht1] at hst H2
  have Hst := Lib.hid hst
  clear hst ht1
  go_wp2_with fail
  refine (zendByte_any H2).mono ?_
  rintro e w' ⟨rfl, rfl⟩
  go_wp2_with fail
  refine (zendRune_any H2).mono ?_
  rintro e w' ⟨rfl, rfl⟩
  go_wp2_with fail
  refine (zacceptRun_any H2).mono ?_
  rintro e w3 ⟨rfl, S3, hS3, H3, hf3⟩
  rw [acceptRun_of v s t1 Hst.out] at H3
  go_wp2_with fail
  refine (zendByte_any H3).mono ?_
  rintro e w' ⟨rfl, rfl⟩
  go_wp2_with fail
  refine (zendRune_any H3).mono ?_
  rintro e w' ⟨rfl, rfl⟩
  go_wp2_with fail
  refine (zaccept_any H3).mono ?_
  rintro e w4 ⟨rfl, S4, hS4, H4, hf4⟩
  have e2 : accept v s t1 = t1 := by unfold accept; rw [Hst.out]; rfl
  rw [e2] at H4
  clear e2
  rw [Hst.out]
  go_wp2_with fail
  refine (zendByte_any H4).mono ?_
  rintro e w' ⟨rfl, rfl⟩
  go_wp2_with fail
  refine (zendRune_any H4).mono ?_
  rintro e w' ⟨rfl, rfl⟩
  have hfin : Below W.heap.size W w4 := hb1.trans (((hf2.trans hf3 hS2).trans hf4 (fun i hi => (hS3 i hi).elim (fun h => (hS2 i h).elim .inl .inr) (fun h => .inr (Nat.le_trans hf2.size h)))).below hS hb1.size)
  go_wp2_with fail
  go_ret
  exact ⟨rfl, hfin⟩

set_option maxHeartbeats 1000000 in
set_option maxRecDepth 100000 in
theorem acceptRunIdempotent_walk {W : World} (hT : Tabs W) (F : Stop.Interp) (_ : F.answers W.tape) (s : ByteArray) (k : Int) (v : ByteArray) (ws : s.size ≤ maxLen) (wv : v.size ≤ maxLen) (hk0 : -9223372036854775808 ≤ k) (hk1 : k ≤ 9223372036854775807) :
    Calls Tryf.prog 5 #[.string s, .int .i64 k, .string v] W fun e w' => e = .returned (.bool true) ∧ Below W.heap.size W w' := by
  by_cases hin : s.size ≤ 65536 ∧ v.size ≤ 4096 ∧ ¬ k < 0 ∧ ¬ (s.size : Int) + 1 < k
  · exact acceptRunIdempotent_in hT s k v hin.1 hin.2.1 hin.2.2.1 hin.2.2.2
  · have w1 := ws
    unfold maxLen at w1
    obtain ⟨b, hb⟩ : ∃ b, decide (s.size + v.size ≤ 1048576) = b := ⟨_, rfl⟩
    have hz := zzBytes_ARI s k v W ws wv
    rw [hb] at hz
    clear hb
    have Hz := Lib.hid hz
    clear hz
    cases b with
    | false =>
      go_enter Tryf.func5, Tryf.ntmps5
      go_wp2_with fail
      refine Hz.out.mono ?_
      rintro e w' ⟨rfl, rfl⟩
      go_wp2_with fail
      go_ret
      exact ⟨rfl, Below.refl _ _⟩
    | true =>
      by_cases c1 : (65536 : Int) < (s.size : Int)
      · go_enter Tryf.func5, Tryf.ntmps5
        go_wp2_with fail
        refine Hz.out.mono ?_
        rintro e w' ⟨rfl, rfl⟩
        go_wp2_with fail
        go_ret
        exact ⟨rfl, Below.refl _ _⟩
      · by_cases c2 : (4096 : Int) < (v.size : Int)
        · go_enter Tryf.func5, Tryf.ntmps5
          go_wp2_with fail
          refine Hz.out.mono ?_
          rintro e w' ⟨rfl, rfl⟩
          go_wp2_with fail
          go_ret
          exact ⟨rfl, Below.refl _ _⟩
        · by_cases c3 : k < 0
          · clear hin
            go_enter Tryf.func5, Tryf.ntmps5
            go_wp2_with fail
            refine Hz.out.mono ?_
            rintro e w' ⟨rfl, rfl⟩
            go_wp2_with fail
            go_ret
            exact ⟨rfl, Below.refl _ _⟩
          · have c4 : (s.size : Int) + 1 < k := by omega
            clear hin
            go_enter Tryf.func5, Tryf.ntmps5
            go_wp2_with fail
            refine Hz.out.mono ?_
            rintro e w' ⟨rfl, rfl⟩
            go_wp2_with fail
            go_ret
            exact ⟨rfl, Below.refl _ _⟩

end Go.Proofs.YteicfaehbndlcaaFmt
