/-
  Walks of two laws of n003_75: skipSpaces twice, acceptRun twice.
-/
import Derived.Test.YteicfaehbndlcaaFmtZ75
import Derived.Test.YteicfaehbndlcaaFmtPure
namespace Go.Proofs.YteicfaehbndlcaaFmt
open Go Go.Lib Go.RowKit Go.Proofs

theorem nextN_le (s : ByteArray) : ∀ (k : Nat) (t : St), t.eb ≤ s.size → (nextN s k t).eb ≤ s.size
  | 0, _, h => h
  | k + 1, _, h => nextN_le s k _ (next_le h)

theorem zzBytes_SSI_in (s : ByteArray) (k : Int) (w : World) (h : s.size ≤ 1048576) : Calls Tryf.prog 23 #[.string s, .int .i64 k] w fun e w' => e = .returned (.bool true) ∧ w = w' := by
  have h1 : ¬ (1048576 : Int) < (s.size : Int) := by omega
  go_enter Tryf.func23, Tryf.ntmps23
  go_wp2_with fail
  go_ret
  exact ⟨rfl, rfl⟩
theorem zzBytes_SSI_out (s : ByteArray) (k : Int) (w : World) (h : 1048576 < s.size) : Calls Tryf.prog 23 #[.string s, .int .i64 k] w fun e w' => e = .returned (.bool false) ∧ w = w' := by
  have h1 : (1048576 : Int) < (s.size : Int) := by omega
  go_enter Tryf.func23, Tryf.ntmps23
  go_wp2_with fail
  go_ret
  exact ⟨rfl, rfl⟩

set_option maxHeartbeats 1000000 in
set_option maxRecDepth 100000 in
theorem skipSpacesIdempotent_walk {W : World} (hT : Tabs W) (s : ByteArray) (k : Int) (hk0 : -9223372036854775808 ≤ k) (hk1 : k ≤ 9223372036854775807) :
    Calls Tryf.prog 6 #[.string s, .int .i64 k] W fun e w' => e = .returned (.bool true) ∧ Below W.heap.size W w' := by
  by_cases hs : s.size ≤ 1048576
  · have hs1 : ¬ (1048576 : Int) < (s.size : Int) := by omega
    by_cases ha : k < 0
    · go_enter Tryf.func6, Tryf.ntmps6
      go_wp2_with fail
      refine (zzBytes_SSI_in s k W hs).mono ?_
      rintro e w' ⟨rfl, rfl⟩
      go_wp2_with fail
      go_ret
      exact ⟨rfl, Below.refl _ _⟩
    · by_cases hb : (s.size : Int) + 1 < k
      · go_enter Tryf.func6, Tryf.ntmps6
        go_wp2_with fail
        refine (zzBytes_SSI_in s k W hs).mono ?_
        rintro e w' ⟨rfl, rfl⟩
        go_wp2_with fail
        go_ret
        exact ⟨rfl, Below.refl _ _⟩
      · go_enter Tryf.func6, Tryf.ntmps6
        go_wp2_with fail
        refine (zzBytes_SSI_in s k W hs).mono ?_
        rintro e w' ⟨rfl, rfl⟩
        go_wp2_with fail
        refine (zzAt_any hT (Below.refl _ _) s k hs (by omega)).mono ?_
        rintro e w1 ⟨L, S, rfl, hS, H, hb1⟩
        go_wp2_with fail
        refine (zskipSpaces_any H).mono ?_
        rintro e w2 ⟨rfl, S2, hS2, H2, hf2⟩
        obtain ⟨t1, ht1⟩ : ∃ t1, skipSpaces s (nextN s k.toNat start) = t1 := ⟨_, rfl⟩
        have htw := skipSpaces_twice s (nextN s k.toNat start)
        have hle := skipSpaces_le s (nextN s k.toNat start) (nextN_le s k.toNat start (Nat.zero_le _))
        have hnx := skipSpaces_next s (nextN s k.toNat start)
        have hst : (skipSpaces s (nextN s k.toNat start)).sb = (skipSpaces s (nextN s k.toNat start)).eb ∧ (skipSpaces s (nextN s k.toNat start)).sr = (skipSpaces s (nextN s k.toNat start)).er := ⟨rfl, rfl⟩
        rw [ht1] at H2 htw hle hnx hst
        have Htw := Lib.hid htw
        have Hnx := Lib.hid hnx
        have Hst := Lib.hid hst
        clear htw hnx hst ht1
        go_wp2_with fail
        refine (zendByte_any H2).mono ?_
        rintro e w' ⟨rfl, rfl⟩
        go_wp2_with fail
        refine (zendRune_any H2).mono ?_
        rintro e w' ⟨rfl, rfl⟩
        go_wp2_with fail
        refine (zskipSpaces_any H2).mono ?_
        rintro e w3 ⟨rfl, S3, hS3, H3, hf3⟩
        rw [Htw.out] at H3
        go_wp2_with fail
        refine (zendByte_any H3).mono ?_
        rintro e w' ⟨rfl, rfl⟩
        go_wp2_with fail
        refine (zendRune_any H3).mono ?_
        rintro e w' ⟨rfl, rfl⟩
        go_wp2_with fail
        refine (zstartByte_any H3).mono ?_
        rintro e w' ⟨rfl, rfl⟩
        rw [Hst.out.1]
        go_wp2_with fail
        refine (zstartRune_any H3).mono ?_
        rintro e w' ⟨rfl, rfl⟩
        rw [Hst.out.2]
        have hfin : Below W.heap.size W w3 := hb1.trans (((hf2.trans hf3 hS2)).below hS hb1.size)
        by_cases he : t1.eb = s.size
        · have d1 : ((t1.eb : Int) == (s.size : Int)) = true := by simp [he]
          have He := Lib.hid he
          clear he
          go_wp2_with fail
          go_ret
          exact ⟨rfl, hfin⟩
        · have hlt : t1.eb < s.size := by omega
          have d1 : ((t1.eb : Int) == (s.size : Int)) = false := by simp; omega
          have d2 : ((t1.eb : Int) < (s.size : Int)) := by omega
          have d0 : (0 : Int) ≤ (t1.eb : Int) := by omega
          have d3 : (((s[t1.eb]'hlt).toNat : Int) != 32) = true := by
            have := Hnx.out hlt
            rw [bne_iff_ne]
            intro e
            exact this (UInt8.toNat_inj.1 (by have : (s[t1.eb]'hlt).toNat = 32 := (by omega); simpa using this))
          go_wp2_with fail
          go_ret
          exact ⟨rfl, hfin⟩
  · have hs1 : (1048576 : Int) < (s.size : Int) := by omega
    go_enter Tryf.func6, Tryf.ntmps6
    go_wp2_with fail
    refine (zzBytes_SSI_out s k W (by omega)).mono ?_
    rintro e w' ⟨rfl, rfl⟩
    go_wp2_with fail
    go_ret
    exact ⟨rfl, Below.refl _ _⟩

end Go.Proofs.YteicfaehbndlcaaFmt
