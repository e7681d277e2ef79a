/-
  Walk of a law of n003_75: skipSpaces, exactly.
-/
import Derived.Test.YteicfaehbndlcaaFmtL75d
namespace Go.Proofs.YteicfaehbndlcaaFmt
open Go Go.Lib Go.RowKit Go.Proofs

theorem zzBytes_SSE (s : ByteArray) (k : Int) (w : World) (ws : s.size ≤ maxLen) : Calls Tryf.prog 8 #[.string s, .int .i64 k] w fun e w' => e = .returned (.bool (decide (s.size ≤ 1048576))) ∧ w = w' := by
  unfold maxLen at ws
  by_cases h : s.size ≤ 1048576
  · have h1 : ¬ (1048576 : Int) < (s.size : Int) := by omega
    have hd : decide (s.size ≤ 1048576) = true := by simpa using h
    rw [hd]
    clear hd
    go_enter Tryf.func8, Tryf.ntmps8
    go_wp2_with fail
    go_ret
    exact ⟨rfl, rfl⟩
  · have h1 : (1048576 : Int) < (s.size : Int) := by omega
    have hd : decide (s.size ≤ 1048576) = false := by simpa using h
    rw [hd]
    clear hd
    go_enter Tryf.func8, Tryf.ntmps8
    go_wp2_with fail
    go_ret
    exact ⟨rfl, rfl⟩

/-- A space stands at i. -/
theorem space_at {s : ByteArray} {i : Nat} (h : i < s.size) : (rAt s i = 32) ↔ ((s[i]'h).toNat : Int) = 32 := by
  by_cases ha : (s[i]'h).toNat < 128
  · rw [rAt_ascii h ha]
  · have := rAt_high h (by omega)
    omega

set_option maxHeartbeats 2000000 in
set_option maxRecDepth 100000 in
theorem skipSpacesExact_in {W : World} (hT : Tabs W) (s : ByteArray) (k : Nat) (hs : s.size ≤ 1048576) (hk : k ≤ s.size + 1) :
    Calls Tryf.prog 3 #[.string s, .int .i64 k] W fun e w' => e = .returned (.bool true) ∧ Below W.heap.size W w' := by
  have b1 : ¬ (1048576 : Int) < (s.size : Int) := by omega
  have b3 : ¬ (k : Int) < 0 := by omega
  have b4 : ¬ (s.size : Int) + 1 < (k : Int) := by omega
  have Hz := Lib.hid (show decide (s.size ≤ 1048576) = true by simpa using hs)
  obtain ⟨P, hP⟩ : ∃ x, (nextN s k start).eb = x := ⟨_, rfl⟩
  obtain ⟨R0, hR0⟩ : ∃ x, (nextN s k start).er = x := ⟨_, rfl⟩
  obtain ⟨tf, htf⟩ : ∃ x, acceptRun ⟨#[32]⟩ s (nextN s k start) = x := ⟨_, rfl⟩
  have hle : P ≤ s.size := by rw [← hP]; exact nextN_le s _ start (Nat.zero_le _)
  have hr0 : R0 ≤ k := by rw [← hR0]; exact nextN_er s k
  have hlf : tf.eb ≤ s.size := by rw [← htf]; exact acceptRun_le _ s _ (by rw [hP]; exact hle)
  have HP := Lib.hid hP
  have HR := Lib.hid hR0
  have HT := Lib.hid htf
  clear hP hR0 htf
  go_enter Tryf.func3, Tryf.ntmps3
  go_wp2_with fail
  refine (zzBytes_SSE s k W (by unfold maxLen; omega)).mono ?_
  rintro e w' ⟨rfl, rfl⟩
  rw [Hz.out]
  go_wp2_with fail
  refine (zzAt_any hT (Below.refl _ _) s k (by omega) (by omega)).mono ?_
  rintro e w1 ⟨L, S, rfl, hS, H, hb1⟩
  rw [Int.toNat_natCast] at H
  go_wp2_with fail
  refine (zzPos_any s k w1 (by omega) (by omega)).mono ?_
  rintro e w2 ⟨rfl, xs, d, rfl⟩
  rw [HP.out, HR.out]
  go_wp2_with fail
  refine (zskipSpaces_any (H.keep (by repeat (first | exact Below.refl _ _ | apply below_drew | apply below_drewN | apply below_alloc | apply below_grow)))).mono ?_
  rintro e w2 ⟨rfl, S2, hS2, H2, hf2⟩
  have hss : skipSpaces s (nextN s k start) = commit tf := by unfold skipSpaces; rw [HT.out]
  rw [hss] at H2
  clear hss
  have hb2 : Below W.heap.size W w2 := by
    have h1 : Below W.heap.size W (grow w1 xs d) := below_grow hb1
    exact h1.trans (hf2.below hS h1.size)
  clear H hf2 hS2 hS hb1
  go_wp2_with fail
  go_loopg [8] (s.size + 1) (fun g q wr => ∃ (t1 : St), q = .int .i64 (t1.eb : Nat) ∧ Hid (acceptRun ⟨#[32]⟩ s t1 = tf) ∧ Hid (t1.er = R0 + (t1.eb - P)) ∧ P ≤ t1.eb ∧ t1.eb ≤ s.size ∧ s.size - t1.eb < g ∧ w2 = wr)
  case atStart => exact ⟨nextN s k start, by rw [HP.out], HT, Lib.hid (by rw [HR.out, HP.out]; omega), by rw [HP.out]; omega, by rw [HP.out]; exact hle, by omega, rfl⟩
  case round =>
    obtain ⟨t1, rfl, heq, her, hp1, hle1, hg, rfl⟩ := hrel
    have hend : acceptB ⟨#[32]⟩ s t1 = false → t1 = tf := fun h => by rw [← heq.out]; exact (acceptRun_of _ s t1 h).symm
    have Hend := Lib.hid hend
    clear hend
    have q0 : (0 : Int) ≤ (t1.eb : Int) := by omega
    by_cases hgo : ∃ h : t1.eb < s.size, ((s[t1.eb]'h).toNat : Int) = 32
    · obtain ⟨hin, h32⟩ := hgo
      have hin' : (t1.eb : Int) < (s.size : Int) := by omega
      have hB : acceptB ⟨#[32]⟩ s t1 = true := by unfold acceptB peek; rw [if_pos hin, has_space, (space_at hin).2 h32]; rfl
      have hw1 : wAt s t1.eb = 1 := wAt_ascii hin (by omega)
      have hnx : next s t1 = { t1 with er := t1.er + 1, eb := t1.eb + 1 } := by rw [next_in hin, hw1]
      have hst : Hid (acceptRun ⟨#[32]⟩ s { t1 with er := t1.er + 1, eb := t1.eb + 1 } = tf) := by
        refine Lib.hid ?_
        rw [← heq.out, acceptRun_eq _ s t1, if_pos hB]
        unfold accept; rw [hB, if_pos rfl, hnx]
      have e32 : (((s[t1.eb]'hin).toNat : Int) == 32) = true := by simpa using h32
      have H32 := Lib.hid h32
      clear h32 hB hw1 hnx
      go_wp2_with fail
      go_roundg (s.size - t1.eb)
      case measure => omega
      case rel => exact ⟨{ t1 with er := t1.er + 1, eb := t1.eb + 1 }, by show Value.int .i64 _ = Value.int .i64 ((t1.eb + 1 : Nat) : Int); go_num, hst, Lib.hid (by have := her.out; show t1.er + 1 = R0 + (t1.eb + 1 - P); omega), by show P ≤ t1.eb + 1; omega, by show t1.eb + 1 ≤ _; omega, by show s.size - (t1.eb + 1) < _; omega, rfl⟩
    · have hB : acceptB ⟨#[32]⟩ s t1 = false := by
        unfold acceptB
        cases hh : has ⟨#[32]⟩ (peek s t1) with
        | false => rfl
        | true =>
          have hin := peek_lt (has_ne hh)
          unfold peek at hh
          rw [if_pos hin, has_space] at hh
          exact absurd ⟨hin, (space_at hin).1 (by simpa using hh)⟩ hgo
      have ht := Hend.out hB
      clear hB Hend heq
      subst ht
      have hword : word s (commit t1) = ⟨#[]⟩ := by
        unfold word commit
        apply ByteArray.ext
        apply Array.ext'
        rw [Lib.extract_data]
        simp
      have her' := her.out
      have hsub : (t1.er : Int) = (R0 : Int) + ((t1.eb : Int) - (P : Int)) := by omega
      have e1 : (commit t1).sb = t1.eb ∧ (commit t1).sr = t1.er ∧ (commit t1).eb = t1.eb ∧ (commit t1).er = t1.er := ⟨rfl, rfl, rfl, rfl⟩
      have HW := Lib.hid hword
      have HS := Lib.hid hsub
      have HE := Lib.hid e1
      have hle9 : (commit t1).eb ≤ s.size := hlf
      clear hword hsub e1 her'
      by_cases hin : t1.eb < s.size
      · have hin' : (t1.eb : Int) < (s.size : Int) := by omega
        have e32 : (((s[t1.eb]'hin).toNat : Int) == 32) = false := by
          have : ¬ ((s[t1.eb]'hin).toNat : Int) = 32 := fun e => hgo ⟨hin, e⟩
          simpa using this
        have Hgo := Lib.hid hgo
        clear hgo
        go_wp2_with fail
        refine (zendByte_any H2).mono ?_
        rintro e w' ⟨rfl, rfl⟩
        rw [HE.out.2.2.1]
        go_wp2_with fail
        refine (zendRune_any H2).mono ?_
        rintro e w' ⟨rfl, rfl⟩
        rw [HE.out.2.2.2, HS.out]
        go_wp2_with fail
        refine (zstartByte_any H2).mono ?_
        rintro e w' ⟨rfl, rfl⟩
        rw [HE.out.1]
        go_wp2_with fail
        refine (zstartRune_any H2).mono ?_
        rintro e w' ⟨rfl, rfl⟩
        rw [HE.out.2.1, HS.out]
        go_wp2_with fail
        refine (zword_any H2 hle9).mono ?_
        rintro e w' ⟨rfl, xs7, d7, rfl⟩
        rw [HW.out]
        go_wp2_with fail
        go_ret
        exact ⟨rfl, below_grow hb2⟩
      · have hin' : ¬ (t1.eb : Int) < (s.size : Int) := by omega
        have Hgo := Lib.hid hgo
        clear hgo
        go_wp2_with fail
        refine (zendByte_any H2).mono ?_
        rintro e w' ⟨rfl, rfl⟩
        rw [HE.out.2.2.1]
        go_wp2_with fail
        refine (zendRune_any H2).mono ?_
        rintro e w' ⟨rfl, rfl⟩
        rw [HE.out.2.2.2, HS.out]
        go_wp2_with fail
        refine (zstartByte_any H2).mono ?_
        rintro e w' ⟨rfl, rfl⟩
        rw [HE.out.1]
        go_wp2_with fail
        refine (zstartRune_any H2).mono ?_
        rintro e w' ⟨rfl, rfl⟩
        rw [HE.out.2.1, HS.out]
        go_wp2_with fail
        refine (zword_any H2 hle9).mono ?_
        rintro e w' ⟨rfl, xs7, d7, rfl⟩
        rw [HW.out]
        go_wp2_with fail
        go_ret
        exact ⟨rfl, below_grow hb2⟩

set_option maxHeartbeats 1000000 in
set_option maxRecDepth 100000 in
theorem skipSpacesExact_walk {W : World} (hT : Tabs W) (F : Stop.Interp) (_ : F.answers W.tape) (s : ByteArray) (k : Int) (ws : s.size ≤ maxLen) (hk0 : -9223372036854775808 ≤ k) (hk1 : k ≤ 9223372036854775807) :
    Calls Tryf.prog 3 #[.string s, .int .i64 k] W fun e w' => e = .returned (.bool true) ∧ Below W.heap.size W w' := by
  by_cases hin : s.size ≤ 1048576 ∧ 0 ≤ k ∧ k ≤ (s.size : Int) + 1
  · obtain ⟨k, rfl⟩ := Int.eq_ofNat_of_zero_le hin.2.1
    exact skipSpacesExact_in hT s k hin.1 (by omega)
  · have w1 := ws
    unfold maxLen at w1
    have hz := zzBytes_SSE s k W ws
    by_cases c0 : s.size ≤ 1048576
    · have e : decide (s.size ≤ 1048576) = true := by simpa using c0
      rw [e] at hz
      have c0' : ¬ (1048576 : Int) < (s.size : Int) := by omega
      have Hz := Lib.hid hz
      clear hz e
      by_cases c3 : k < 0
      · clear hin
        go_enter Tryf.func3, Tryf.ntmps3
        go_wp2_with fail
        refine Hz.out.mono ?_
        rintro e w' ⟨rfl, rfl⟩
        go_wp2_with fail
        go_ret
        exact ⟨rfl, Below.refl _ _⟩
      have c4 : (s.size : Int) + 1 < k := by omega
      clear hin
      go_enter Tryf.func3, Tryf.ntmps3
      go_wp2_with fail
      refine Hz.out.mono ?_
      rintro e w' ⟨rfl, rfl⟩
      go_wp2_with fail
      go_ret
      exact ⟨rfl, Below.refl _ _⟩
    · have e : decide (s.size ≤ 1048576) = false := by simpa using c0
      rw [e] at hz
      have Hz := Lib.hid hz
      clear hz e hin
      go_enter Tryf.func3, Tryf.ntmps3
      go_wp2_with fail
      refine Hz.out.mono ?_
      rintro e w' ⟨rfl, rfl⟩
      go_wp2_with fail
      go_ret
      exact ⟨rfl, Below.refl _ _⟩

end Go.Proofs.YteicfaehbndlcaaFmt
