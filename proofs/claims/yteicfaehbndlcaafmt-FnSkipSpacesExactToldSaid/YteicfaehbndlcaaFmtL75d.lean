/-
  Walk of a law of n003_75: acceptRun, exactly.
-/
import Derived.Test.YteicfaehbndlcaaFmtL75c
import Derived.Test.YteicfaehbndlcaaFmtDec2
namespace Go.Proofs.YteicfaehbndlcaaFmt
open Go Go.Lib Go.RowKit Go.Proofs

theorem zzBytes_ARE (s : ByteArray) (k : Int) (v : ByteArray) (w : World) (ws : s.size ≤ maxLen) (wv : v.size ≤ maxLen) :
    Calls Tryf.prog 24 #[.string s, .int .i64 k, .string v] w fun e w' => e = .returned (.bool (decide (s.size + v.size ≤ 1048576))) ∧ w = w' := by
  unfold maxLen at ws wv
  by_cases h1 : (1048576 : Int) < (s.size : Int)
  · have hd : decide (s.size + v.size ≤ 1048576) = false := by simp; omega
    rw [hd]
    clear hd
    go_enter Tryf.func24, Tryf.ntmps24
    go_wp2_with fail
    go_ret
    exact ⟨rfl, rfl⟩
  · by_cases h2 : (1048576 : Int) < (v.size : Int)
    · have hd : decide (s.size + v.size ≤ 1048576) = false := by simp; omega
      rw [hd]
      clear hd
      go_enter Tryf.func24, Tryf.ntmps24
      go_wp2_with fail
      go_ret
      exact ⟨rfl, rfl⟩
    · by_cases h3 : (1048576 : Int) < (s.size : Int) + (v.size : Int)
      · have hd : decide (s.size + v.size ≤ 1048576) = false := by simp; omega
        rw [hd]
        clear hd
        go_enter Tryf.func24, Tryf.ntmps24
        go_wp2_with fail
        go_ret
        exact ⟨rfl, rfl⟩
      · have hd : decide (s.size + v.size ≤ 1048576) = true := by simp; omega
        rw [hd]
        clear hd
        go_enter Tryf.func24, Tryf.ntmps24
        go_wp2_with fail
        go_ret
        exact ⟨rfl, rfl⟩

theorem acceptRun_er (v s : ByteArray) (t : St) : (acceptRun v s t).er ≤ t.er + s.size := by
  have key : ∀ (n : Nat) (t : St), s.size - t.eb ≤ n → (acceptRun v s t).er ≤ t.er + n := by
    intro n
    induction n with
    | zero =>
      intro t h
      rw [acceptRun_of v s t (by
        unfold acceptB
        cases hh : has v (peek s t) with
        | false => rfl
        | true => have := peek_lt (has_ne hh); omega)]
      omega
    | succ n ih =>
      intro t h
      rw [acceptRun_eq]
      split
      · rename_i hb
        have h1 := acceptB_gt hb
        have h2 := ih (accept v s t) (by omega)
        have h3 : (accept v s t).er ≤ t.er + 1 := by
          unfold accept; rw [hb]
          show (next s t).er ≤ _
          unfold next; split <;> simp
        omega
      · omega
  have := key s.size t (by omega)
  omega

set_option maxHeartbeats 2000000 in
set_option maxRecDepth 100000 in
theorem acceptRunExact_in {W : World} (hT : Tabs W) (s : ByteArray) (k : Nat) (v : ByteArray) (hs : s.size ≤ 65536) (hv : v.size ≤ 4096) (hk : k ≤ s.size + 1) :
    Calls Tryf.prog 7 #[.string s, .int .i64 k, .string v] W fun e w' => e = .returned (.bool true) ∧ Below W.heap.size W w' := by
  have b1 : ¬ (65536 : Int) < (s.size : Int) := by omega
  have b2 : ¬ (4096 : Int) < (v.size : Int) := by omega
  have b3 : ¬ (k : Int) < 0 := by omega
  have b4 : ¬ (s.size : Int) + 1 < (k : Int) := by omega
  have Hz := Lib.hid (show decide (s.size + v.size ≤ 1048576) = true by simp; omega)
  obtain ⟨P, hP⟩ : ∃ x, (nextN s k start).eb = x := ⟨_, rfl⟩
  obtain ⟨R0, hR0⟩ : ∃ x, (nextN s k start).er = x := ⟨_, rfl⟩
  obtain ⟨tf, htf⟩ : ∃ x, acceptRun v s (nextN s k start) = x := ⟨_, rfl⟩
  have hle : P ≤ s.size := by rw [← hP]; exact nextN_le s _ start (Nat.zero_le _)
  have hr0 : R0 ≤ k := by rw [← hR0]; exact nextN_er s k
  have hrf : tf.er ≤ R0 + s.size := by rw [← htf, ← hR0]; exact acceptRun_er v s _
  have hzero : tf.sb = 0 ∧ tf.sr = 0 := by
    have := acceptRun_rest v s (nextN s k start)
    rw [htf] at this
    have h2 : ∀ (n : Nat) (t : St), (nextN s n t).sb = t.sb ∧ (nextN s n t).sr = t.sr := by
      intro n
      induction n with
      | zero => intro t; exact ⟨rfl, rfl⟩
      | succ n ih =>
        intro t
        have h3 := ih (next s t)
        have h4 : (next s t).sb = t.sb ∧ (next s t).sr = t.sr := by unfold next; split <;> exact ⟨rfl, rfl⟩
        exact ⟨h3.1.trans h4.1, h3.2.trans h4.2⟩
    exact ⟨this.1.trans (h2 k start).1, this.2.1.trans (h2 k start).2⟩
  have HP := Lib.hid hP
  have HR := Lib.hid hR0
  have HT := Lib.hid htf
  have HZ := Lib.hid hzero
  clear hP hR0 htf hzero
  go_enter Tryf.func7, Tryf.ntmps7
  go_wp2_with fail
  refine (zzBytes_ARE s k v W (by unfold maxLen; omega) (by unfold maxLen; omega)).mono ?_
  rintro e w' ⟨rfl, rfl⟩
  rw [Hz.out]
  go_wp2_with fail
  refine (zzAt_any hT (Below.refl _ _) s k (by omega) (by omega)).mono ?_
  rintro e w1 ⟨L, S, rfl, hS, H, hb1⟩
  rw [Int.toNat_natCast] at H
  go_wp2_with fail
  refine (zzPos_any s k w1 (by omega) (by omega)).mono ?_
  rintro e w2 ⟨rfl, xs, d, rfl⟩
  rw [HP.out, HR.out]
  go_wp2_with fail
  refine (zacceptRun_any (H.keep (by repeat (first | exact Below.refl _ _ | apply below_drew | apply below_drewN | apply below_alloc | apply below_grow)))).mono ?_
  rintro e w2 ⟨rfl, S2, hS2, H2, hf2⟩
  rw [HT.out] at H2
  have hb2 : Below W.heap.size W w2 := by
    have h1 : Below W.heap.size W (grow w1 xs d) := below_grow hb1
    exact h1.trans (hf2.below hS h1.size)
  clear H hf2 hS2 hS hb1
  go_wp2_with fail
  go_loopg [10, 11] (s.size + 1) (fun g q c wr => ∃ (t1 : St) (n : Nat), q = .int .i64 (t1.eb : Nat) ∧ c = .int .i64 (n : Nat) ∧ Hid (acceptRun v s t1 = tf) ∧ t1.er = R0 + n ∧ t1.eb ≤ s.size ∧ n ≤ t1.eb ∧ s.size - t1.eb < g ∧ ∃ xs d, wr = grow w2 xs d)
  case atStart => exact ⟨nextN s k start, 0, by rw [HP.out], rfl, HT, by rw [HR.out]; omega, by rw [HP.out]; exact hle, by omega, by omega, grow_of (Below.refl _ _)⟩
  case round =>
    obtain ⟨t1, n, rfl, rfl, heq, her, hle1, hn, hg, xs1, d1, rfl⟩ := hrel
    have H3 : Lx W S2 (grow w2 xs1 d1) L s tf := H2.keep (by repeat (first | exact Below.refl _ _ | apply below_drew | apply below_drewN | apply below_alloc | apply below_grow))
    have hb3 : Below W.heap.size W (grow w2 xs1 d1) := below_grow hb2
    have hend : acceptB v s t1 = false → t1 = tf := fun h => by rw [← heq.out]; exact (acceptRun_of v s t1 h).symm
    have Hend := Lib.hid hend
    clear hend
    by_cases hin : t1.eb < s.size
    · have hin' : (t1.eb : Int) < (s.size : Int) := by omega
      have w2' := wAt_le s t1.eb hin
      have w3' := wAt_pos s t1.eb hin
      have hB : acceptB v s t1 = (runesOf v).contains (rAt s t1.eb) := by unfold acceptB peek; rw [if_pos hin, has_rAt]
      cases hc : (runesOf v).contains (rAt s t1.eb) with
      | true =>
        rw [hc] at hB
        have hst : Hid (acceptRun v s (next s t1) = tf) := by
          refine Lib.hid ?_
          rw [← heq.out, acceptRun_eq v s t1, if_pos hB]
          unfold accept; rw [hB]; rfl
        have Hc := Lib.hid hc
        clear hc hB
        go_wp2_with fail
        refine (zzDecode_any s t1.eb _ hin (by omega)).mono ?_
        rintro e w4 ⟨rfl, xs4, d4, rfl⟩
        go_wp2_with fail
        refine (zzIn_any v (rAt s t1.eb) _ (by omega)).mono ?_
        rintro e w5 ⟨rfl, xs5, d5, rfl⟩
        rw [Hc.out]
        go_wp2_with fail
        go_roundg (s.size - t1.eb)
        case measure => omega
        case rel =>
          refine ⟨next s t1, n + 1, ?_, by go_num, hst, by rw [next_in hin]; show t1.er + 1 = _; omega, by rw [next_in hin]; exact w2', by rw [next_in hin]; show n + 1 ≤ t1.eb + _; omega, by rw [next_in hin]; show s.size - (t1.eb + _) < _; omega, grow_of (by repeat (first | exact Below.refl _ _ | apply below_drew | apply below_drewN | apply below_alloc | apply below_grow))⟩
          rw [next_in hin]; show Value.int .i64 _ = Value.int .i64 ((t1.eb + wAt s t1.eb : Nat) : Int); go_num
      | false =>
        rw [hc] at hB
        have ht := Hend.out hB
        have Hc := Lib.hid hc
        clear hc hB Hend heq
        subst ht
        go_wp2_with fail
        refine (zzDecode_any s t1.eb _ hin (by omega)).mono ?_
        rintro e w4 ⟨rfl, xs4, d4, rfl⟩
        go_wp2_with fail
        refine (zzIn_any v (rAt s t1.eb) _ (by omega)).mono ?_
        rintro e w5 ⟨rfl, xs5, d5, rfl⟩
        rw [Hc.out]
        have H5 : Lx W S2 (grow (grow (grow w2 xs1 d1) xs4 d4) xs5 d5) L s t1 := H3.keep (by repeat (first | exact Below.refl _ _ | apply below_drew | apply below_drewN | apply below_alloc | apply below_grow))
        go_wp2_with fail
        refine (zendByte_any H5).mono ?_
        rintro e w' ⟨rfl, rfl⟩
        go_wp2_with fail
        refine (zendRune_any H5).mono ?_
        rintro e w' ⟨rfl, rfl⟩
        rw [her]
        go_wp2_with fail
        refine (zstartByte_any H5).mono ?_
        rintro e w' ⟨rfl, rfl⟩
        rw [HZ.out.1]
        go_wp2_with fail
        refine (zstartRune_any H5).mono ?_
        rintro e w' ⟨rfl, rfl⟩
        rw [HZ.out.2]
        go_wp2_with fail
        go_ret
        exact ⟨rfl, below_grow (below_grow hb3)⟩
    · have hin' : ¬ (t1.eb : Int) < (s.size : Int) := by omega
      have hB : acceptB v s t1 = false := by
        unfold acceptB
        cases hh : has v (peek s t1) with
        | false => rfl
        | true => exact absurd (peek_lt (has_ne hh)) hin
      have ht := Hend.out hB
      clear hB Hend heq
      subst ht
      go_wp2_with fail
      refine (zendByte_any H3).mono ?_
      rintro e w' ⟨rfl, rfl⟩
      go_wp2_with fail
      refine (zendRune_any H3).mono ?_
      rintro e w' ⟨rfl, rfl⟩
      rw [her]
      go_wp2_with fail
      refine (zstartByte_any H3).mono ?_
      rintro e w' ⟨rfl, rfl⟩
      rw [HZ.out.1]
      go_wp2_with fail
      refine (zstartRune_any H3).mono ?_
      rintro e w' ⟨rfl, rfl⟩
      rw [HZ.out.2]
      go_wp2_with fail
      go_ret
      exact ⟨rfl, hb3⟩

set_option maxHeartbeats 1000000 in
set_option maxRecDepth 100000 in
theorem acceptRunExact_walk {W : World} (hT : Tabs W) (F : Stop.Interp) (_ : F.answers W.tape) (s : ByteArray) (k : Int) (v : ByteArray) (ws : s.size ≤ maxLen) (wv : v.size ≤ maxLen) (hk0 : -9223372036854775808 ≤ k) (hk1 : k ≤ 9223372036854775807) :
    Calls Tryf.prog 7 #[.string s, .int .i64 k, .string v] W fun e w' => e = .returned (.bool true) ∧ Below W.heap.size W w' := by
  by_cases hin : s.size ≤ 65536 ∧ v.size ≤ 4096 ∧ 0 ≤ k ∧ k ≤ (s.size : Int) + 1
  · obtain ⟨k, rfl⟩ := Int.eq_ofNat_of_zero_le hin.2.2.1
    exact acceptRunExact_in hT s k v hin.1 hin.2.1 (by omega)
  · have w1 := ws
    unfold maxLen at w1
    obtain ⟨b, hb⟩ : ∃ b, decide (s.size + v.size ≤ 1048576) = b := ⟨_, rfl⟩
    have hz := zzBytes_ARE s k v W ws wv
    rw [hb] at hz
    clear hb
    have Hz := Lib.hid hz
    clear hz
    cases b with
    | false =>
      go_enter Tryf.func7, Tryf.ntmps7
      go_wp2_with fail
      refine Hz.out.mono ?_
      rintro e w' ⟨rfl, rfl⟩
      go_wp2_with fail
      go_ret
      exact ⟨rfl, Below.refl _ _⟩
    | true =>
      by_cases c1 : (65536 : Int) < (s.size : Int)
      · clear hin
        go_enter Tryf.func7, Tryf.ntmps7
        go_wp2_with fail
        refine Hz.out.mono ?_
        rintro e w' ⟨rfl, rfl⟩
        go_wp2_with fail
        go_ret
        exact ⟨rfl, Below.refl _ _⟩
      by_cases c2 : (4096 : Int) < (v.size : Int)
      · clear hin
        go_enter Tryf.func7, Tryf.ntmps7
        go_wp2_with fail
        refine Hz.out.mono ?_
        rintro e w' ⟨rfl, rfl⟩
        go_wp2_with fail
        go_ret
        exact ⟨rfl, Below.refl _ _⟩
      by_cases c3 : k < 0
      · clear hin
        go_enter Tryf.func7, Tryf.ntmps7
        go_wp2_with fail
        refine Hz.out.mono ?_
        rintro e w' ⟨rfl, rfl⟩
        go_wp2_with fail
        go_ret
        exact ⟨rfl, Below.refl _ _⟩
      have c4 : (s.size : Int) + 1 < k := by omega
      clear hin
      go_enter Tryf.func7, Tryf.ntmps7
      go_wp2_with fail
      refine Hz.out.mono ?_
      rintro e w' ⟨rfl, rfl⟩
      go_wp2_with fail
      go_ret
      exact ⟨rfl, Below.refl _ _⟩

end Go.Proofs.YteicfaehbndlcaaFmt
