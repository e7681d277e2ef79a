/-
  Walks: lower, digitVal, scanDigits, scanEscape, scanString (printed by genscan.py).
-/
import Derived.Test.YtdpdgppjeekcmaaFmtAccs
import Derived.Test.YtdpdgppjeekcmaaFmtErr
namespace Go.Proofs.YtdpdgppjeekcmaaFmt
open Go Go.Lib Go.RowKit Go.Proofs
open Go.Extern.Stop Go.Stop Go.Extern

theorem digitVal_lo {r : Int} (h : 48 ≤ r ∧ r ≤ 57) : digitVal r = r - 48 := by unfold digitVal; rw [if_pos h]
theorem digitVal_bounds (r : Int) : 0 ≤ digitVal r ∧ digitVal r ≤ 16 := by unfold digitVal; split; omega; split; omega; split <;> omega


/-- lower's bits. -/
def lowB (r : Int) : Int := bits BinOp.or .i32 32 r
theorem lowB_small : ∀ n : Nat, n < 128 → lowB (n : Int) = if 64 ≤ n ∧ n < 96 then ((n + 32 : Nat) : Int) else if n < 32 then ((n + 32 : Nat) : Int) else (n : Int) := by decide +kernel
theorem lowB_nat (r : Int) (_h0 : -2147483648 ≤ r) (_h1 : r ≤ 2147483647) : ∃ m : Nat, lowB r = IntKind.i32.wrap (m : Int) ∧ (r % 4294967296).toNat ≤ m ∧ m < 4294967296 := by
  refine ⟨(BitVec.ofInt 32 32 ||| BitVec.ofInt 32 r).toNat, rfl, ?_, (BitVec.ofInt 32 32 ||| BitVec.ofInt 32 r).isLt⟩
  rw [BitVec.toNat_or]
  have h : (BitVec.ofInt 32 r).toNat = (r % 4294967296).toNat := by simp [BitVec.toNat_ofInt]
  rw [← h]
  exact Nat.right_le_or
theorem lowB_big (r : Int) (h0 : -2147483648 ≤ r) (h1 : r ≤ 2147483647) (h : r < 0 ∨ 128 ≤ r) : lowB r < 0 ∨ 128 ≤ lowB r := by
  obtain ⟨m, e, h2, h3⟩ := lowB_nat r h0 h1
  rw [e, IntKind.wrap_i32]
  omega
theorem lowB_in (r : Int) (h0 : -2147483648 ≤ r) (h1 : r ≤ 2147483647) : -2147483648 ≤ lowB r ∧ lowB r ≤ 2147483647 := by
  obtain ⟨m, e, h2, h3⟩ := lowB_nat r h0 h1
  rw [e, IntKind.wrap_i32]
  omega
theorem lowB_hit (r : Int) (h : (97 ≤ r ∧ r ≤ 102) ∨ (65 ≤ r ∧ r ≤ 70)) : 97 ≤ lowB r ∧ lowB r ≤ 102 ∧ digitVal r = lowB r - 97 + 10 := by
  obtain ⟨n, rfl⟩ := Int.eq_ofNat_of_zero_le (show 0 ≤ r by omega)
  have e := lowB_small n (by omega)
  rcases h with h | h
  · rw [if_neg (by omega), if_neg (by omega)] at e
    rw [e]
    refine ⟨by omega, by omega, ?_⟩
    unfold digitVal
    rw [if_neg (by omega), if_pos (by omega)]
    omega
  · rw [if_pos (by omega)] at e
    rw [e]
    refine ⟨by omega, by omega, ?_⟩
    unfold digitVal
    rw [if_neg (by omega), if_neg (by omega), if_pos (by omega)]
    omega
theorem lowB_miss (r : Int) (h0 : -2147483648 ≤ r) (h1 : r ≤ 2147483647) (h : ¬ ((97 ≤ r ∧ r ≤ 102) ∨ (65 ≤ r ∧ r ≤ 70))) : lowB r < 97 ∨ 102 < lowB r := by
  by_cases hb : r < 0 ∨ 128 ≤ r
  · have := lowB_big r h0 h1 hb
    omega
  · obtain ⟨n, rfl⟩ := Int.eq_ofNat_of_zero_le (show 0 ≤ r by omega)
    have := lowB_small n (by omega)
    rw [this]
    split
    · omega
    · split <;> omega
set_option maxRecDepth 100000 in
theorem lower_any (r : Int) (w : World) : Calls Tryf.prog 113 #[.int .i32 r] w fun e w' => e = .returned (.int .i32 (lowB r)) ∧ w = w' := by
  go_enter Tryf.func113, Tryf.ntmps113
  go_wp2_with fail
  go_ret
  exact ⟨rfl, rfl⟩
set_option maxRecDepth 100000 in
theorem digitVal_num (r : Int) (w : World) (h : 48 ≤ r) (h2 : r ≤ 57) :
    Calls Tryf.prog 100 #[.int .i32 r] w fun e w' => e = .returned (.int .i64 (digitVal r)) ∧ w = w' := by
  have hd : digitVal r = r - 48 := by unfold digitVal; rw [if_pos ⟨h, h2⟩]
  rw [hd]
  clear hd
  go_enter Tryf.func100, Tryf.ntmps100
  go_wp2_with fail
  go_ret
  exact ⟨rfl, rfl⟩
set_option maxRecDepth 100000 in
theorem digitVal_any (r : Int) (w : World) (h0 : -2147483648 ≤ r) (h1 : r ≤ 2147483647) :
    Calls Tryf.prog 100 #[.int .i32 r] w fun e w' => e = .returned (.int .i64 (digitVal r)) ∧ w = w' := by
  by_cases h : 48 ≤ r ∧ r ≤ 57
  · exact digitVal_num r w h.1 h.2
  have hb := lowB_in r h0 h1
  have hl := lower_any r
  obtain ⟨x, hx⟩ : ∃ x, lowB r = x := ⟨_, rfl⟩
  have hit := lowB_hit r
  have miss := lowB_miss r h0 h1
  rw [hx] at hb hl hit miss
  clear hx
  have hcut : r < 48 ∨ 57 < r := by omega
  by_cases hh : (97 ≤ r ∧ r ≤ 102) ∨ (65 ≤ r ∧ r ≤ 70)
  · obtain ⟨a, b, c⟩ := hit hh
    rw [c]
    have h48 : 48 ≤ r := by omega
    have h57 : ¬ r ≤ 57 := by omega
    clear hit miss hh hcut h c
    have Hl := Lib.hid hl
    clear hl
    go_enter Tryf.func100, Tryf.ntmps100
    go_wp2_with (go_at_call 113; refine (Hl.out _).mono ?_; rintro e w' ⟨rfl, rfl⟩)
    go_ret
    exact ⟨rfl, rfl⟩
  · have m := miss hh
    have hd : digitVal r = 16 := by unfold digitVal; rw [if_neg (by omega), if_neg (by omega), if_neg (by omega)]
    rw [hd]
    clear hit miss hh h hd
    have Hl := Lib.hid hl
    clear hl
    rcases hcut with hc | hc
    · rcases m with m | m
      · go_enter Tryf.func100, Tryf.ntmps100
        go_wp2_with (go_at_call 113; refine (Hl.out _).mono ?_; rintro e w' ⟨rfl, rfl⟩)
        go_ret
        exact ⟨rfl, rfl⟩
      · go_enter Tryf.func100, Tryf.ntmps100
        go_wp2_with (go_at_call 113; refine (Hl.out _).mono ?_; rintro e w' ⟨rfl, rfl⟩)
        go_ret
        exact ⟨rfl, rfl⟩
    · have h48 : 48 ≤ r := by omega
      have h57 : ¬ r ≤ 57 := by omega
      rcases m with m | m
      · go_enter Tryf.func100, Tryf.ntmps100
        go_wp2_with (go_at_call 113; refine (Hl.out _).mono ?_; rintro e w' ⟨rfl, rfl⟩)
        go_ret
        exact ⟨rfl, rfl⟩
      · go_enter Tryf.func100, Tryf.ntmps100
        go_wp2_with (go_at_call 113; refine (Hl.out _).mono ?_; rintro e w' ⟨rfl, rfl⟩)
        go_ret
        exact ⟨rfl, rfl⟩

set_option maxHeartbeats 1000000 in
set_option maxRecDepth 100000 in
theorem scanDigits_any {F : Stop.Interp} {W0 w : World} {S : Nat → Prop} {L : Nat} {s : ByteArray} {t : St} (hF : F.answers W0.tape) (H : Lx W0 S w L s t) (base ch n : Int) (h0 : -2147483648 ≤ ch) (h1 : ch ≤ 2147483647) (hn : n ≤ 1099511627776) (hn0 : -9223372036854775808 ≤ n) :
    Calls Tryf.prog 99 #[.pointer (some ⟨L, 0, none⟩), .int .i32 ch, .int .i64 base, .int .i64 n] w fun e w' => e = .returned (.int .i32 (scanDigits s base n.toNat ch t).1) ∧ Done W0 S w L s (scanDigits s base n.toNat ch t).2 w' := by
  go_enter Tryf.func99, Tryf.ntmps99
  go_wp2_with fail
  go_loopg [1, 3] (n.toNat + 1) (fun g cv nv wr => ∃ (S1 : Nat → Prop) (t1 : St) (c1 m : Int), cv = .int .i32 c1 ∧ nv = .int .i64 m ∧ Acc S w S1 wr ∧ Lx W0 S1 wr L s t1 ∧ Hid (scanDigits s base m.toNat c1 t1 = scanDigits s base n.toNat ch t) ∧ m.toNat < g ∧ m ≤ n ∧ -9223372036854775808 ≤ m ∧ -2147483648 ≤ c1 ∧ c1 ≤ 2147483647)
  case atStart => exact ⟨S, t, ch, n, rfl, rfl, Acc.refl S w, H, Lib.hid rfl, by omega, by omega, hn0, h0, h1⟩
  case round =>
    obtain ⟨S1, t1, c1, m, rfl, rfl, A1, H1, heq, hg, hm, hm0, hc0, hc1⟩ := hrel
    by_cases hp : 0 < m
    · obtain ⟨k, hk⟩ : ∃ k, m.toNat = k + 1 := ⟨m.toNat - 1, by omega⟩
      have hk2 : (m - 1).toNat = k := by omega
      by_cases hd : digitVal c1 < base
      · have hst : Hid (scanDigits s base k (peek s t1) (next s t1) = scanDigits s base n.toNat ch t) := by
          refine Lib.hid ?_
          rw [← heq.out, hk, scanDigits, if_pos hd]
        have hlo := peek_lo s t1
        have hhi := peek_hi s t1
        have Hk2 := Lib.hid hk2
        clear heq hk2
        go_wp2_with fail
        refine (digitVal_any c1 _ hc0 hc1).mono ?_
        rintro e w' ⟨rfl, rfl⟩
        go_wp2_with fail
        refine (next_any H1).mono ?_
        rintro e w2 ⟨rfl, S2, hS2, H2, hf2⟩
        have A2 := Acc.step A1 hS2 hf2
        go_wp2_with fail
        go_roundg m.toNat
        case measure => omega
        case rel => exact ⟨S2, next s t1, peek s t1, m - 1, rfl, by go_num, A2, H2, by rw [Hk2.out]; exact hst, by omega, by omega, by omega, by omega, by omega⟩
      · have hst : scanDigits s base n.toNat ch t = (c1, error t1) := by rw [← heq.out, hk, scanDigits, if_neg hd]
        have Hst := Lib.hid hst
        clear heq hst
        go_wp2_with fail
        refine (digitVal_any c1 _ hc0 hc1).mono ?_
        rintro e w' ⟨rfl, rfl⟩
        go_wp2_with fail
        refine (error_m0 hF H1).mono ?_
        rintro e w2 ⟨rfl, S2, hS2, H2, hf2⟩
        have A2 := Acc.step A1 hS2 hf2
        go_wp2_with fail
        go_ret
        rw [Hst.out]
        exact ⟨rfl, A2.done H2⟩
    · have hst : scanDigits s base n.toNat ch t = (c1, t1) := by rw [← heq.out, show m.toNat = 0 by omega]; rfl
      have Hst := Lib.hid hst
      clear heq hst
      go_wp2_with fail
      go_ret
      rw [Hst.out]
      exact ⟨rfl, A1.done H1⟩

set_option maxHeartbeats 4000000 in
set_option maxRecDepth 100000 in
theorem esc_s97 {F : Stop.Interp} {W0 w : World} {S : Nat → Prop} {L : Nat} {s : ByteArray} {t : St} (_hF : F.answers W0.tape) (H : Lx W0 S w L s t) (quote : Int) (hr : peek s t = 97) :
    Calls Tryf.prog 69 #[.pointer (some ⟨L, 0, none⟩), .int .i32 quote] w fun e w' => e = .returned (.int .i32 (scanEscape s quote t).1) ∧ Done W0 S w L s (scanEscape s quote t).2 w' := by
  have A0 := Acc.refl S w
  have hlo := peek_lo s t
  have hhi := peek_hi s t
  have hst : scanEscape s quote t = (peek s (next s t), next s (next s t)) := by unfold scanEscape; dsimp only; rw [hr, if_pos (by rfl)]
  have Hr := Lib.hid hr
  clear hr
  rw [hst]
  clear hst
  go_enter Tryf.func69, Tryf.ntmps69
  go_wp2_with fail
  refine (next_any H).mono ?_
  rintro e w1 ⟨rfl, S1, hS1, H1, hf1⟩
  have A1 := Acc.step A0 hS1 hf1
  rw [Hr.out]
  go_wp2_with fail
  refine (next_any H1).mono ?_
  rintro e w2 ⟨rfl, S2, hS2, H2, hf2⟩
  have A2 := Acc.step A1 hS2 hf2
  go_wp2_with fail
  go_ret
  exact ⟨rfl, A2.done H2⟩

set_option maxHeartbeats 4000000 in
set_option maxRecDepth 100000 in
theorem esc_s98 {F : Stop.Interp} {W0 w : World} {S : Nat → Prop} {L : Nat} {s : ByteArray} {t : St} (_hF : F.answers W0.tape) (H : Lx W0 S w L s t) (quote : Int) (hr : peek s t = 98) :
    Calls Tryf.prog 69 #[.pointer (some ⟨L, 0, none⟩), .int .i32 quote] w fun e w' => e = .returned (.int .i32 (scanEscape s quote t).1) ∧ Done W0 S w L s (scanEscape s quote t).2 w' := by
  have A0 := Acc.refl S w
  have hlo := peek_lo s t
  have hhi := peek_hi s t
  have hst : scanEscape s quote t = (peek s (next s t), next s (next s t)) := by unfold scanEscape; dsimp only; rw [hr, if_pos (by rfl)]
  have Hr := Lib.hid hr
  clear hr
  rw [hst]
  clear hst
  go_enter Tryf.func69, Tryf.ntmps69
  go_wp2_with fail
  refine (next_any H).mono ?_
  rintro e w1 ⟨rfl, S1, hS1, H1, hf1⟩
  have A1 := Acc.step A0 hS1 hf1
  rw [Hr.out]
  go_wp2_with fail
  refine (next_any H1).mono ?_
  rintro e w2 ⟨rfl, S2, hS2, H2, hf2⟩
  have A2 := Acc.step A1 hS2 hf2
  go_wp2_with fail
  go_ret
  exact ⟨rfl, A2.done H2⟩

set_option maxHeartbeats 4000000 in
set_option maxRecDepth 100000 in
theorem esc_s102 {F : Stop.Interp} {W0 w : World} {S : Nat → Prop} {L : Nat} {s : ByteArray} {t : St} (_hF : F.answers W0.tape) (H : Lx W0 S w L s t) (quote : Int) (hr : peek s t = 102) :
    Calls Tryf.prog 69 #[.pointer (some ⟨L, 0, none⟩), .int .i32 quote] w fun e w' => e = .returned (.int .i32 (scanEscape s quote t).1) ∧ Done W0 S w L s (scanEscape s quote t).2 w' := by
  have A0 := Acc.refl S w
  have hlo := peek_lo s t
  have hhi := peek_hi s t
  have hst : scanEscape s quote t = (peek s (next s t), next s (next s t)) := by unfold scanEscape; dsimp only; rw [hr, if_pos (by rfl)]
  have Hr := Lib.hid hr
  clear hr
  rw [hst]
  clear hst
  go_enter Tryf.func69, Tryf.ntmps69
  go_wp2_with fail
  refine (next_any H).mono ?_
  rintro e w1 ⟨rfl, S1, hS1, H1, hf1⟩
  have A1 := Acc.step A0 hS1 hf1
  rw [Hr.out]
  go_wp2_with fail
  refine (next_any H1).mono ?_
  rintro e w2 ⟨rfl, S2, hS2, H2, hf2⟩
  have A2 := Acc.step A1 hS2 hf2
  go_wp2_with fail
  go_ret
  exact ⟨rfl, A2.done H2⟩

set_option maxHeartbeats 4000000 in
set_option maxRecDepth 100000 in
theorem esc_s110 {F : Stop.Interp} {W0 w : World} {S : Nat → Prop} {L : Nat} {s : ByteArray} {t : St} (_hF : F.answers W0.tape) (H : Lx W0 S w L s t) (quote : Int) (hr : peek s t = 110) :
    Calls Tryf.prog 69 #[.pointer (some ⟨L, 0, none⟩), .int .i32 quote] w fun e w' => e = .returned (.int .i32 (scanEscape s quote t).1) ∧ Done W0 S w L s (scanEscape s quote t).2 w' := by
  have A0 := Acc.refl S w
  have hlo := peek_lo s t
  have hhi := peek_hi s t
  have hst : scanEscape s quote t = (peek s (next s t), next s (next s t)) := by unfold scanEscape; dsimp only; rw [hr, if_pos (by rfl)]
  have Hr := Lib.hid hr
  clear hr
  rw [hst]
  clear hst
  go_enter Tryf.func69, Tryf.ntmps69
  go_wp2_with fail
  refine (next_any H).mono ?_
  rintro e w1 ⟨rfl, S1, hS1, H1, hf1⟩
  have A1 := Acc.step A0 hS1 hf1
  rw [Hr.out]
  go_wp2_with fail
  refine (next_any H1).mono ?_
  rintro e w2 ⟨rfl, S2, hS2, H2, hf2⟩
  have A2 := Acc.step A1 hS2 hf2
  go_wp2_with fail
  go_ret
  exact ⟨rfl, A2.done H2⟩

set_option maxHeartbeats 4000000 in
set_option maxRecDepth 100000 in
theorem esc_s114 {F : Stop.Interp} {W0 w : World} {S : Nat → Prop} {L : Nat} {s : ByteArray} {t : St} (_hF : F.answers W0.tape) (H : Lx W0 S w L s t) (quote : Int) (hr : peek s t = 114) :
    Calls Tryf.prog 69 #[.pointer (some ⟨L, 0, none⟩), .int .i32 quote] w fun e w' => e = .returned (.int .i32 (scanEscape s quote t).1) ∧ Done W0 S w L s (scanEscape s quote t).2 w' := by
  have A0 := Acc.refl S w
  have hlo := peek_lo s t
  have hhi := peek_hi s t
  have hst : scanEscape s quote t = (peek s (next s t), next s (next s t)) := by unfold scanEscape; dsimp only; rw [hr, if_pos (by rfl)]
  have Hr := Lib.hid hr
  clear hr
  rw [hst]
  clear hst
  go_enter Tryf.func69, Tryf.ntmps69
  go_wp2_with fail
  refine (next_any H).mono ?_
  rintro e w1 ⟨rfl, S1, hS1, H1, hf1⟩
  have A1 := Acc.step A0 hS1 hf1
  rw [Hr.out]
  go_wp2_with fail
  refine (next_any H1).mono ?_
  rintro e w2 ⟨rfl, S2, hS2, H2, hf2⟩
  have A2 := Acc.step A1 hS2 hf2
  go_wp2_with fail
  go_ret
  exact ⟨rfl, A2.done H2⟩

set_option maxHeartbeats 4000000 in
set_option maxRecDepth 100000 in
theorem esc_s116 {F : Stop.Interp} {W0 w : World} {S : Nat → Prop} {L : Nat} {s : ByteArray} {t : St} (_hF : F.answers W0.tape) (H : Lx W0 S w L s t) (quote : Int) (hr : peek s t = 116) :
    Calls Tryf.prog 69 #[.pointer (some ⟨L, 0, none⟩), .int .i32 quote] w fun e w' => e = .returned (.int .i32 (scanEscape s quote t).1) ∧ Done W0 S w L s (scanEscape s quote t).2 w' := by
  have A0 := Acc.refl S w
  have hlo := peek_lo s t
  have hhi := peek_hi s t
  have hst : scanEscape s quote t = (peek s (next s t), next s (next s t)) := by unfold scanEscape; dsimp only; rw [hr, if_pos (by rfl)]
  have Hr := Lib.hid hr
  clear hr
  rw [hst]
  clear hst
  go_enter Tryf.func69, Tryf.ntmps69
  go_wp2_with fail
  refine (next_any H).mono ?_
  rintro e w1 ⟨rfl, S1, hS1, H1, hf1⟩
  have A1 := Acc.step A0 hS1 hf1
  rw [Hr.out]
  go_wp2_with fail
  refine (next_any H1).mono ?_
  rintro e w2 ⟨rfl, S2, hS2, H2, hf2⟩
  have A2 := Acc.step A1 hS2 hf2
  go_wp2_with fail
  go_ret
  exact ⟨rfl, A2.done H2⟩

set_option maxHeartbeats 4000000 in
set_option maxRecDepth 100000 in
theorem esc_s118 {F : Stop.Interp} {W0 w : World} {S : Nat → Prop} {L : Nat} {s : ByteArray} {t : St} (_hF : F.answers W0.tape) (H : Lx W0 S w L s t) (quote : Int) (hr : peek s t = 118) :
    Calls Tryf.prog 69 #[.pointer (some ⟨L, 0, none⟩), .int .i32 quote] w fun e w' => e = .returned (.int .i32 (scanEscape s quote t).1) ∧ Done W0 S w L s (scanEscape s quote t).2 w' := by
  have A0 := Acc.refl S w
  have hlo := peek_lo s t
  have hhi := peek_hi s t
  have hst : scanEscape s quote t = (peek s (next s t), next s (next s t)) := by unfold scanEscape; dsimp only; rw [hr, if_pos (by rfl)]
  have Hr := Lib.hid hr
  clear hr
  rw [hst]
  clear hst
  go_enter Tryf.func69, Tryf.ntmps69
  go_wp2_with fail
  refine (next_any H).mono ?_
  rintro e w1 ⟨rfl, S1, hS1, H1, hf1⟩
  have A1 := Acc.step A0 hS1 hf1
  rw [Hr.out]
  go_wp2_with fail
  refine (next_any H1).mono ?_
  rintro e w2 ⟨rfl, S2, hS2, H2, hf2⟩
  have A2 := Acc.step A1 hS2 hf2
  go_wp2_with fail
  go_ret
  exact ⟨rfl, A2.done H2⟩

set_option maxHeartbeats 4000000 in
set_option maxRecDepth 100000 in
theorem esc_s92 {F : Stop.Interp} {W0 w : World} {S : Nat → Prop} {L : Nat} {s : ByteArray} {t : St} (_hF : F.answers W0.tape) (H : Lx W0 S w L s t) (quote : Int) (hr : peek s t = 92) :
    Calls Tryf.prog 69 #[.pointer (some ⟨L, 0, none⟩), .int .i32 quote] w fun e w' => e = .returned (.int .i32 (scanEscape s quote t).1) ∧ Done W0 S w L s (scanEscape s quote t).2 w' := by
  have A0 := Acc.refl S w
  have hlo := peek_lo s t
  have hhi := peek_hi s t
  have hst : scanEscape s quote t = (peek s (next s t), next s (next s t)) := by unfold scanEscape; dsimp only; rw [hr, if_pos (by rfl)]
  have Hr := Lib.hid hr
  clear hr
  rw [hst]
  clear hst
  go_enter Tryf.func69, Tryf.ntmps69
  go_wp2_with fail
  refine (next_any H).mono ?_
  rintro e w1 ⟨rfl, S1, hS1, H1, hf1⟩
  have A1 := Acc.step A0 hS1 hf1
  rw [Hr.out]
  go_wp2_with fail
  refine (next_any H1).mono ?_
  rintro e w2 ⟨rfl, S2, hS2, H2, hf2⟩
  have A2 := Acc.step A1 hS2 hf2
  go_wp2_with fail
  go_ret
  exact ⟨rfl, A2.done H2⟩

set_option maxHeartbeats 4000000 in
set_option maxRecDepth 100000 in
theorem esc_quote {F : Stop.Interp} {W0 w : World} {S : Nat → Prop} {L : Nat} {s : ByteArray} {t : St} (_hF : F.answers W0.tape) (H : Lx W0 S w L s t) (quote : Int) (hs : isSimple (peek s t) = false) (hq : peek s t = quote) :
    Calls Tryf.prog 69 #[.pointer (some ⟨L, 0, none⟩), .int .i32 quote] w fun e w' => e = .returned (.int .i32 (scanEscape s quote t).1) ∧ Done W0 S w L s (scanEscape s quote t).2 w' := by
  have A0 := Acc.refl S w
  have hlo := peek_lo s t
  have hhi := peek_hi s t
  have hst : scanEscape s quote t = (peek s (next s t), next s (next s t)) := by unfold scanEscape; dsimp only; rw [if_pos (by rw [hq]; simp)]
  have n97 : (peek s t == 97) = false := by rw [beq_eq_false_iff_ne]; intro e; rw [e] at hs; exact absurd hs (by decide)
  have n98 : (peek s t == 98) = false := by rw [beq_eq_false_iff_ne]; intro e; rw [e] at hs; exact absurd hs (by decide)
  have n102 : (peek s t == 102) = false := by rw [beq_eq_false_iff_ne]; intro e; rw [e] at hs; exact absurd hs (by decide)
  have n110 : (peek s t == 110) = false := by rw [beq_eq_false_iff_ne]; intro e; rw [e] at hs; exact absurd hs (by decide)
  have n114 : (peek s t == 114) = false := by rw [beq_eq_false_iff_ne]; intro e; rw [e] at hs; exact absurd hs (by decide)
  have n116 : (peek s t == 116) = false := by rw [beq_eq_false_iff_ne]; intro e; rw [e] at hs; exact absurd hs (by decide)
  have n118 : (peek s t == 118) = false := by rw [beq_eq_false_iff_ne]; intro e; rw [e] at hs; exact absurd hs (by decide)
  have n92 : (peek s t == 92) = false := by rw [beq_eq_false_iff_ne]; intro e; rw [e] at hs; exact absurd hs (by decide)
  have Hs := Lib.hid hs
  have Hq : (peek s t == quote) = true := by rw [hq]; simp
  clear hs hq
  rw [hst]
  clear hst
  go_enter Tryf.func69, Tryf.ntmps69
  go_wp2_with fail
  refine (next_any H).mono ?_
  rintro e w1 ⟨rfl, S1, hS1, H1, hf1⟩
  have A1 := Acc.step A0 hS1 hf1
  go_wp2_with fail
  refine (next_any H1).mono ?_
  rintro e w2 ⟨rfl, S2, hS2, H2, hf2⟩
  have A2 := Acc.step A1 hS2 hf2
  go_wp2_with fail
  go_ret
  exact ⟨rfl, A2.done H2⟩

set_option maxHeartbeats 4000000 in
set_option maxRecDepth 100000 in
theorem esc_o48 {F : Stop.Interp} {W0 w : World} {S : Nat → Prop} {L : Nat} {s : ByteArray} {t : St} (hF : F.answers W0.tape) (H : Lx W0 S w L s t) (quote : Int) (hr : peek s t = 48) (hq : quote ≠ 48) :
    Calls Tryf.prog 69 #[.pointer (some ⟨L, 0, none⟩), .int .i32 quote] w fun e w' => e = .returned (.int .i32 (scanEscape s quote t).1) ∧ Done W0 S w L s (scanEscape s quote t).2 w' := by
  have A0 := Acc.refl S w
  have hlo := peek_lo s t
  have hhi := peek_hi s t
  have hst : scanEscape s quote t = scanDigits s 8 (3 : Int).toNat 48 (next s t) := by unfold scanEscape; dsimp only; rw [hr, if_neg (by simp [isSimple]; omega), if_pos (by omega)]; rfl
  have nq : ((48 : Int) == quote) = false := by rw [beq_eq_false_iff_ne]; exact fun e => hq e.symm
  have Hr := Lib.hid hr
  clear hr hq
  rw [hst]
  clear hst
  go_enter Tryf.func69, Tryf.ntmps69
  go_wp2_with fail
  refine (next_any H).mono ?_
  rintro e w1 ⟨rfl, S1, hS1, H1, hf1⟩
  have A1 := Acc.step A0 hS1 hf1
  rw [Hr.out]
  go_wp2_with fail
  refine (scanDigits_any hF H1 8 48 3 (by omega) (by omega) (by omega) (by omega)).mono ?_
  rintro e w2 ⟨rfl, S2, hS2, H2, hf2⟩
  have A2 := Acc.step A1 hS2 hf2
  go_wp2_with fail
  go_ret
  exact ⟨rfl, A2.done H2⟩

set_option maxHeartbeats 4000000 in
set_option maxRecDepth 100000 in
theorem esc_o49 {F : Stop.Interp} {W0 w : World} {S : Nat → Prop} {L : Nat} {s : ByteArray} {t : St} (hF : F.answers W0.tape) (H : Lx W0 S w L s t) (quote : Int) (hr : peek s t = 49) (hq : quote ≠ 49) :
    Calls Tryf.prog 69 #[.pointer (some ⟨L, 0, none⟩), .int .i32 quote] w fun e w' => e = .returned (.int .i32 (scanEscape s quote t).1) ∧ Done W0 S w L s (scanEscape s quote t).2 w' := by
  have A0 := Acc.refl S w
  have hlo := peek_lo s t
  have hhi := peek_hi s t
  have hst : scanEscape s quote t = scanDigits s 8 (3 : Int).toNat 49 (next s t) := by unfold scanEscape; dsimp only; rw [hr, if_neg (by simp [isSimple]; omega), if_pos (by omega)]; rfl
  have nq : ((49 : Int) == quote) = false := by rw [beq_eq_false_iff_ne]; exact fun e => hq e.symm
  have Hr := Lib.hid hr
  clear hr hq
  rw [hst]
  clear hst
  go_enter Tryf.func69, Tryf.ntmps69
  go_wp2_with fail
  refine (next_any H).mono ?_
  rintro e w1 ⟨rfl, S1, hS1, H1, hf1⟩
  have A1 := Acc.step A0 hS1 hf1
  rw [Hr.out]
  go_wp2_with fail
  refine (scanDigits_any hF H1 8 49 3 (by omega) (by omega) (by omega) (by omega)).mono ?_
  rintro e w2 ⟨rfl, S2, hS2, H2, hf2⟩
  have A2 := Acc.step A1 hS2 hf2
  go_wp2_with fail
  go_ret
  exact ⟨rfl, A2.done H2⟩

set_option maxHeartbeats 4000000 in
set_option maxRecDepth 100000 in
theorem esc_o50 {F : Stop.Interp} {W0 w : World} {S : Nat → Prop} {L : Nat} {s : ByteArray} {t : St} (hF : F.answers W0.tape) (H : Lx W0 S w L s t) (quote : Int) (hr : peek s t = 50) (hq : quote ≠ 50) :
    Calls Tryf.prog 69 #[.pointer (some ⟨L, 0, none⟩), .int .i32 quote] w fun e w' => e = .returned (.int .i32 (scanEscape s quote t).1) ∧ Done W0 S w L s (scanEscape s quote t).2 w' := by
  have A0 := Acc.refl S w
  have hlo := peek_lo s t
  have hhi := peek_hi s t
  have hst : scanEscape s quote t = scanDigits s 8 (3 : Int).toNat 50 (next s t) := by unfold scanEscape; dsimp only; rw [hr, if_neg (by simp [isSimple]; omega), if_pos (by omega)]; rfl
  have nq : ((50 : Int) == quote) = false := by rw [beq_eq_false_iff_ne]; exact fun e => hq e.symm
  have Hr := Lib.hid hr
  clear hr hq
  rw [hst]
  clear hst
  go_enter Tryf.func69, Tryf.ntmps69
  go_wp2_with fail
  refine (next_any H).mono ?_
  rintro e w1 ⟨rfl, S1, hS1, H1, hf1⟩
  have A1 := Acc.step A0 hS1 hf1
  rw [Hr.out]
  go_wp2_with fail
  refine (scanDigits_any hF H1 8 50 3 (by omega) (by omega) (by omega) (by omega)).mono ?_
  rintro e w2 ⟨rfl, S2, hS2, H2, hf2⟩
  have A2 := Acc.step A1 hS2 hf2
  go_wp2_with fail
  go_ret
  exact ⟨rfl, A2.done H2⟩

set_option maxHeartbeats 4000000 in
set_option maxRecDepth 100000 in
theorem esc_o51 {F : Stop.Interp} {W0 w : World} {S : Nat → Prop} {L : Nat} {s : ByteArray} {t : St} (hF : F.answers W0.tape) (H : Lx W0 S w L s t) (quote : Int) (hr : peek s t = 51) (hq : quote ≠ 51) :
    Calls Tryf.prog 69 #[.pointer (some ⟨L, 0, none⟩), .int .i32 quote] w fun e w' => e = .returned (.int .i32 (scanEscape s quote t).1) ∧ Done W0 S w L s (scanEscape s quote t).2 w' := by
  have A0 := Acc.refl S w
  have hlo := peek_lo s t
  have hhi := peek_hi s t
  have hst : scanEscape s quote t = scanDigits s 8 (3 : Int).toNat 51 (next s t) := by unfold scanEscape; dsimp only; rw [hr, if_neg (by simp [isSimple]; omega), if_pos (by omega)]; rfl
  have nq : ((51 : Int) == quote) = false := by rw [beq_eq_false_iff_ne]; exact fun e => hq e.symm
  have Hr := Lib.hid hr
  clear hr hq
  rw [hst]
  clear hst
  go_enter Tryf.func69, Tryf.ntmps69
  go_wp2_with fail
  refine (next_any H).mono ?_
  rintro e w1 ⟨rfl, S1, hS1, H1, hf1⟩
  have A1 := Acc.step A0 hS1 hf1
  rw [Hr.out]
  go_wp2_with fail
  refine (scanDigits_any hF H1 8 51 3 (by omega) (by omega) (by omega) (by omega)).mono ?_
  rintro e w2 ⟨rfl, S2, hS2, H2, hf2⟩
  have A2 := Acc.step A1 hS2 hf2
  go_wp2_with fail
  go_ret
  exact ⟨rfl, A2.done H2⟩

set_option maxHeartbeats 4000000 in
set_option maxRecDepth 100000 in
theorem esc_o52 {F : Stop.Interp} {W0 w : World} {S : Nat → Prop} {L : Nat} {s : ByteArray} {t : St} (hF : F.answers W0.tape) (H : Lx W0 S w L s t) (quote : Int) (hr : peek s t = 52) (hq : quote ≠ 52) :
    Calls Tryf.prog 69 #[.pointer (some ⟨L, 0, none⟩), .int .i32 quote] w fun e w' => e = .returned (.int .i32 (scanEscape s quote t).1) ∧ Done W0 S w L s (scanEscape s quote t).2 w' := by
  have A0 := Acc.refl S w
  have hlo := peek_lo s t
  have hhi := peek_hi s t
  have hst : scanEscape s quote t = scanDigits s 8 (3 : Int).toNat 52 (next s t) := by unfold scanEscape; dsimp only; rw [hr, if_neg (by simp [isSimple]; omega), if_pos (by omega)]; rfl
  have nq : ((52 : Int) == quote) = false := by rw [beq_eq_false_iff_ne]; exact fun e => hq e.symm
  have Hr := Lib.hid hr
  clear hr hq
  rw [hst]
  clear hst
  go_enter Tryf.func69, Tryf.ntmps69
  go_wp2_with fail
  refine (next_any H).mono ?_
  rintro e w1 ⟨rfl, S1, hS1, H1, hf1⟩
  have A1 := Acc.step A0 hS1 hf1
  rw [Hr.out]
  go_wp2_with fail
  refine (scanDigits_any hF H1 8 52 3 (by omega) (by omega) (by omega) (by omega)).mono ?_
  rintro e w2 ⟨rfl, S2, hS2, H2, hf2⟩
  have A2 := Acc.step A1 hS2 hf2
  go_wp2_with fail
  go_ret
  exact ⟨rfl, A2.done H2⟩

set_option maxHeartbeats 4000000 in
set_option maxRecDepth 100000 in
theorem esc_o53 {F : Stop.Interp} {W0 w : World} {S : Nat → Prop} {L : Nat} {s : ByteArray} {t : St} (hF : F.answers W0.tape) (H : Lx W0 S w L s t) (quote : Int) (hr : peek s t = 53) (hq : quote ≠ 53) :
    Calls Tryf.prog 69 #[.pointer (some ⟨L, 0, none⟩), .int .i32 quote] w fun e w' => e = .returned (.int .i32 (scanEscape s quote t).1) ∧ Done W0 S w L s (scanEscape s quote t).2 w' := by
  have A0 := Acc.refl S w
  have hlo := peek_lo s t
  have hhi := peek_hi s t
  have hst : scanEscape s quote t = scanDigits s 8 (3 : Int).toNat 53 (next s t) := by unfold scanEscape; dsimp only; rw [hr, if_neg (by simp [isSimple]; omega), if_pos (by omega)]; rfl
  have nq : ((53 : Int) == quote) = false := by rw [beq_eq_false_iff_ne]; exact fun e => hq e.symm
  have Hr := Lib.hid hr
  clear hr hq
  rw [hst]
  clear hst
  go_enter Tryf.func69, Tryf.ntmps69
  go_wp2_with fail
  refine (next_any H).mono ?_
  rintro e w1 ⟨rfl, S1, hS1, H1, hf1⟩
  have A1 := Acc.step A0 hS1 hf1
  rw [Hr.out]
  go_wp2_with fail
  refine (scanDigits_any hF H1 8 53 3 (by omega) (by omega) (by omega) (by omega)).mono ?_
  rintro e w2 ⟨rfl, S2, hS2, H2, hf2⟩
  have A2 := Acc.step A1 hS2 hf2
  go_wp2_with fail
  go_ret
  exact ⟨rfl, A2.done H2⟩

set_option maxHeartbeats 4000000 in
set_option maxRecDepth 100000 in
theorem esc_o54 {F : Stop.Interp} {W0 w : World} {S : Nat → Prop} {L : Nat} {s : ByteArray} {t : St} (hF : F.answers W0.tape) (H : Lx W0 S w L s t) (quote : Int) (hr : peek s t = 54) (hq : quote ≠ 54) :
    Calls Tryf.prog 69 #[.pointer (some ⟨L, 0, none⟩), .int .i32 quote] w fun e w' => e = .returned (.int .i32 (scanEscape s quote t).1) ∧ Done W0 S w L s (scanEscape s quote t).2 w' := by
  have A0 := Acc.refl S w
  have hlo := peek_lo s t
  have hhi := peek_hi s t
  have hst : scanEscape s quote t = scanDigits s 8 (3 : Int).toNat 54 (next s t) := by unfold scanEscape; dsimp only; rw [hr, if_neg (by simp [isSimple]; omega), if_pos (by omega)]; rfl
  have nq : ((54 : Int) == quote) = false := by rw [beq_eq_false_iff_ne]; exact fun e => hq e.symm
  have Hr := Lib.hid hr
  clear hr hq
  rw [hst]
  clear hst
  go_enter Tryf.func69, Tryf.ntmps69
  go_wp2_with fail
  refine (next_any H).mono ?_
  rintro e w1 ⟨rfl, S1, hS1, H1, hf1⟩
  have A1 := Acc.step A0 hS1 hf1
  rw [Hr.out]
  go_wp2_with fail
  refine (scanDigits_any hF H1 8 54 3 (by omega) (by omega) (by omega) (by omega)).mono ?_
  rintro e w2 ⟨rfl, S2, hS2, H2, hf2⟩
  have A2 := Acc.step A1 hS2 hf2
  go_wp2_with fail
  go_ret
  exact ⟨rfl, A2.done H2⟩

set_option maxHeartbeats 4000000 in
set_option maxRecDepth 100000 in
theorem esc_o55 {F : Stop.Interp} {W0 w : World} {S : Nat → Prop} {L : Nat} {s : ByteArray} {t : St} (hF : F.answers W0.tape) (H : Lx W0 S w L s t) (quote : Int) (hr : peek s t = 55) (hq : quote ≠ 55) :
    Calls Tryf.prog 69 #[.pointer (some ⟨L, 0, none⟩), .int .i32 quote] w fun e w' => e = .returned (.int .i32 (scanEscape s quote t).1) ∧ Done W0 S w L s (scanEscape s quote t).2 w' := by
  have A0 := Acc.refl S w
  have hlo := peek_lo s t
  have hhi := peek_hi s t
  have hst : scanEscape s quote t = scanDigits s 8 (3 : Int).toNat 55 (next s t) := by unfold scanEscape; dsimp only; rw [hr, if_neg (by simp [isSimple]; omega), if_pos (by omega)]; rfl
  have nq : ((55 : Int) == quote) = false := by rw [beq_eq_false_iff_ne]; exact fun e => hq e.symm
  have Hr := Lib.hid hr
  clear hr hq
  rw [hst]
  clear hst
  go_enter Tryf.func69, Tryf.ntmps69
  go_wp2_with fail
  refine (next_any H).mono ?_
  rintro e w1 ⟨rfl, S1, hS1, H1, hf1⟩
  have A1 := Acc.step A0 hS1 hf1
  rw [Hr.out]
  go_wp2_with fail
  refine (scanDigits_any hF H1 8 55 3 (by omega) (by omega) (by omega) (by omega)).mono ?_
  rintro e w2 ⟨rfl, S2, hS2, H2, hf2⟩
  have A2 := Acc.step A1 hS2 hf2
  go_wp2_with fail
  go_ret
  exact ⟨rfl, A2.done H2⟩

set_option maxHeartbeats 4000000 in
set_option maxRecDepth 100000 in
theorem esc_x {F : Stop.Interp} {W0 w : World} {S : Nat → Prop} {L : Nat} {s : ByteArray} {t : St} (hF : F.answers W0.tape) (H : Lx W0 S w L s t) (quote : Int) (hr : peek s t = 120) (hq : quote ≠ 120) :
    Calls Tryf.prog 69 #[.pointer (some ⟨L, 0, none⟩), .int .i32 quote] w fun e w' => e = .returned (.int .i32 (scanEscape s quote t).1) ∧ Done W0 S w L s (scanEscape s quote t).2 w' := by
  have A0 := Acc.refl S w
  have hlo := peek_lo s t
  have hhi := peek_hi s t
  have hst : scanEscape s quote t = scanDigits s 16 (2 : Int).toNat (peek s (next s t)) (next s (next s t)) := by unfold scanEscape; dsimp only; rw [hr, if_neg (by simp [isSimple]; omega), if_neg (by omega)]; rfl
  have nq : ((120 : Int) == quote) = false := by rw [beq_eq_false_iff_ne]; exact fun e => hq e.symm
  have hlo1 := peek_lo s (next s t)
  have hhi1 := peek_hi s (next s t)
  have Hr := Lib.hid hr
  clear hr hq
  rw [hst]
  clear hst
  go_enter Tryf.func69, Tryf.ntmps69
  go_wp2_with fail
  refine (next_any H).mono ?_
  rintro e w1 ⟨rfl, S1, hS1, H1, hf1⟩
  have A1 := Acc.step A0 hS1 hf1
  rw [Hr.out]
  go_wp2_with fail
  refine (next_any H1).mono ?_
  rintro e w2 ⟨rfl, S2, hS2, H2, hf2⟩
  have A2 := Acc.step A1 hS2 hf2
  go_wp2_with fail
  refine (scanDigits_any hF H2 16 (peek s (next s t)) 2 (by omega) (by omega) (by omega) (by omega)).mono ?_
  rintro e w3 ⟨rfl, S3, hS3, H3, hf3⟩
  have A3 := Acc.step A2 hS3 hf3
  go_wp2_with fail
  go_ret
  exact ⟨rfl, A3.done H3⟩

set_option maxHeartbeats 4000000 in
set_option maxRecDepth 100000 in
theorem esc_U {F : Stop.Interp} {W0 w : World} {S : Nat → Prop} {L : Nat} {s : ByteArray} {t : St} (hF : F.answers W0.tape) (H : Lx W0 S w L s t) (quote : Int) (hr : peek s t = 85) (hq : quote ≠ 85) :
    Calls Tryf.prog 69 #[.pointer (some ⟨L, 0, none⟩), .int .i32 quote] w fun e w' => e = .returned (.int .i32 (scanEscape s quote t).1) ∧ Done W0 S w L s (scanEscape s quote t).2 w' := by
  have A0 := Acc.refl S w
  have hlo := peek_lo s t
  have hhi := peek_hi s t
  have hst : scanEscape s quote t = scanDigits s 16 (8 : Int).toNat (peek s (next s t)) (next s (next s t)) := by unfold scanEscape; dsimp only; rw [hr, if_neg (by simp [isSimple]; omega), if_neg (by omega)]; rfl
  have nq : ((85 : Int) == quote) = false := by rw [beq_eq_false_iff_ne]; exact fun e => hq e.symm
  have hlo1 := peek_lo s (next s t)
  have hhi1 := peek_hi s (next s t)
  have Hr := Lib.hid hr
  clear hr hq
  rw [hst]
  clear hst
  go_enter Tryf.func69, Tryf.ntmps69
  go_wp2_with fail
  refine (next_any H).mono ?_
  rintro e w1 ⟨rfl, S1, hS1, H1, hf1⟩
  have A1 := Acc.step A0 hS1 hf1
  rw [Hr.out]
  go_wp2_with fail
  refine (next_any H1).mono ?_
  rintro e w2 ⟨rfl, S2, hS2, H2, hf2⟩
  have A2 := Acc.step A1 hS2 hf2
  go_wp2_with fail
  refine (scanDigits_any hF H2 16 (peek s (next s t)) 8 (by omega) (by omega) (by omega) (by omega)).mono ?_
  rintro e w3 ⟨rfl, S3, hS3, H3, hf3⟩
  have A3 := Acc.step A2 hS3 hf3
  go_wp2_with fail
  go_ret
  exact ⟨rfl, A3.done H3⟩

set_option maxHeartbeats 4000000 in
set_option maxRecDepth 100000 in
theorem esc_u {F : Stop.Interp} {W0 w : World} {S : Nat → Prop} {L : Nat} {s : ByteArray} {t : St} (hF : F.answers W0.tape) (H : Lx W0 S w L s t) (quote : Int) (hr : peek s t = 117) (hq : quote ≠ 117) (hp : peek s (next s t) ≠ 123) :
    Calls Tryf.prog 69 #[.pointer (some ⟨L, 0, none⟩), .int .i32 quote] w fun e w' => e = .returned (.int .i32 (scanEscape s quote t).1) ∧ Done W0 S w L s (scanEscape s quote t).2 w' := by
  have A0 := Acc.refl S w
  have hlo := peek_lo s t
  have hhi := peek_hi s t
  have hst : scanEscape s quote t = scanDigits s 16 (4 : Int).toNat (peek s (next s t)) (next s (next s t)) := by unfold scanEscape; dsimp only; rw [hr, if_neg (by simp [isSimple]; omega), if_neg (by omega), if_neg (by omega), if_pos rfl, if_neg hp]; rfl
  have nq : ((117 : Int) == quote) = false := by rw [beq_eq_false_iff_ne]; exact fun e => hq e.symm
  have np : (peek s (next s t) == 123) = false := beq_eq_false_iff_ne.2 hp
  have hlo1 := peek_lo s (next s t)
  have hhi1 := peek_hi s (next s t)
  have Hr := Lib.hid hr
  clear hr hq hp
  rw [hst]
  clear hst
  go_enter Tryf.func69, Tryf.ntmps69
  go_wp2_with fail
  refine (next_any H).mono ?_
  rintro e w1 ⟨rfl, S1, hS1, H1, hf1⟩
  have A1 := Acc.step A0 hS1 hf1
  rw [Hr.out]
  go_wp2_with fail
  refine (peek_any H1).mono ?_
  rintro e w' ⟨rfl, xs, d, rfl⟩
  have H1' := H1.keep (grow_below w1 xs d)
  have A1' := Acc.below A1 (grow_below w1 xs d)
  obtain ⟨w1', hw1'⟩ : ∃ x, x = grow w1 xs d := ⟨_, rfl⟩
  rw [← hw1'] at H1' A1' ⊢
  clear hw1'
  go_wp2_with fail
  refine (next_any H1').mono ?_
  rintro e w2 ⟨rfl, S2, hS2, H2, hf2⟩
  have A2 := Acc.step A1' hS2 hf2
  go_wp2_with fail
  refine (scanDigits_any hF H2 16 (peek s (next s t)) 4 (by omega) (by omega) (by omega) (by omega)).mono ?_
  rintro e w3 ⟨rfl, S3, hS3, H3, hf3⟩
  have A3 := Acc.step A2 hS3 hf3
  go_wp2_with fail
  go_ret
  exact ⟨rfl, A3.done H3⟩

set_option maxHeartbeats 4000000 in
set_option maxRecDepth 100000 in
theorem esc_ub {F : Stop.Interp} {W0 w : World} {S : Nat → Prop} {L : Nat} {s : ByteArray} {t : St} (hF : F.answers W0.tape) (H : Lx W0 S w L s t) (quote : Int) (hr : peek s t = 117) (hq : quote ≠ 117) (hp : peek s (next s t) = 123) :
    Calls Tryf.prog 69 #[.pointer (some ⟨L, 0, none⟩), .int .i32 quote] w fun e w' => e = .returned (.int .i32 (scanEscape s quote t).1) ∧ Done W0 S w L s (scanEscape s quote t).2 w' := by
  have A0 := Acc.refl S w
  have hlo := peek_lo s t
  have hhi := peek_hi s t
  have hst : scanEscape s quote t = braces s 7 0 (next s (next s t)) := by unfold scanEscape; dsimp only; rw [hr, if_neg (by simp [isSimple]; omega), if_neg (by omega), if_neg (by omega), if_pos rfl, if_pos hp]
  have nq : ((117 : Int) == quote) = false := by rw [beq_eq_false_iff_ne]; exact fun e => hq e.symm
  have Hp := Lib.hid hp
  have Hr := Lib.hid hr
  clear hr hq hp
  rw [hst]
  clear hst
  go_enter Tryf.func69, Tryf.ntmps69
  go_wp2_with fail
  refine (next_any H).mono ?_
  rintro e w1 ⟨rfl, S1, hS1, H1, hf1⟩
  have A1 := Acc.step A0 hS1 hf1
  rw [Hr.out]
  go_wp2_with fail
  refine (peek_any H1).mono ?_
  rintro e w' ⟨rfl, xs, d, rfl⟩
  have H1' := H1.keep (grow_below w1 xs d)
  have A1' := Acc.below A1 (grow_below w1 xs d)
  obtain ⟨w1', hw1'⟩ : ∃ x, x = grow w1 xs d := ⟨_, rfl⟩
  rw [← hw1'] at H1' A1' ⊢
  clear hw1'
  rw [Hp.out]
  go_wp2_with fail
  refine (next_any H1').mono ?_
  rintro e w2 ⟨rfl, S2, hS2, H2, hf2⟩
  have A2 := Acc.step A1' hS2 hf2
  go_wp2_with fail
  go_loopg [6] 8 (fun g dv wr => ∃ (S3 : Nat → Prop) (t3 : St) (k : Nat), dv = .int .i64 (k : Nat) ∧ Acc S w S3 wr ∧ Lx W0 S3 wr L s t3 ∧ Hid (braces s (7 - k) k t3 = braces s 7 0 (next s (next s t))) ∧ k ≤ 6 ∧ 7 < k + g)
  case atStart => exact ⟨S2, _, 0, rfl, A2, H2, Lib.hid rfl, by omega, by omega⟩
  case round =>
    obtain ⟨S3, t3, k, rfl, A3, H3, heq, hk, hg⟩ := hrel
    have hlo3 := peek_lo s t3
    have hhi3 := peek_hi s t3
    obtain ⟨j, hj⟩ : ∃ j, 7 - k = j + 1 := ⟨6 - k, by omega⟩
    have hb := heq.out
    rw [hj, braces] at hb
    clear heq
    have key : ∀ w0 : World, True := fun _ => trivial
    by_cases hp3 : peek s t3 = 125
    · rw [if_pos hp3] at hb
      by_cases hk0 : k = 0
      · rw [if_pos hk0] at hb
        have Hb := Lib.hid hb
        have Hp3 := Lib.hid hp3
        clear hb hp3
        subst hk0
        go_wp2_with fail
        refine (peek_any H3).mono ?_
        rintro e w' ⟨rfl, xs4, d4, rfl⟩
        rw [Hp3.out]
        have H4 := H3.keep (grow_below wr xs4 d4)
        have A4 := Acc.below A3 (grow_below wr xs4 d4)
        obtain ⟨w4, hw4⟩ : ∃ x, x = grow wr xs4 d4 := ⟨_, rfl⟩
        rw [← hw4] at H4 A4 ⊢
        clear hw4
        go_wp2_with fail
        refine (peek_any H4).mono ?_
        rintro e w' ⟨rfl, xs5, d5, rfl⟩
        rw [Hp3.out]
        have H5 := H4.keep (grow_below w4 xs5 d5)
        have A5 := Acc.below A4 (grow_below w4 xs5 d5)
        obtain ⟨w5, hw5⟩ : ∃ x, x = grow w4 xs5 d5 := ⟨_, rfl⟩
        rw [← hw5] at H5 A5 ⊢
        clear hw5
        go_wp2_with fail
        refine (error_m0 hF H5).mono ?_
        rintro e w6 ⟨rfl, S6, hS6, H6, hf6⟩
        have A6 := Acc.step A5 hS6 hf6
        go_wp2_with fail
        go_ret
        rw [← Hb.out]
        exact ⟨rfl, A6.done H6⟩
      · rw [if_neg hk0] at hb
        have hkz : ((k : Int) == 0) = false := by rw [beq_eq_false_iff_ne]; omega
        have Hb := Lib.hid hb
        have Hp3 := Lib.hid hp3
        clear hb hp3
        go_wp2_with fail
        refine (peek_any H3).mono ?_
        rintro e w' ⟨rfl, xs4, d4, rfl⟩
        rw [Hp3.out]
        have H4 := H3.keep (grow_below wr xs4 d4)
        have A4 := Acc.below A3 (grow_below wr xs4 d4)
        obtain ⟨w4, hw4⟩ : ∃ x, x = grow wr xs4 d4 := ⟨_, rfl⟩
        rw [← hw4] at H4 A4 ⊢
        clear hw4
        go_wp2_with fail
        refine (peek_any H4).mono ?_
        rintro e w' ⟨rfl, xs5, d5, rfl⟩
        rw [Hp3.out]
        have H5 := H4.keep (grow_below w4 xs5 d5)
        have A5 := Acc.below A4 (grow_below w4 xs5 d5)
        obtain ⟨w5, hw5⟩ : ∃ x, x = grow w4 xs5 d5 := ⟨_, rfl⟩
        rw [← hw5] at H5 A5 ⊢
        clear hw5
        go_wp2_with fail
        refine (next_any H5).mono ?_
        rintro e w6 ⟨rfl, S6, hS6, H6, hf6⟩
        have A6 := Acc.step A5 hS6 hf6
        go_wp2_with fail
        refine (next_any H6).mono ?_
        rintro e w7 ⟨rfl, S7, hS7, H7, hf7⟩
        have A7 := Acc.step A6 hS7 hf7
        go_wp2_with fail
        go_ret
        rw [← Hb.out]
        exact ⟨rfl, A7.done H7⟩
    · rw [if_neg hp3] at hb
      have e125 : (peek s t3 == 125) = false := beq_eq_false_iff_ne.2 hp3
      by_cases hd16 : 16 ≤ digitVal (peek s t3)
      · rw [if_pos hd16] at hb
        have Hb := Lib.hid hb
        clear hb hp3
        go_wp2_with fail
        refine (peek_any H3).mono ?_
        rintro e w' ⟨rfl, xs4, d4, rfl⟩
        have H4 := H3.keep (grow_below wr xs4 d4)
        have A4 := Acc.below A3 (grow_below wr xs4 d4)
        obtain ⟨w4, hw4⟩ : ∃ x, x = grow wr xs4 d4 := ⟨_, rfl⟩
        rw [← hw4] at H4 A4 ⊢
        clear hw4
        go_wp2_with fail
        refine (digitVal_any (peek s t3) _ (by omega) (by omega)).mono ?_
        rintro e w' ⟨rfl, rfl⟩
        go_wp2_with fail
        refine (error_m0 hF H4).mono ?_
        rintro e w6 ⟨rfl, S6, hS6, H6, hf6⟩
        have A6 := Acc.step A4 hS6 hf6
        go_wp2_with fail
        go_ret
        rw [← Hb.out]
        exact ⟨rfl, A6.done H6⟩
      · rw [if_neg hd16] at hb
        by_cases hk6 : 6 ≤ k
        · rw [if_pos hk6] at hb
          have Hb := Lib.hid hb
          clear hb hp3
          have hki : (6 : Int) ≤ (k : Int) := by omega
          go_wp2_with fail
          refine (peek_any H3).mono ?_
          rintro e w' ⟨rfl, xs4, d4, rfl⟩
          have H4 := H3.keep (grow_below wr xs4 d4)
          have A4 := Acc.below A3 (grow_below wr xs4 d4)
          obtain ⟨w4, hw4⟩ : ∃ x, x = grow wr xs4 d4 := ⟨_, rfl⟩
          rw [← hw4] at H4 A4 ⊢
          clear hw4
          go_wp2_with fail
          refine (digitVal_any (peek s t3) _ (by omega) (by omega)).mono ?_
          rintro e w' ⟨rfl, rfl⟩
          go_wp2_with fail
          refine (error_m0 hF H4).mono ?_
          rintro e w6 ⟨rfl, S6, hS6, H6, hf6⟩
          have A6 := Acc.step A4 hS6 hf6
          go_wp2_with fail
          go_ret
          rw [← Hb.out]
          exact ⟨rfl, A6.done H6⟩
        · rw [if_neg hk6] at hb
          have hj2 : j = 7 - (k + 1) := by omega
          rw [hj2] at hb
          have Hb := Lib.hid hb
          clear hb hp3 hj hj2
          have hki : ¬ (6 : Int) ≤ (k : Int) := by omega
          go_wp2_with fail
          refine (peek_any H3).mono ?_
          rintro e w' ⟨rfl, xs4, d4, rfl⟩
          have H4 := H3.keep (grow_below wr xs4 d4)
          have A4 := Acc.below A3 (grow_below wr xs4 d4)
          obtain ⟨w4, hw4⟩ : ∃ x, x = grow wr xs4 d4 := ⟨_, rfl⟩
          rw [← hw4] at H4 A4 ⊢
          clear hw4
          go_wp2_with fail
          refine (digitVal_any (peek s t3) _ (by omega) (by omega)).mono ?_
          rintro e w' ⟨rfl, rfl⟩
          go_wp2_with fail
          refine (next_any H4).mono ?_
          rintro e w6 ⟨rfl, S6, hS6, H6, hf6⟩
          have A6 := Acc.step A4 hS6 hf6
          go_wp2_with fail
          go_roundg (7 - k)
          case measure => omega
          case rel => exact ⟨S6, _, k + 1, by go_num, A6, H6, Hb, by omega, by omega⟩

set_option maxHeartbeats 4000000 in
set_option maxRecDepth 100000 in
theorem esc_bad {F : Stop.Interp} {W0 w : World} {S : Nat → Prop} {L : Nat} {s : ByteArray} {t : St} (hF : F.answers W0.tape) (H : Lx W0 S w L s t) (quote : Int) (hs : isSimple (peek s t) = false) (hq : peek s t ≠ quote) (ho : ¬ (48 ≤ peek s t ∧ peek s t ≤ 55)) (hx : peek s t ≠ 120) (hu : peek s t ≠ 117) (hU : peek s t ≠ 85) :
    Calls Tryf.prog 69 #[.pointer (some ⟨L, 0, none⟩), .int .i32 quote] w fun e w' => e = .returned (.int .i32 (scanEscape s quote t).1) ∧ Done W0 S w L s (scanEscape s quote t).2 w' := by
  have A0 := Acc.refl S w
  have hlo := peek_lo s t
  have hhi := peek_hi s t
  have hst : scanEscape s quote t = (peek s t, error (next s t)) := by unfold scanEscape; dsimp only; rw [if_neg (by rw [hs]; simpa using hq), if_neg ho, if_neg hx, if_neg hu, if_neg hU]
  have n97 : (peek s t == 97) = false := by rw [beq_eq_false_iff_ne]; intro e; rw [e] at hs; exact absurd hs (by decide)
  have n98 : (peek s t == 98) = false := by rw [beq_eq_false_iff_ne]; intro e; rw [e] at hs; exact absurd hs (by decide)
  have n102 : (peek s t == 102) = false := by rw [beq_eq_false_iff_ne]; intro e; rw [e] at hs; exact absurd hs (by decide)
  have n110 : (peek s t == 110) = false := by rw [beq_eq_false_iff_ne]; intro e; rw [e] at hs; exact absurd hs (by decide)
  have n114 : (peek s t == 114) = false := by rw [beq_eq_false_iff_ne]; intro e; rw [e] at hs; exact absurd hs (by decide)
  have n116 : (peek s t == 116) = false := by rw [beq_eq_false_iff_ne]; intro e; rw [e] at hs; exact absurd hs (by decide)
  have n118 : (peek s t == 118) = false := by rw [beq_eq_false_iff_ne]; intro e; rw [e] at hs; exact absurd hs (by decide)
  have n92 : (peek s t == 92) = false := by rw [beq_eq_false_iff_ne]; intro e; rw [e] at hs; exact absurd hs (by decide)
  have nq : (peek s t == quote) = false := beq_eq_false_iff_ne.2 hq
  have n48 : (peek s t == 48) = false := by rw [beq_eq_false_iff_ne]; omega
  have n49 : (peek s t == 49) = false := by rw [beq_eq_false_iff_ne]; omega
  have n50 : (peek s t == 50) = false := by rw [beq_eq_false_iff_ne]; omega
  have n51 : (peek s t == 51) = false := by rw [beq_eq_false_iff_ne]; omega
  have n52 : (peek s t == 52) = false := by rw [beq_eq_false_iff_ne]; omega
  have n53 : (peek s t == 53) = false := by rw [beq_eq_false_iff_ne]; omega
  have n54 : (peek s t == 54) = false := by rw [beq_eq_false_iff_ne]; omega
  have n55 : (peek s t == 55) = false := by rw [beq_eq_false_iff_ne]; omega
  have n120 : (peek s t == 120) = false := by rw [beq_eq_false_iff_ne]; omega
  have n117 : (peek s t == 117) = false := by rw [beq_eq_false_iff_ne]; omega
  have n85 : (peek s t == 85) = false := by rw [beq_eq_false_iff_ne]; omega
  have Hs := Lib.hid hs
  clear hs hq ho hx hu hU
  rw [hst]
  clear hst
  go_enter Tryf.func69, Tryf.ntmps69
  go_wp2_with fail
  refine (next_any H).mono ?_
  rintro e w1 ⟨rfl, S1, hS1, H1, hf1⟩
  have A1 := Acc.step A0 hS1 hf1
  go_wp2_with fail
  refine (error_m0 hF H1).mono ?_
  rintro e w2 ⟨rfl, S2, hS2, H2, hf2⟩
  have A2 := Acc.step A1 hS2 hf2
  go_wp2_with fail
  go_ret
  exact ⟨rfl, A2.done H2⟩

theorem scanEscape_any {F : Stop.Interp} {W0 w : World} {S : Nat → Prop} {L : Nat} {s : ByteArray} {t : St} (hF : F.answers W0.tape) (H : Lx W0 S w L s t) (quote : Int) :
    Calls Tryf.prog 69 #[.pointer (some ⟨L, 0, none⟩), .int .i32 quote] w fun e w' => e = .returned (.int .i32 (scanEscape s quote t).1) ∧ Done W0 S w L s (scanEscape s quote t).2 w' := by
  by_cases hs : isSimple (peek s t) = true
  · have h : peek s t = 97 ∨ peek s t = 98 ∨ peek s t = 102 ∨ peek s t = 110 ∨ peek s t = 114 ∨ peek s t = 116 ∨ peek s t = 118 ∨ peek s t = 92 := by
      simp only [isSimple, Bool.or_eq_true, decide_eq_true_eq] at hs
      omega
    rcases h with h | h | h | h | h | h | h | h
    · exact esc_s97 hF H quote h
    · exact esc_s98 hF H quote h
    · exact esc_s102 hF H quote h
    · exact esc_s110 hF H quote h
    · exact esc_s114 hF H quote h
    · exact esc_s116 hF H quote h
    · exact esc_s118 hF H quote h
    · exact esc_s92 hF H quote h
  have hs2 : isSimple (peek s t) = false := by simpa using hs
  by_cases hq : peek s t = quote
  · exact esc_quote hF H quote hs2 hq
  by_cases ho : 48 ≤ peek s t ∧ peek s t ≤ 55
  · have h : peek s t = 48 ∨ peek s t = 49 ∨ peek s t = 50 ∨ peek s t = 51 ∨ peek s t = 52 ∨ peek s t = 53 ∨ peek s t = 54 ∨ peek s t = 55 := by omega
    rcases h with h | h | h | h | h | h | h | h
    · exact esc_o48 hF H quote h (fun e => hq (by rw [h, e]))
    · exact esc_o49 hF H quote h (fun e => hq (by rw [h, e]))
    · exact esc_o50 hF H quote h (fun e => hq (by rw [h, e]))
    · exact esc_o51 hF H quote h (fun e => hq (by rw [h, e]))
    · exact esc_o52 hF H quote h (fun e => hq (by rw [h, e]))
    · exact esc_o53 hF H quote h (fun e => hq (by rw [h, e]))
    · exact esc_o54 hF H quote h (fun e => hq (by rw [h, e]))
    · exact esc_o55 hF H quote h (fun e => hq (by rw [h, e]))
  by_cases hx : peek s t = 120
  · exact esc_x hF H quote hx (fun e => hq (by rw [hx, e]))
  by_cases hu : peek s t = 117
  · by_cases hp : peek s (next s t) = 123
    · exact esc_ub hF H quote hu (fun e => hq (by rw [hu, e])) hp
    · exact esc_u hF H quote hu (fun e => hq (by rw [hu, e])) hp
  by_cases hU : peek s t = 85
  · exact esc_U hF H quote hU (fun e => hq (by rw [hU, e]))
  exact esc_bad hF H quote hs2 hq ho hx hu hU

theorem scanStr_eq (s : ByteArray) (quote : Int) (hq : quote ≠ -1) (n : Nat) (ch : Int) (t : St) : scanStr s quote hq n ch t = if ch = quote then (n, t) else if ch = 10 ∨ ch = -1 then (n, error t) else if ch = 92 then scanStr s quote hq (n + 1) (scanEscape s quote t).1 (scanEscape s quote t).2 else scanStr s quote hq (n + 1) (peek s t) (next s t) := by
  rw [scanStr]
  split
  · rfl
  · split <;> rfl
theorem scanDigits_fst (s : ByteArray) (base : Int) : ∀ (n : Nat) (ch : Int) (t : St), -1 ≤ ch → ch ≤ 1114111 → -1 ≤ (scanDigits s base n ch t).1 ∧ (scanDigits s base n ch t).1 ≤ 1114111
  | 0, _, _, h, k => ⟨h, k⟩
  | n + 1, ch, t, h, k => by
    unfold scanDigits
    split
    · exact scanDigits_fst s base n _ _ (peek_lo s t) (peek_hi s t)
    · exact ⟨h, k⟩
theorem braces_fst (s : ByteArray) : ∀ (f d : Nat) (t : St), -1 ≤ (braces s f d t).1 ∧ (braces s f d t).1 ≤ 1114111
  | 0, _, _ => by unfold braces; exact ⟨Int.le_refl _, by omega⟩
  | f + 1, d, t => by
    unfold braces
    have key : -1 ≤ (-1 : Int) ∧ (-1 : Int) ≤ 1114111 := by decide
    split
    · split
      · exact key
      · exact ⟨peek_lo s _, peek_hi s _⟩
    · split
      · exact key
      · split
        · exact key
        · exact braces_fst s f _ _
theorem scanEscape_fst (s : ByteArray) (quote : Int) (t : St) : -1 ≤ (scanEscape s quote t).1 ∧ (scanEscape s quote t).1 ≤ 1114111 := by
  unfold scanEscape
  dsimp only
  repeat' split
  all_goals first
    | exact ⟨peek_lo s _, peek_hi s _⟩
    | exact scanDigits_fst s _ _ _ _ (peek_lo s _) (peek_hi s _)
    | exact braces_fst s _ _ _

set_option maxHeartbeats 2000000 in
set_option maxRecDepth 100000 in
theorem scanString_any {F : Stop.Interp} {W0 w : World} {S : Nat → Prop} {L : Nat} {s : ByteArray} {t : St} (hF : F.answers W0.tape) (H : Lx W0 S w L s t) (quote : Int) (hq : quote ≠ -1) :
    Calls Tryf.prog 38 #[.pointer (some ⟨L, 0, none⟩), .int .i32 quote] w fun e w' => e = .returned (.int .i64 (scanString s quote hq t).1) ∧ Done W0 S w L s (scanString s quote hq t).2 w' := by
  have A0 := Acc.refl S w
  have hsm := H.small
  have hlo := peek_lo s t
  have hhi := peek_hi s t
  have hto : togo s (peek s t) (next s t) ≤ 2 * s.size + 1 := by unfold togo; split <;> omega
  have hun : scanString s quote hq t = scanStr s quote hq 0 (peek s t) (next s t) := rfl
  rw [hun]
  clear hun
  go_enter Tryf.func38, Tryf.ntmps38
  go_wp2_with fail
  refine (next_any H).mono ?_
  rintro e w1 ⟨rfl, S1, hS1, H1, hf1⟩
  have A1 := Acc.step A0 hS1 hf1
  go_wp2_with fail
  go_loopg [4, 5] (togo s (peek s t) (next s t) + 1) (fun g nv cv wr => ∃ (S2 : Nat → Prop) (t2 : St) (c2 : Int) (n : Nat), nv = .int .i64 (n : Nat) ∧ cv = .int .i32 c2 ∧ Acc S w S2 wr ∧ Lx W0 S2 wr L s t2 ∧ Hid (scanStr s quote hq n c2 t2 = scanStr s quote hq 0 (peek s t) (next s t)) ∧ togo s c2 t2 < g ∧ n + togo s c2 t2 ≤ togo s (peek s t) (next s t) ∧ -1 ≤ c2 ∧ c2 ≤ 1114111)
  case atStart => exact ⟨S1, _, _, 0, rfl, rfl, A1, H1, Lib.hid rfl, by omega, by omega, hlo, hhi⟩
  case round =>
    obtain ⟨S2, t2, c2, n, rfl, rfl, A2, H2, heq, hg, hn, hc0, hc1⟩ := hrel
    have hb := heq.out
    rw [scanStr_eq] at hb
    clear heq
    by_cases h1 : c2 = quote
    · rw [if_pos h1] at hb
      have Hb := Lib.hid hb
      clear hb
      have e1 : (c2 == quote) = true := by rw [h1]; simp
      have H1' := Lib.hid h1
      clear h1
      go_wp2_with fail
      go_ret
      rw [← Hb.out]
      exact ⟨rfl, A2.done H2⟩
    rw [if_neg h1] at hb
    have e1 : (c2 != quote) = true := by simpa using h1
    have e1' : (c2 == quote) = false := by simpa using h1
    by_cases h2 : c2 = 10 ∨ c2 = -1
    · rw [if_pos h2] at hb
      have Hb := Lib.hid hb
      clear hb
      have H1' := Lib.hid h1
      clear h1
      rcases h2 with rfl | rfl
      all_goals
        go_wp2_with fail
        refine (error_m1 hF H2).mono ?_
        rintro e w3 ⟨rfl, S3, hS3, H3, hf3⟩
        have A3 := Acc.step A2 hS3 hf3
        go_wp2_with fail
        go_ret
        rw [← Hb.out]
        exact ⟨rfl, A3.done H3⟩
    rw [if_neg h2] at hb
    have e2 : (c2 == 10) = false := by rw [beq_eq_false_iff_ne]; omega
    have e3 : (c2 == -1) = false := by rw [beq_eq_false_iff_ne]; omega
    have hcm : c2 ≠ -1 := fun e => h2 (.inr e)
    by_cases h3 : c2 = 92
    · rw [if_pos h3] at hb
      have hf := scanEscape_fst s quote t2
      have ht := togo_escape s quote c2 t2 hq hcm
      have Hb := Lib.hid hb
      clear hb h1 h2
      subst h3
      go_wp2_with fail
      refine (scanEscape_any hF H2 quote).mono ?_
      rintro e w3 ⟨rfl, S3, hS3, H3, hf3⟩
      have A3 := Acc.step A2 hS3 hf3
      go_wp2_with fail
      go_roundg (togo s 92 t2)
      case measure => omega
      case rel => exact ⟨S3, _, _, n + 1, by go_num, rfl, A3, H3, Hb, by omega, by omega, hf.1, hf.2⟩
    · rw [if_neg h3] at hb
      have e4 : (c2 == 92) = false := by rw [beq_eq_false_iff_ne]; omega
      have ht := togo_next s c2 t2 hcm
      have hlo2 := peek_lo s t2
      have hhi2 := peek_hi s t2
      have Hb := Lib.hid hb
      clear hb h1 h2 h3
      go_wp2_with fail
      refine (next_any H2).mono ?_
      rintro e w3 ⟨rfl, S3, hS3, H3, hf3⟩
      have A3 := Acc.step A2 hS3 hf3
      go_wp2_with fail
      go_roundg (togo s c2 t2)
      case measure => omega
      case rel => exact ⟨S3, _, _, n + 1, by go_num, rfl, A3, H3, Hb, by omega, by omega, hlo2, hhi2⟩

end Go.Proofs.YtdpdgppjeekcmaaFmt
