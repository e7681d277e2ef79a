/-
  Walk: zzDecodeLen of n003_74 is the model's width (printed by gendeclen.py).
-/
import Derived.Test.YtkplkccjeacniaaGreatFmtJG
namespace Go.Proofs.YtkplkccjeacniaaGreatFmt
open Go Go.Lib Go.RowKit Go.Proofs

/-- The bytes behind the second, up to k. -/
def Conts (s : ByteArray) (i k : Nat) : Prop := ∀ x, 2 ≤ x → x < k → 128 ≤ byt s (i + x) ∧ byt s (i + x) ≤ 191
theorem Conts.succ {s : ByteArray} {i k : Nat} (h : Conts s i k) (h1 : 128 ≤ byt s (i + k)) (h2 : byt s (i + k) ≤ 191) : Conts s i (k + 1) := fun x hx hk => by
  by_cases e : x = k
  · subst e; exact ⟨h1, h2⟩
  · exact h x hx (by omega)

set_option maxHeartbeats 4000000 in
set_option maxRecDepth 100000 in
theorem zzDecodeLen_a (s : ByteArray) (i : Nat) (w : World) (hi : i < s.size) (hs : s.size ≤ 1099511627776) (h1 : 0 ≤ (s[i]'hi).toNat) (h2 : (s[i]'hi).toNat ≤ 127) :
    Calls Tryz.prog 36 #[.string s, .int .i64 i] w fun e w' => e = .returned (.int .i64 (wAt s i)) ∧ Below w.heap.size w w' := by
  have i0 : (0 : Int) ≤ (i : Int) := by omega
  have i1 : (i : Int) < (s.size : Int) := by omega
  have a128 : ((s[i]'hi).toNat : Int) < 128 := by omega
  have g194 : ¬ (194 : Int) ≤ ((s[i]'hi).toNat : Int) := by omega
  have l223 : ((s[i]'hi).toNat : Int) ≤ 223 := by omega
  have q224 : (((s[i]'hi).toNat : Int) == 224) = false := by rw [beq_eq_false_iff_ne]; omega
  have g225 : ¬ (225 : Int) ≤ ((s[i]'hi).toNat : Int) := by omega
  have l236 : ((s[i]'hi).toNat : Int) ≤ 236 := by omega
  have q238 : (((s[i]'hi).toNat : Int) == 238) = false := by rw [beq_eq_false_iff_ne]; omega
  have q239 : (((s[i]'hi).toNat : Int) == 239) = false := by rw [beq_eq_false_iff_ne]; omega
  have q237 : (((s[i]'hi).toNat : Int) == 237) = false := by rw [beq_eq_false_iff_ne]; omega
  have q240 : (((s[i]'hi).toNat : Int) == 240) = false := by rw [beq_eq_false_iff_ne]; omega
  have g241 : ¬ (241 : Int) ≤ ((s[i]'hi).toNat : Int) := by omega
  have l243 : ((s[i]'hi).toNat : Int) ≤ 243 := by omega
  have q244 : (((s[i]'hi).toNat : Int) == 244) = false := by rw [beq_eq_false_iff_ne]; omega
  rw [(dec1 (s := s) (i := i) (by rw [byt_of hi]; omega)).2]
  go_enter Tryz.func36, Tryz.ntmps36
  go_wp2_with fail
  go_ret
  exact ⟨rfl, (by repeat (first | exact Below.refl _ _ | apply below_drew | apply below_drewN | apply below_alloc | apply below_grow))⟩

set_option maxHeartbeats 4000000 in
set_option maxRecDepth 100000 in
theorem zzDecodeLen_b (s : ByteArray) (i : Nat) (w : World) (hi : i < s.size) (hs : s.size ≤ 1099511627776) (h1 : 128 ≤ (s[i]'hi).toNat) (h2 : (s[i]'hi).toNat ≤ 193) :
    Calls Tryz.prog 36 #[.string s, .int .i64 i] w fun e w' => e = .returned (.int .i64 (wAt s i)) ∧ Below w.heap.size w w' := by
  have i0 : (0 : Int) ≤ (i : Int) := by omega
  have i1 : (i : Int) < (s.size : Int) := by omega
  have a128 : ¬ (((s[i]'hi).toNat : Int) < 128) := by omega
  have g194 : ¬ (194 : Int) ≤ ((s[i]'hi).toNat : Int) := by omega
  have l223 : ((s[i]'hi).toNat : Int) ≤ 223 := by omega
  have q224 : (((s[i]'hi).toNat : Int) == 224) = false := by rw [beq_eq_false_iff_ne]; omega
  have g225 : ¬ (225 : Int) ≤ ((s[i]'hi).toNat : Int) := by omega
  have l236 : ((s[i]'hi).toNat : Int) ≤ 236 := by omega
  have q238 : (((s[i]'hi).toNat : Int) == 238) = false := by rw [beq_eq_false_iff_ne]; omega
  have q239 : (((s[i]'hi).toNat : Int) == 239) = false := by rw [beq_eq_false_iff_ne]; omega
  have q237 : (((s[i]'hi).toNat : Int) == 237) = false := by rw [beq_eq_false_iff_ne]; omega
  have q240 : (((s[i]'hi).toNat : Int) == 240) = false := by rw [beq_eq_false_iff_ne]; omega
  have g241 : ¬ (241 : Int) ≤ ((s[i]'hi).toNat : Int) := by omega
  have l243 : ((s[i]'hi).toNat : Int) ≤ 243 := by omega
  have q244 : (((s[i]'hi).toNat : Int) == 244) = false := by rw [beq_eq_false_iff_ne]; omega
  rw [(dec_lo (s := s) (i := i) (by rw [byt_of hi]; omega) (by rw [byt_of hi]; omega)).2]
  go_enter Tryz.func36, Tryz.ntmps36
  go_wp2_with fail
  go_ret
  exact ⟨rfl, (by repeat (first | exact Below.refl _ _ | apply below_drew | apply below_drewN | apply below_alloc | apply below_grow))⟩

set_option maxHeartbeats 4000000 in
set_option maxRecDepth 100000 in
theorem zzDecodeLen_c (s : ByteArray) (i : Nat) (w : World) (hi : i < s.size) (hs : s.size ≤ 1099511627776) (h1 : 194 ≤ (s[i]'hi).toNat) (h2 : (s[i]'hi).toNat ≤ 223) :
    Calls Tryz.prog 36 #[.string s, .int .i64 i] w fun e w' => e = .returned (.int .i64 (wAt s i)) ∧ Below w.heap.size w w' := by
  have i0 : (0 : Int) ≤ (i : Int) := by omega
  have i1 : (i : Int) < (s.size : Int) := by omega
  have a128 : ¬ (((s[i]'hi).toNat : Int) < 128) := by omega
  have g194 : (194 : Int) ≤ ((s[i]'hi).toNat : Int) := by omega
  have l223 : ((s[i]'hi).toNat : Int) ≤ 223 := by omega
  have q224 : (((s[i]'hi).toNat : Int) == 224) = false := by rw [beq_eq_false_iff_ne]; omega
  have g225 : ¬ (225 : Int) ≤ ((s[i]'hi).toNat : Int) := by omega
  have l236 : ((s[i]'hi).toNat : Int) ≤ 236 := by omega
  have q238 : (((s[i]'hi).toNat : Int) == 238) = false := by rw [beq_eq_false_iff_ne]; omega
  have q239 : (((s[i]'hi).toNat : Int) == 239) = false := by rw [beq_eq_false_iff_ne]; omega
  have q237 : (((s[i]'hi).toNat : Int) == 237) = false := by rw [beq_eq_false_iff_ne]; omega
  have q240 : (((s[i]'hi).toNat : Int) == 240) = false := by rw [beq_eq_false_iff_ne]; omega
  have g241 : ¬ (241 : Int) ≤ ((s[i]'hi).toNat : Int) := by omega
  have l243 : ((s[i]'hi).toNat : Int) ≤ 243 := by omega
  have q244 : (((s[i]'hi).toNat : Int) == 244) = false := by rw [beq_eq_false_iff_ne]; omega
  have hd := dec2 (s := s) (i := i) (by rw [byt_of hi]; omega) (by rw [byt_of hi]; omega)
  have Hd := Lib.hid hd
  clear hd
  by_cases hz : i + 1 < s.size
  · have z0 : ¬ (s.size : Int) ≤ (i : Int) + 1 := by omega
    have z1 : i + 1 < s.size := hz
    have z2 : (0 : Int) ≤ (i : Int) + 1 := by omega
    have z3 : (i : Int) + 1 < (s.size : Int) := by omega
    have z4 : ((i : Int) + 1).toNat = i + 1 := by omega
    have z5 : IntKind.i64.wrap ((i : Int) + 1) = (i : Int) + 1 := by rw [IntKind.wrap_i64]; omega
    have k1 := byt_of z1
    by_cases c0 : ((s[i + 1]'z1).toNat : Int) < 128
    · have hw : wAt s i = 1 := by rcases Hd.out with ⟨hc, _, e2⟩ | ⟨hc, _, e2⟩ <;> omega
      rw [hw]
      clear hw k1 Hd
      go_enter Tryz.func36, Tryz.ntmps36
      go_wp2_with fail
      skip
      go_ret
      exact ⟨rfl, (by repeat (first | exact Below.refl _ _ | apply below_drew | apply below_drewN | apply below_alloc | apply below_grow))⟩
    by_cases c1 : (191 : Int) < ((s[i + 1]'z1).toNat : Int)
    · have hw : wAt s i = 1 := by rcases Hd.out with ⟨hc, _, e2⟩ | ⟨hc, _, e2⟩ <;> omega
      rw [hw]
      clear hw k1 Hd
      go_enter Tryz.func36, Tryz.ntmps36
      go_wp2_with fail
      skip
      go_ret
      exact ⟨rfl, (by repeat (first | exact Below.refl _ _ | apply below_drew | apply below_drewN | apply below_alloc | apply below_grow))⟩
    have K1 := Lib.hid k1
    clear k1
    go_enter Tryz.func36, Tryz.ntmps36
    go_wp2_with fail
    skip
    go_loopg [9] 2 (fun g kv wr => ∃ k : Nat, kv = .int .i64 k ∧ Hid (Below w.heap.size w wr) ∧ 2 ≤ k ∧ k ≤ 2 ∧ Hid (Conts s i k) ∧ (2 < k → i + k ≤ s.size) ∧ 2 - k < g)
    case atStart => exact ⟨2, rfl, Lib.hid (by repeat (first | exact Below.refl _ _ | apply below_drew | apply below_drewN | apply below_alloc | apply below_grow)), by omega, by omega, Lib.hid (fun x h1 h2 => by omega), fun h => by omega, by omega⟩
    case round =>
      obtain ⟨k, rfl, hb, hk2, hkn, hct, hks, hg⟩ := hrel
      by_cases hk : k < 2
      · have k0 : (k : Int) < 2 := by omega
        have hck : k = 2 ∨ k = 3 := by omega
        by_cases y3 : i + k < s.size
        · have y0 : (0 : Int) ≤ (i : Int) + (k : Int) := by omega
          have y1 : (i : Int) + (k : Int) < (s.size : Int) := by omega
          have y5 : ¬ (s.size : Int) ≤ (i : Int) + (k : Int) := by omega
          have y2 : ((i : Int) + (k : Int)).toNat = i + k := by omega
          have y6 : IntKind.i64.wrap ((i : Int) + (k : Int)) = (i : Int) + (k : Int) := by rw [IntKind.wrap_i64]; omega
          have kb := byt_of y3
          by_cases d0 : ((s[i + k]'y3).toNat : Int) < 128
          · have hw : wAt s i = 1 := by rcases hck with rfl | rfl <;> rcases Hd.out with ⟨hc, _, e2⟩ | ⟨hc, _, e2⟩ <;> omega
            have Hw := Lib.hid hw
            clear hw kb Hd hck K1
            go_wp2_with fail
            skip
            go_ret
            exact ⟨by rw [Hw.out]; rfl, (by repeat (first | exact hb.out | apply below_drew | apply below_drewN | apply below_alloc | apply below_grow))⟩
          by_cases d1 : (191 : Int) < ((s[i + k]'y3).toNat : Int)
          · have hw : wAt s i = 1 := by rcases hck with rfl | rfl <;> rcases Hd.out with ⟨hc, _, e2⟩ | ⟨hc, _, e2⟩ <;> omega
            have Hw := Lib.hid hw
            clear hw kb Hd hck K1
            go_wp2_with fail
            skip
            go_ret
            exact ⟨by rw [Hw.out]; rfl, (by repeat (first | exact hb.out | apply below_drew | apply below_drewN | apply below_alloc | apply below_grow))⟩
          have hn : Conts s i (k + 1) := hct.out.succ (by omega) (by omega)
          have Hn := Lib.hid hn
          clear hn kb hct hck
          go_wp2_with fail
          skip
          go_roundg (2 - k)
          case measure => omega
          case rel => exact ⟨k + 1, by go_num, Lib.hid (by repeat (first | exact hb.out | apply below_drew | apply below_drewN | apply below_alloc | apply below_grow)), by omega, by omega, Hn, fun _ => by omega, by omega⟩
        · have y5 : (s.size : Int) ≤ (i : Int) + (k : Int) := by omega
          have y6 : IntKind.i64.wrap ((i : Int) + (k : Int)) = (i : Int) + (k : Int) := by rw [IntKind.wrap_i64]; omega
          have hw : wAt s i = 1 := by rcases hck with rfl | rfl <;> rcases Hd.out with ⟨hc, _, e2⟩ | ⟨hc, _, e2⟩ <;> omega
          have Hw := Lib.hid hw
          clear hw Hd hck K1 y3
          go_wp2_with fail
          skip
          go_ret
          exact ⟨by rw [Hw.out]; rfl, (by repeat (first | exact hb.out | apply below_drew | apply below_drewN | apply below_alloc | apply below_grow))⟩
      · have k0 : ¬ (k : Int) < 2 := by omega
        obtain rfl : k = 2 := by omega
        have hw : wAt s i = 2 := by
          have k1 := K1.out
          have u2 := hct.out 2
          have u3 := hct.out 3
          rcases Hd.out with ⟨hc, _, e2⟩ | ⟨hc, _, e2⟩ <;> omega
        have Hw := Lib.hid hw
        clear hw Hd K1
        go_wp2_with fail
        go_ret
        exact ⟨by rw [Hw.out]; rfl, (by repeat (first | exact hb.out | apply below_drew | apply below_drewN | apply below_alloc | apply below_grow))⟩
  · have z0 : (s.size : Int) ≤ (i : Int) + 1 := by omega
    have z5 : IntKind.i64.wrap ((i : Int) + 1) = (i : Int) + 1 := by rw [IntKind.wrap_i64]; omega
    have hw : wAt s i = 1 := by rcases Hd.out with ⟨hc, _, e2⟩ | ⟨hc, _, e2⟩ <;> omega
    rw [hw]
    clear hw Hd
    go_enter Tryz.func36, Tryz.ntmps36
    go_wp2_with fail
    skip
    go_ret
    exact ⟨rfl, (by repeat (first | exact Below.refl _ _ | apply below_drew | apply below_drewN | apply below_alloc | apply below_grow))⟩

set_option maxHeartbeats 4000000 in
set_option maxRecDepth 100000 in
theorem zzDecodeLen_d (s : ByteArray) (i : Nat) (w : World) (hi : i < s.size) (hs : s.size ≤ 1099511627776) (h1 : 224 ≤ (s[i]'hi).toNat) (h2 : (s[i]'hi).toNat ≤ 224) :
    Calls Tryz.prog 36 #[.string s, .int .i64 i] w fun e w' => e = .returned (.int .i64 (wAt s i)) ∧ Below w.heap.size w w' := by
  have i0 : (0 : Int) ≤ (i : Int) := by omega
  have i1 : (i : Int) < (s.size : Int) := by omega
  have a128 : ¬ (((s[i]'hi).toNat : Int) < 128) := by omega
  have g194 : (194 : Int) ≤ ((s[i]'hi).toNat : Int) := by omega
  have l223 : ¬ ((s[i]'hi).toNat : Int) ≤ 223 := by omega
  have q224 : (((s[i]'hi).toNat : Int) == 224) = true := by rw [beq_iff_eq]; omega
  have g225 : ¬ (225 : Int) ≤ ((s[i]'hi).toNat : Int) := by omega
  have l236 : ((s[i]'hi).toNat : Int) ≤ 236 := by omega
  have q238 : (((s[i]'hi).toNat : Int) == 238) = false := by rw [beq_eq_false_iff_ne]; omega
  have q239 : (((s[i]'hi).toNat : Int) == 239) = false := by rw [beq_eq_false_iff_ne]; omega
  have q237 : (((s[i]'hi).toNat : Int) == 237) = false := by rw [beq_eq_false_iff_ne]; omega
  have q240 : (((s[i]'hi).toNat : Int) == 240) = false := by rw [beq_eq_false_iff_ne]; omega
  have g241 : ¬ (241 : Int) ≤ ((s[i]'hi).toNat : Int) := by omega
  have l243 : ((s[i]'hi).toNat : Int) ≤ 243 := by omega
  have q244 : (((s[i]'hi).toNat : Int) == 244) = false := by rw [beq_eq_false_iff_ne]; omega
  have hd := dec3 (s := s) (i := i) (by rw [byt_of hi]; omega) (by rw [byt_of hi]; omega)
  have el : lo3 (byt s i) = 160 := by unfold lo3; rw [byt_of hi]; exact if_pos (by omega)
  have eh : hi3 (byt s i) = 191 := by unfold hi3; rw [byt_of hi]; exact if_neg (by omega)
  rw [el, eh] at hd
  clear el eh
  have Hd := Lib.hid hd
  clear hd
  by_cases hz : i + 1 < s.size
  · have z0 : ¬ (s.size : Int) ≤ (i : Int) + 1 := by omega
    have z1 : i + 1 < s.size := hz
    have z2 : (0 : Int) ≤ (i : Int) + 1 := by omega
    have z3 : (i : Int) + 1 < (s.size : Int) := by omega
    have z4 : ((i : Int) + 1).toNat = i + 1 := by omega
    have z5 : IntKind.i64.wrap ((i : Int) + 1) = (i : Int) + 1 := by rw [IntKind.wrap_i64]; omega
    have k1 := byt_of z1
    by_cases c0 : ((s[i + 1]'z1).toNat : Int) < 160
    · have hw : wAt s i = 1 := by rcases Hd.out with ⟨hc, _, e2⟩ | ⟨hc, _, e2⟩ <;> omega
      rw [hw]
      clear hw k1 Hd
      go_enter Tryz.func36, Tryz.ntmps36
      go_wp2_with fail
      skip
      go_ret
      exact ⟨rfl, (by repeat (first | exact Below.refl _ _ | apply below_drew | apply below_drewN | apply below_alloc | apply below_grow))⟩
    by_cases c1 : (191 : Int) < ((s[i + 1]'z1).toNat : Int)
    · have hw : wAt s i = 1 := by rcases Hd.out with ⟨hc, _, e2⟩ | ⟨hc, _, e2⟩ <;> omega
      rw [hw]
      clear hw k1 Hd
      go_enter Tryz.func36, Tryz.ntmps36
      go_wp2_with fail
      skip
      go_ret
      exact ⟨rfl, (by repeat (first | exact Below.refl _ _ | apply below_drew | apply below_drewN | apply below_alloc | apply below_grow))⟩
    have K1 := Lib.hid k1
    clear k1
    go_enter Tryz.func36, Tryz.ntmps36
    go_wp2_with fail
    skip
    go_loopg [9] 3 (fun g kv wr => ∃ k : Nat, kv = .int .i64 k ∧ Hid (Below w.heap.size w wr) ∧ 2 ≤ k ∧ k ≤ 3 ∧ Hid (Conts s i k) ∧ (2 < k → i + k ≤ s.size) ∧ 3 - k < g)
    case atStart => exact ⟨2, rfl, Lib.hid (by repeat (first | exact Below.refl _ _ | apply below_drew | apply below_drewN | apply below_alloc | apply below_grow)), by omega, by omega, Lib.hid (fun x h1 h2 => by omega), fun h => by omega, by omega⟩
    case round =>
      obtain ⟨k, rfl, hb, hk2, hkn, hct, hks, hg⟩ := hrel
      by_cases hk : k < 3
      · have k0 : (k : Int) < 3 := by omega
        have hck : k = 2 ∨ k = 3 := by omega
        by_cases y3 : i + k < s.size
        · have y0 : (0 : Int) ≤ (i : Int) + (k : Int) := by omega
          have y1 : (i : Int) + (k : Int) < (s.size : Int) := by omega
          have y5 : ¬ (s.size : Int) ≤ (i : Int) + (k : Int) := by omega
          have y2 : ((i : Int) + (k : Int)).toNat = i + k := by omega
          have y6 : IntKind.i64.wrap ((i : Int) + (k : Int)) = (i : Int) + (k : Int) := by rw [IntKind.wrap_i64]; omega
          have kb := byt_of y3
          by_cases d0 : ((s[i + k]'y3).toNat : Int) < 128
          · have hw : wAt s i = 1 := by rcases hck with rfl | rfl <;> rcases Hd.out with ⟨hc, _, e2⟩ | ⟨hc, _, e2⟩ <;> omega
            have Hw := Lib.hid hw
            clear hw kb Hd hck K1
            go_wp2_with fail
            skip
            go_ret
            exact ⟨by rw [Hw.out]; rfl, (by repeat (first | exact hb.out | apply below_drew | apply below_drewN | apply below_alloc | apply below_grow))⟩
          by_cases d1 : (191 : Int) < ((s[i + k]'y3).toNat : Int)
          · have hw : wAt s i = 1 := by rcases hck with rfl | rfl <;> rcases Hd.out with ⟨hc, _, e2⟩ | ⟨hc, _, e2⟩ <;> omega
            have Hw := Lib.hid hw
            clear hw kb Hd hck K1
            go_wp2_with fail
            skip
            go_ret
            exact ⟨by rw [Hw.out]; rfl, (by repeat (first | exact hb.out | apply below_drew | apply below_drewN | apply below_alloc | apply below_grow))⟩
          have hn : Conts s i (k + 1) := hct.out.succ (by omega) (by omega)
          have Hn := Lib.hid hn
          clear hn kb hct hck
          go_wp2_with fail
          skip
          go_roundg (3 - k)
          case measure => omega
          case rel => exact ⟨k + 1, by go_num, Lib.hid (by repeat (first | exact hb.out | apply below_drew | apply below_drewN | apply below_alloc | apply below_grow)), by omega, by omega, Hn, fun _ => by omega, by omega⟩
        · have y5 : (s.size : Int) ≤ (i : Int) + (k : Int) := by omega
          have y6 : IntKind.i64.wrap ((i : Int) + (k : Int)) = (i : Int) + (k : Int) := by rw [IntKind.wrap_i64]; omega
          have hw : wAt s i = 1 := by rcases hck with rfl | rfl <;> rcases Hd.out with ⟨hc, _, e2⟩ | ⟨hc, _, e2⟩ <;> omega
          have Hw := Lib.hid hw
          clear hw Hd hck K1 y3
          go_wp2_with fail
          skip
          go_ret
          exact ⟨by rw [Hw.out]; rfl, (by repeat (first | exact hb.out | apply below_drew | apply below_drewN | apply below_alloc | apply below_grow))⟩
      · have k0 : ¬ (k : Int) < 3 := by omega
        obtain rfl : k = 3 := by omega
        have hw : wAt s i = 3 := by
          have k1 := K1.out
          have u2 := hct.out 2
          have u3 := hct.out 3
          rcases Hd.out with ⟨hc, _, e2⟩ | ⟨hc, _, e2⟩ <;> omega
        have Hw := Lib.hid hw
        clear hw Hd K1
        go_wp2_with fail
        go_ret
        exact ⟨by rw [Hw.out]; rfl, (by repeat (first | exact hb.out | apply below_drew | apply below_drewN | apply below_alloc | apply below_grow))⟩
  · have z0 : (s.size : Int) ≤ (i : Int) + 1 := by omega
    have z5 : IntKind.i64.wrap ((i : Int) + 1) = (i : Int) + 1 := by rw [IntKind.wrap_i64]; omega
    have hw : wAt s i = 1 := by rcases Hd.out with ⟨hc, _, e2⟩ | ⟨hc, _, e2⟩ <;> omega
    rw [hw]
    clear hw Hd
    go_enter Tryz.func36, Tryz.ntmps36
    go_wp2_with fail
    skip
    go_ret
    exact ⟨rfl, (by repeat (first | exact Below.refl _ _ | apply below_drew | apply below_drewN | apply below_alloc | apply below_grow))⟩

set_option maxHeartbeats 4000000 in
set_option maxRecDepth 100000 in
theorem zzDecodeLen_e (s : ByteArray) (i : Nat) (w : World) (hi : i < s.size) (hs : s.size ≤ 1099511627776) (h1 : 225 ≤ (s[i]'hi).toNat) (h2 : (s[i]'hi).toNat ≤ 236) :
    Calls Tryz.prog 36 #[.string s, .int .i64 i] w fun e w' => e = .returned (.int .i64 (wAt s i)) ∧ Below w.heap.size w w' := by
  have i0 : (0 : Int) ≤ (i : Int) := by omega
  have i1 : (i : Int) < (s.size : Int) := by omega
  have a128 : ¬ (((s[i]'hi).toNat : Int) < 128) := by omega
  have g194 : (194 : Int) ≤ ((s[i]'hi).toNat : Int) := by omega
  have l223 : ¬ ((s[i]'hi).toNat : Int) ≤ 223 := by omega
  have q224 : (((s[i]'hi).toNat : Int) == 224) = false := by rw [beq_eq_false_iff_ne]; omega
  have g225 : (225 : Int) ≤ ((s[i]'hi).toNat : Int) := by omega
  have l236 : ((s[i]'hi).toNat : Int) ≤ 236 := by omega
  have q238 : (((s[i]'hi).toNat : Int) == 238) = false := by rw [beq_eq_false_iff_ne]; omega
  have q239 : (((s[i]'hi).toNat : Int) == 239) = false := by rw [beq_eq_false_iff_ne]; omega
  have q237 : (((s[i]'hi).toNat : Int) == 237) = false := by rw [beq_eq_false_iff_ne]; omega
  have q240 : (((s[i]'hi).toNat : Int) == 240) = false := by rw [beq_eq_false_iff_ne]; omega
  have g241 : ¬ (241 : Int) ≤ ((s[i]'hi).toNat : Int) := by omega
  have l243 : ((s[i]'hi).toNat : Int) ≤ 243 := by omega
  have q244 : (((s[i]'hi).toNat : Int) == 244) = false := by rw [beq_eq_false_iff_ne]; omega
  have hd := dec3 (s := s) (i := i) (by rw [byt_of hi]; omega) (by rw [byt_of hi]; omega)
  have el : lo3 (byt s i) = 128 := by unfold lo3; rw [byt_of hi]; exact if_neg (by omega)
  have eh : hi3 (byt s i) = 191 := by unfold hi3; rw [byt_of hi]; exact if_neg (by omega)
  rw [el, eh] at hd
  clear el eh
  have Hd := Lib.hid hd
  clear hd
  by_cases hz : i + 1 < s.size
  · have z0 : ¬ (s.size : Int) ≤ (i : Int) + 1 := by omega
    have z1 : i + 1 < s.size := hz
    have z2 : (0 : Int) ≤ (i : Int) + 1 := by omega
    have z3 : (i : Int) + 1 < (s.size : Int) := by omega
    have z4 : ((i : Int) + 1).toNat = i + 1 := by omega
    have z5 : IntKind.i64.wrap ((i : Int) + 1) = (i : Int) + 1 := by rw [IntKind.wrap_i64]; omega
    have k1 := byt_of z1
    by_cases c0 : ((s[i + 1]'z1).toNat : Int) < 128
    · have hw : wAt s i = 1 := by rcases Hd.out with ⟨hc, _, e2⟩ | ⟨hc, _, e2⟩ <;> omega
      rw [hw]
      clear hw k1 Hd
      go_enter Tryz.func36, Tryz.ntmps36
      go_wp2_with fail
      skip
      go_ret
      exact ⟨rfl, (by repeat (first | exact Below.refl _ _ | apply below_drew | apply below_drewN | apply below_alloc | apply below_grow))⟩
    by_cases c1 : (191 : Int) < ((s[i + 1]'z1).toNat : Int)
    · have hw : wAt s i = 1 := by rcases Hd.out with ⟨hc, _, e2⟩ | ⟨hc, _, e2⟩ <;> omega
      rw [hw]
      clear hw k1 Hd
      go_enter Tryz.func36, Tryz.ntmps36
      go_wp2_with fail
      skip
      go_ret
      exact ⟨rfl, (by repeat (first | exact Below.refl _ _ | apply below_drew | apply below_drewN | apply below_alloc | apply below_grow))⟩
    have K1 := Lib.hid k1
    clear k1
    go_enter Tryz.func36, Tryz.ntmps36
    go_wp2_with fail
    skip
    go_loopg [9] 3 (fun g kv wr => ∃ k : Nat, kv = .int .i64 k ∧ Hid (Below w.heap.size w wr) ∧ 2 ≤ k ∧ k ≤ 3 ∧ Hid (Conts s i k) ∧ (2 < k → i + k ≤ s.size) ∧ 3 - k < g)
    case atStart => exact ⟨2, rfl, Lib.hid (by repeat (first | exact Below.refl _ _ | apply below_drew | apply below_drewN | apply below_alloc | apply below_grow)), by omega, by omega, Lib.hid (fun x h1 h2 => by omega), fun h => by omega, by omega⟩
    case round =>
      obtain ⟨k, rfl, hb, hk2, hkn, hct, hks, hg⟩ := hrel
      by_cases hk : k < 3
      · have k0 : (k : Int) < 3 := by omega
        have hck : k = 2 ∨ k = 3 := by omega
        by_cases y3 : i + k < s.size
        · have y0 : (0 : Int) ≤ (i : Int) + (k : Int) := by omega
          have y1 : (i : Int) + (k : Int) < (s.size : Int) := by omega
          have y5 : ¬ (s.size : Int) ≤ (i : Int) + (k : Int) := by omega
          have y2 : ((i : Int) + (k : Int)).toNat = i + k := by omega
          have y6 : IntKind.i64.wrap ((i : Int) + (k : Int)) = (i : Int) + (k : Int) := by rw [IntKind.wrap_i64]; omega
          have kb := byt_of y3
          by_cases d0 : ((s[i + k]'y3).toNat : Int) < 128
          · have hw : wAt s i = 1 := by rcases hck with rfl | rfl <;> rcases Hd.out with ⟨hc, _, e2⟩ | ⟨hc, _, e2⟩ <;> omega
            have Hw := Lib.hid hw
            clear hw kb Hd hck K1
            go_wp2_with fail
            skip
            go_ret
            exact ⟨by rw [Hw.out]; rfl, (by repeat (first | exact hb.out | apply below_drew | apply below_drewN | apply below_alloc | apply below_grow))⟩
          by_cases d1 : (191 : Int) < ((s[i + k]'y3).toNat : Int)
          · have hw : wAt s i = 1 := by rcases hck with rfl | rfl <;> rcases Hd.out with ⟨hc, _, e2⟩ | ⟨hc, _, e2⟩ <;> omega
            have Hw := Lib.hid hw
            clear hw kb Hd hck K1
            go_wp2_with fail
            skip
            go_ret
            exact ⟨by rw [Hw.out]; rfl, (by repeat (first | exact hb.out | apply below_drew | apply below_drewN | apply below_alloc | apply below_grow))⟩
          have hn : Conts s i (k + 1) := hct.out.succ (by omega) (by omega)
          have Hn := Lib.hid hn
          clear hn kb hct hck
          go_wp2_with fail
          skip
          go_roundg (3 - k)
          case measure => omega
          case rel => exact ⟨k + 1, by go_num, Lib.hid (by repeat (first | exact hb.out | apply below_drew | apply below_drewN | apply below_alloc | apply below_grow)), by omega, by omega, Hn, fun _ => by omega, by omega⟩
        · have y5 : (s.size : Int) ≤ (i : Int) + (k : Int) := by omega
          have y6 : IntKind.i64.wrap ((i : Int) + (k : Int)) = (i : Int) + (k : Int) := by rw [IntKind.wrap_i64]; omega
          have hw : wAt s i = 1 := by rcases hck with rfl | rfl <;> rcases Hd.out with ⟨hc, _, e2⟩ | ⟨hc, _, e2⟩ <;> omega
          have Hw := Lib.hid hw
          clear hw Hd hck K1 y3
          go_wp2_with fail
          skip
          go_ret
          exact ⟨by rw [Hw.out]; rfl, (by repeat (first | exact hb.out | apply below_drew | apply below_drewN | apply below_alloc | apply below_grow))⟩
      · have k0 : ¬ (k : Int) < 3 := by omega
        obtain rfl : k = 3 := by omega
        have hw : wAt s i = 3 := by
          have k1 := K1.out
          have u2 := hct.out 2
          have u3 := hct.out 3
          rcases Hd.out with ⟨hc, _, e2⟩ | ⟨hc, _, e2⟩ <;> omega
        have Hw := Lib.hid hw
        clear hw Hd K1
        go_wp2_with fail
        go_ret
        exact ⟨by rw [Hw.out]; rfl, (by repeat (first | exact hb.out | apply below_drew | apply below_drewN | apply below_alloc | apply below_grow))⟩
  · have z0 : (s.size : Int) ≤ (i : Int) + 1 := by omega
    have z5 : IntKind.i64.wrap ((i : Int) + 1) = (i : Int) + 1 := by rw [IntKind.wrap_i64]; omega
    have hw : wAt s i = 1 := by rcases Hd.out with ⟨hc, _, e2⟩ | ⟨hc, _, e2⟩ <;> omega
    rw [hw]
    clear hw Hd
    go_enter Tryz.func36, Tryz.ntmps36
    go_wp2_with fail
    skip
    go_ret
    exact ⟨rfl, (by repeat (first | exact Below.refl _ _ | apply below_drew | apply below_drewN | apply below_alloc | apply below_grow))⟩

set_option maxHeartbeats 4000000 in
set_option maxRecDepth 100000 in
theorem zzDecodeLen_f (s : ByteArray) (i : Nat) (w : World) (hi : i < s.size) (hs : s.size ≤ 1099511627776) (h1 : 238 ≤ (s[i]'hi).toNat) (h2 : (s[i]'hi).toNat ≤ 238) :
    Calls Tryz.prog 36 #[.string s, .int .i64 i] w fun e w' => e = .returned (.int .i64 (wAt s i)) ∧ Below w.heap.size w w' := by
  have i0 : (0 : Int) ≤ (i : Int) := by omega
  have i1 : (i : Int) < (s.size : Int) := by omega
  have a128 : ¬ (((s[i]'hi).toNat : Int) < 128) := by omega
  have g194 : (194 : Int) ≤ ((s[i]'hi).toNat : Int) := by omega
  have l223 : ¬ ((s[i]'hi).toNat : Int) ≤ 223 := by omega
  have q224 : (((s[i]'hi).toNat : Int) == 224) = false := by rw [beq_eq_false_iff_ne]; omega
  have g225 : (225 : Int) ≤ ((s[i]'hi).toNat : Int) := by omega
  have l236 : ¬ ((s[i]'hi).toNat : Int) ≤ 236 := by omega
  have q238 : (((s[i]'hi).toNat : Int) == 238) = true := by rw [beq_iff_eq]; omega
  have q239 : (((s[i]'hi).toNat : Int) == 239) = false := by rw [beq_eq_false_iff_ne]; omega
  have q237 : (((s[i]'hi).toNat : Int) == 237) = false := by rw [beq_eq_false_iff_ne]; omega
  have q240 : (((s[i]'hi).toNat : Int) == 240) = false := by rw [beq_eq_false_iff_ne]; omega
  have g241 : ¬ (241 : Int) ≤ ((s[i]'hi).toNat : Int) := by omega
  have l243 : ((s[i]'hi).toNat : Int) ≤ 243 := by omega
  have q244 : (((s[i]'hi).toNat : Int) == 244) = false := by rw [beq_eq_false_iff_ne]; omega
  have hd := dec3 (s := s) (i := i) (by rw [byt_of hi]; omega) (by rw [byt_of hi]; omega)
  have el : lo3 (byt s i) = 128 := by unfold lo3; rw [byt_of hi]; exact if_neg (by omega)
  have eh : hi3 (byt s i) = 191 := by unfold hi3; rw [byt_of hi]; exact if_neg (by omega)
  rw [el, eh] at hd
  clear el eh
  have Hd := Lib.hid hd
  clear hd
  by_cases hz : i + 1 < s.size
  · have z0 : ¬ (s.size : Int) ≤ (i : Int) + 1 := by omega
    have z1 : i + 1 < s.size := hz
    have z2 : (0 : Int) ≤ (i : Int) + 1 := by omega
    have z3 : (i : Int) + 1 < (s.size : Int) := by omega
    have z4 : ((i : Int) + 1).toNat = i + 1 := by omega
    have z5 : IntKind.i64.wrap ((i : Int) + 1) = (i : Int) + 1 := by rw [IntKind.wrap_i64]; omega
    have k1 := byt_of z1
    by_cases c0 : ((s[i + 1]'z1).toNat : Int) < 128
    · have hw : wAt s i = 1 := by rcases Hd.out with ⟨hc, _, e2⟩ | ⟨hc, _, e2⟩ <;> omega
      rw [hw]
      clear hw k1 Hd
      go_enter Tryz.func36, Tryz.ntmps36
      go_wp2_with fail
      skip
      go_ret
      exact ⟨rfl, (by repeat (first | exact Below.refl _ _ | apply below_drew | apply below_drewN | apply below_alloc | apply below_grow))⟩
    by_cases c1 : (191 : Int) < ((s[i + 1]'z1).toNat : Int)
    · have hw : wAt s i = 1 := by rcases Hd.out with ⟨hc, _, e2⟩ | ⟨hc, _, e2⟩ <;> omega
      rw [hw]
      clear hw k1 Hd
      go_enter Tryz.func36, Tryz.ntmps36
      go_wp2_with fail
      skip
      go_ret
      exact ⟨rfl, (by repeat (first | exact Below.refl _ _ | apply below_drew | apply below_drewN | apply below_alloc | apply below_grow))⟩
    have K1 := Lib.hid k1
    clear k1
    go_enter Tryz.func36, Tryz.ntmps36
    go_wp2_with fail
    skip
    go_loopg [9] 3 (fun g kv wr => ∃ k : Nat, kv = .int .i64 k ∧ Hid (Below w.heap.size w wr) ∧ 2 ≤ k ∧ k ≤ 3 ∧ Hid (Conts s i k) ∧ (2 < k → i + k ≤ s.size) ∧ 3 - k < g)
    case atStart => exact ⟨2, rfl, Lib.hid (by repeat (first | exact Below.refl _ _ | apply below_drew | apply below_drewN | apply below_alloc | apply below_grow)), by omega, by omega, Lib.hid (fun x h1 h2 => by omega), fun h => by omega, by omega⟩
    case round =>
      obtain ⟨k, rfl, hb, hk2, hkn, hct, hks, hg⟩ := hrel
      by_cases hk : k < 3
      · have k0 : (k : Int) < 3 := by omega
        have hck : k = 2 ∨ k = 3 := by omega
        by_cases y3 : i + k < s.size
        · have y0 : (0 : Int) ≤ (i : Int) + (k : Int) := by omega
          have y1 : (i : Int) + (k : Int) < (s.size : Int) := by omega
          have y5 : ¬ (s.size : Int) ≤ (i : Int) + (k : Int) := by omega
          have y2 : ((i : Int) + (k : Int)).toNat = i + k := by omega
          have y6 : IntKind.i64.wrap ((i : Int) + (k : Int)) = (i : Int) + (k : Int) := by rw [IntKind.wrap_i64]; omega
          have kb := byt_of y3
          by_cases d0 : ((s[i + k]'y3).toNat : Int) < 128
          · have hw : wAt s i = 1 := by rcases hck with rfl | rfl <;> rcases Hd.out with ⟨hc, _, e2⟩ | ⟨hc, _, e2⟩ <;> omega
            have Hw := Lib.hid hw
            clear hw kb Hd hck K1
            go_wp2_with fail
            skip
            go_ret
            exact ⟨by rw [Hw.out]; rfl, (by repeat (first | exact hb.out | apply below_drew | apply below_drewN | apply below_alloc | apply below_grow))⟩
          by_cases d1 : (191 : Int) < ((s[i + k]'y3).toNat : Int)
          · have hw : wAt s i = 1 := by rcases hck with rfl | rfl <;> rcases Hd.out with ⟨hc, _, e2⟩ | ⟨hc, _, e2⟩ <;> omega
            have Hw := Lib.hid hw
            clear hw kb Hd hck K1
            go_wp2_with fail
            skip
            go_ret
            exact ⟨by rw [Hw.out]; rfl, (by repeat (first | exact hb.out | apply below_drew | apply below_drewN | apply below_alloc | apply below_grow))⟩
          have hn : Conts s i (k + 1) := hct.out.succ (by omega) (by omega)
          have Hn := Lib.hid hn
          clear hn kb hct hck
          go_wp2_with fail
          skip
          go_roundg (3 - k)
          case measure => omega
          case rel => exact ⟨k + 1, by go_num, Lib.hid (by repeat (first | exact hb.out | apply below_drew | apply below_drewN | apply below_alloc | apply below_grow)), by omega, by omega, Hn, fun _ => by omega, by omega⟩
        · have y5 : (s.size : Int) ≤ (i : Int) + (k : Int) := by omega
          have y6 : IntKind.i64.wrap ((i : Int) + (k : Int)) = (i : Int) + (k : Int) := by rw [IntKind.wrap_i64]; omega
          have hw : wAt s i = 1 := by rcases hck with rfl | rfl <;> rcases Hd.out with ⟨hc, _, e2⟩ | ⟨hc, _, e2⟩ <;> omega
          have Hw := Lib.hid hw
          clear hw Hd hck K1 y3
          go_wp2_with fail
          skip
          go_ret
          exact ⟨by rw [Hw.out]; rfl, (by repeat (first | exact hb.out | apply below_drew | apply below_drewN | apply below_alloc | apply below_grow))⟩
      · have k0 : ¬ (k : Int) < 3 := by omega
        obtain rfl : k = 3 := by omega
        have hw : wAt s i = 3 := by
          have k1 := K1.out
          have u2 := hct.out 2
          have u3 := hct.out 3
          rcases Hd.out with ⟨hc, _, e2⟩ | ⟨hc, _, e2⟩ <;> omega
        have Hw := Lib.hid hw
        clear hw Hd K1
        go_wp2_with fail
        go_ret
        exact ⟨by rw [Hw.out]; rfl, (by repeat (first | exact hb.out | apply below_drew | apply below_drewN | apply below_alloc | apply below_grow))⟩
  · have z0 : (s.size : Int) ≤ (i : Int) + 1 := by omega
    have z5 : IntKind.i64.wrap ((i : Int) + 1) = (i : Int) + 1 := by rw [IntKind.wrap_i64]; omega
    have hw : wAt s i = 1 := by rcases Hd.out with ⟨hc, _, e2⟩ | ⟨hc, _, e2⟩ <;> omega
    rw [hw]
    clear hw Hd
    go_enter Tryz.func36, Tryz.ntmps36
    go_wp2_with fail
    skip
    go_ret
    exact ⟨rfl, (by repeat (first | exact Below.refl _ _ | apply below_drew | apply below_drewN | apply below_alloc | apply below_grow))⟩

set_option maxHeartbeats 4000000 in
set_option maxRecDepth 100000 in
theorem zzDecodeLen_g (s : ByteArray) (i : Nat) (w : World) (hi : i < s.size) (hs : s.size ≤ 1099511627776) (h1 : 239 ≤ (s[i]'hi).toNat) (h2 : (s[i]'hi).toNat ≤ 239) :
    Calls Tryz.prog 36 #[.string s, .int .i64 i] w fun e w' => e = .returned (.int .i64 (wAt s i)) ∧ Below w.heap.size w w' := by
  have i0 : (0 : Int) ≤ (i : Int) := by omega
  have i1 : (i : Int) < (s.size : Int) := by omega
  have a128 : ¬ (((s[i]'hi).toNat : Int) < 128) := by omega
  have g194 : (194 : Int) ≤ ((s[i]'hi).toNat : Int) := by omega
  have l223 : ¬ ((s[i]'hi).toNat : Int) ≤ 223 := by omega
  have q224 : (((s[i]'hi).toNat : Int) == 224) = false := by rw [beq_eq_false_iff_ne]; omega
  have g225 : (225 : Int) ≤ ((s[i]'hi).toNat : Int) := by omega
  have l236 : ¬ ((s[i]'hi).toNat : Int) ≤ 236 := by omega
  have q238 : (((s[i]'hi).toNat : Int) == 238) = false := by rw [beq_eq_false_iff_ne]; omega
  have q239 : (((s[i]'hi).toNat : Int) == 239) = true := by rw [beq_iff_eq]; omega
  have q237 : (((s[i]'hi).toNat : Int) == 237) = false := by rw [beq_eq_false_iff_ne]; omega
  have q240 : (((s[i]'hi).toNat : Int) == 240) = false := by rw [beq_eq_false_iff_ne]; omega
  have g241 : ¬ (241 : Int) ≤ ((s[i]'hi).toNat : Int) := by omega
  have l243 : ((s[i]'hi).toNat : Int) ≤ 243 := by omega
  have q244 : (((s[i]'hi).toNat : Int) == 244) = false := by rw [beq_eq_false_iff_ne]; omega
  have hd := dec3 (s := s) (i := i) (by rw [byt_of hi]; omega) (by rw [byt_of hi]; omega)
  have el : lo3 (byt s i) = 128 := by unfold lo3; rw [byt_of hi]; exact if_neg (by omega)
  have eh : hi3 (byt s i) = 191 := by unfold hi3; rw [byt_of hi]; exact if_neg (by omega)
  rw [el, eh] at hd
  clear el eh
  have Hd := Lib.hid hd
  clear hd
  by_cases hz : i + 1 < s.size
  · have z0 : ¬ (s.size : Int) ≤ (i : Int) + 1 := by omega
    have z1 : i + 1 < s.size := hz
    have z2 : (0 : Int) ≤ (i : Int) + 1 := by omega
    have z3 : (i : Int) + 1 < (s.size : Int) := by omega
    have z4 : ((i : Int) + 1).toNat = i + 1 := by omega
    have z5 : IntKind.i64.wrap ((i : Int) + 1) = (i : Int) + 1 := by rw [IntKind.wrap_i64]; omega
    have k1 := byt_of z1
    by_cases c0 : ((s[i + 1]'z1).toNat : Int) < 128
    · have hw : wAt s i = 1 := by rcases Hd.out with ⟨hc, _, e2⟩ | ⟨hc, _, e2⟩ <;> omega
      rw [hw]
      clear hw k1 Hd
      go_enter Tryz.func36, Tryz.ntmps36
      go_wp2_with fail
      skip
      go_ret
      exact ⟨rfl, (by repeat (first | exact Below.refl _ _ | apply below_drew | apply below_drewN | apply below_alloc | apply below_grow))⟩
    by_cases c1 : (191 : Int) < ((s[i + 1]'z1).toNat : Int)
    · have hw : wAt s i = 1 := by rcases Hd.out with ⟨hc, _, e2⟩ | ⟨hc, _, e2⟩ <;> omega
      rw [hw]
      clear hw k1 Hd
      go_enter Tryz.func36, Tryz.ntmps36
      go_wp2_with fail
      skip
      go_ret
      exact ⟨rfl, (by repeat (first | exact Below.refl _ _ | apply below_drew | apply below_drewN | apply below_alloc | apply below_grow))⟩
    have K1 := Lib.hid k1
    clear k1
    go_enter Tryz.func36, Tryz.ntmps36
    go_wp2_with fail
    skip
    go_loopg [9] 3 (fun g kv wr => ∃ k : Nat, kv = .int .i64 k ∧ Hid (Below w.heap.size w wr) ∧ 2 ≤ k ∧ k ≤ 3 ∧ Hid (Conts s i k) ∧ (2 < k → i + k ≤ s.size) ∧ 3 - k < g)
    case atStart => exact ⟨2, rfl, Lib.hid (by repeat (first | exact Below.refl _ _ | apply below_drew | apply below_drewN | apply below_alloc | apply below_grow)), by omega, by omega, Lib.hid (fun x h1 h2 => by omega), fun h => by omega, by omega⟩
    case round =>
      obtain ⟨k, rfl, hb, hk2, hkn, hct, hks, hg⟩ := hrel
      by_cases hk : k < 3
      · have k0 : (k : Int) < 3 := by omega
        have hck : k = 2 ∨ k = 3 := by omega
        by_cases y3 : i + k < s.size
        · have y0 : (0 : Int) ≤ (i : Int) + (k : Int) := by omega
          have y1 : (i : Int) + (k : Int) < (s.size : Int) := by omega
          have y5 : ¬ (s.size : Int) ≤ (i : Int) + (k : Int) := by omega
          have y2 : ((i : Int) + (k : Int)).toNat = i + k := by omega
          have y6 : IntKind.i64.wrap ((i : Int) + (k : Int)) = (i : Int) + (k : Int) := by rw [IntKind.wrap_i64]; omega
          have kb := byt_of y3
          by_cases d0 : ((s[i + k]'y3).toNat : Int) < 128
          · have hw : wAt s i = 1 := by rcases hck with rfl | rfl <;> rcases Hd.out with ⟨hc, _, e2⟩ | ⟨hc, _, e2⟩ <;> omega
            have Hw := Lib.hid hw
            clear hw kb Hd hck K1
            go_wp2_with fail
            skip
            go_ret
            exact ⟨by rw [Hw.out]; rfl, (by repeat (first | exact hb.out | apply below_drew | apply below_drewN | apply below_alloc | apply below_grow))⟩
          by_cases d1 : (191 : Int) < ((s[i + k]'y3).toNat : Int)
          · have hw : wAt s i = 1 := by rcases hck with rfl | rfl <;> rcases Hd.out with ⟨hc, _, e2⟩ | ⟨hc, _, e2⟩ <;> omega
            have Hw := Lib.hid hw
            clear hw kb Hd hck K1
            go_wp2_with fail
            skip
            go_ret
            exact ⟨by rw [Hw.out]; rfl, (by repeat (first | exact hb.out | apply below_drew | apply below_drewN | apply below_alloc | apply below_grow))⟩
          have hn : Conts s i (k + 1) := hct.out.succ (by omega) (by omega)
          have Hn := Lib.hid hn
          clear hn kb hct hck
          go_wp2_with fail
          skip
          go_roundg (3 - k)
          case measure => omega
          case rel => exact ⟨k + 1, by go_num, Lib.hid (by repeat (first | exact hb.out | apply below_drew | apply below_drewN | apply below_alloc | apply below_grow)), by omega, by omega, Hn, fun _ => by omega, by omega⟩
        · have y5 : (s.size : Int) ≤ (i : Int) + (k : Int) := by omega
          have y6 : IntKind.i64.wrap ((i : Int) + (k : Int)) = (i : Int) + (k : Int) := by rw [IntKind.wrap_i64]; omega
          have hw : wAt s i = 1 := by rcases hck with rfl | rfl <;> rcases Hd.out with ⟨hc, _, e2⟩ | ⟨hc, _, e2⟩ <;> omega
          have Hw := Lib.hid hw
          clear hw Hd hck K1 y3
          go_wp2_with fail
          skip
          go_ret
          exact ⟨by rw [Hw.out]; rfl, (by repeat (first | exact hb.out | apply below_drew | apply below_drewN | apply below_alloc | apply below_grow))⟩
      · have k0 : ¬ (k : Int) < 3 := by omega
        obtain rfl : k = 3 := by omega
        have hw : wAt s i = 3 := by
          have k1 := K1.out
          have u2 := hct.out 2
          have u3 := hct.out 3
          rcases Hd.out with ⟨hc, _, e2⟩ | ⟨hc, _, e2⟩ <;> omega
        have Hw := Lib.hid hw
        clear hw Hd K1
        go_wp2_with fail
        go_ret
        exact ⟨by rw [Hw.out]; rfl, (by repeat (first | exact hb.out | apply below_drew | apply below_drewN | apply below_alloc | apply below_grow))⟩
  · have z0 : (s.size : Int) ≤ (i : Int) + 1 := by omega
    have z5 : IntKind.i64.wrap ((i : Int) + 1) = (i : Int) + 1 := by rw [IntKind.wrap_i64]; omega
    have hw : wAt s i = 1 := by rcases Hd.out with ⟨hc, _, e2⟩ | ⟨hc, _, e2⟩ <;> omega
    rw [hw]
    clear hw Hd
    go_enter Tryz.func36, Tryz.ntmps36
    go_wp2_with fail
    skip
    go_ret
    exact ⟨rfl, (by repeat (first | exact Below.refl _ _ | apply below_drew | apply below_drewN | apply below_alloc | apply below_grow))⟩

set_option maxHeartbeats 4000000 in
set_option maxRecDepth 100000 in
theorem zzDecodeLen_h (s : ByteArray) (i : Nat) (w : World) (hi : i < s.size) (hs : s.size ≤ 1099511627776) (h1 : 237 ≤ (s[i]'hi).toNat) (h2 : (s[i]'hi).toNat ≤ 237) :
    Calls Tryz.prog 36 #[.string s, .int .i64 i] w fun e w' => e = .returned (.int .i64 (wAt s i)) ∧ Below w.heap.size w w' := by
  have i0 : (0 : Int) ≤ (i : Int) := by omega
  have i1 : (i : Int) < (s.size : Int) := by omega
  have a128 : ¬ (((s[i]'hi).toNat : Int) < 128) := by omega
  have g194 : (194 : Int) ≤ ((s[i]'hi).toNat : Int) := by omega
  have l223 : ¬ ((s[i]'hi).toNat : Int) ≤ 223 := by omega
  have q224 : (((s[i]'hi).toNat : Int) == 224) = false := by rw [beq_eq_false_iff_ne]; omega
  have g225 : (225 : Int) ≤ ((s[i]'hi).toNat : Int) := by omega
  have l236 : ¬ ((s[i]'hi).toNat : Int) ≤ 236 := by omega
  have q238 : (((s[i]'hi).toNat : Int) == 238) = false := by rw [beq_eq_false_iff_ne]; omega
  have q239 : (((s[i]'hi).toNat : Int) == 239) = false := by rw [beq_eq_false_iff_ne]; omega
  have q237 : (((s[i]'hi).toNat : Int) == 237) = true := by rw [beq_iff_eq]; omega
  have q240 : (((s[i]'hi).toNat : Int) == 240) = false := by rw [beq_eq_false_iff_ne]; omega
  have g241 : ¬ (241 : Int) ≤ ((s[i]'hi).toNat : Int) := by omega
  have l243 : ((s[i]'hi).toNat : Int) ≤ 243 := by omega
  have q244 : (((s[i]'hi).toNat : Int) == 244) = false := by rw [beq_eq_false_iff_ne]; omega
  have hd := dec3 (s := s) (i := i) (by rw [byt_of hi]; omega) (by rw [byt_of hi]; omega)
  have el : lo3 (byt s i) = 128 := by unfold lo3; rw [byt_of hi]; exact if_neg (by omega)
  have eh : hi3 (byt s i) = 159 := by unfold hi3; rw [byt_of hi]; exact if_pos (by omega)
  rw [el, eh] at hd
  clear el eh
  have Hd := Lib.hid hd
  clear hd
  by_cases hz : i + 1 < s.size
  · have z0 : ¬ (s.size : Int) ≤ (i : Int) + 1 := by omega
    have z1 : i + 1 < s.size := hz
    have z2 : (0 : Int) ≤ (i : Int) + 1 := by omega
    have z3 : (i : Int) + 1 < (s.size : Int) := by omega
    have z4 : ((i : Int) + 1).toNat = i + 1 := by omega
    have z5 : IntKind.i64.wrap ((i : Int) + 1) = (i : Int) + 1 := by rw [IntKind.wrap_i64]; omega
    have k1 := byt_of z1
    by_cases c0 : ((s[i + 1]'z1).toNat : Int) < 128
    · have hw : wAt s i = 1 := by rcases Hd.out with ⟨hc, _, e2⟩ | ⟨hc, _, e2⟩ <;> omega
      rw [hw]
      clear hw k1 Hd
      go_enter Tryz.func36, Tryz.ntmps36
      go_wp2_with fail
      skip
      go_ret
      exact ⟨rfl, (by repeat (first | exact Below.refl _ _ | apply below_drew | apply below_drewN | apply below_alloc | apply below_grow))⟩
    by_cases c1 : (159 : Int) < ((s[i + 1]'z1).toNat : Int)
    · have hw : wAt s i = 1 := by rcases Hd.out with ⟨hc, _, e2⟩ | ⟨hc, _, e2⟩ <;> omega
      rw [hw]
      clear hw k1 Hd
      go_enter Tryz.func36, Tryz.ntmps36
      go_wp2_with fail
      skip
      go_ret
      exact ⟨rfl, (by repeat (first | exact Below.refl _ _ | apply below_drew | apply below_drewN | apply below_alloc | apply below_grow))⟩
    have K1 := Lib.hid k1
    clear k1
    go_enter Tryz.func36, Tryz.ntmps36
    go_wp2_with fail
    skip
    go_loopg [9] 3 (fun g kv wr => ∃ k : Nat, kv = .int .i64 k ∧ Hid (Below w.heap.size w wr) ∧ 2 ≤ k ∧ k ≤ 3 ∧ Hid (Conts s i k) ∧ (2 < k → i + k ≤ s.size) ∧ 3 - k < g)
    case atStart => exact ⟨2, rfl, Lib.hid (by repeat (first | exact Below.refl _ _ | apply below_drew | apply below_drewN | apply below_alloc | apply below_grow)), by omega, by omega, Lib.hid (fun x h1 h2 => by omega), fun h => by omega, by omega⟩
    case round =>
      obtain ⟨k, rfl, hb, hk2, hkn, hct, hks, hg⟩ := hrel
      by_cases hk : k < 3
      · have k0 : (k : Int) < 3 := by omega
        have hck : k = 2 ∨ k = 3 := by omega
        by_cases y3 : i + k < s.size
        · have y0 : (0 : Int) ≤ (i : Int) + (k : Int) := by omega
          have y1 : (i : Int) + (k : Int) < (s.size : Int) := by omega
          have y5 : ¬ (s.size : Int) ≤ (i : Int) + (k : Int) := by omega
          have y2 : ((i : Int) + (k : Int)).toNat = i + k := by omega
          have y6 : IntKind.i64.wrap ((i : Int) + (k : Int)) = (i : Int) + (k : Int) := by rw [IntKind.wrap_i64]; omega
          have kb := byt_of y3
          by_cases d0 : ((s[i + k]'y3).toNat : Int) < 128
          · have hw : wAt s i = 1 := by rcases hck with rfl | rfl <;> rcases Hd.out with ⟨hc, _, e2⟩ | ⟨hc, _, e2⟩ <;> omega
            have Hw := Lib.hid hw
            clear hw kb Hd hck K1
            go_wp2_with fail
            skip
            go_ret
            exact ⟨by rw [Hw.out]; rfl, (by repeat (first | exact hb.out | apply below_drew | apply below_drewN | apply below_alloc | apply below_grow))⟩
          by_cases d1 : (191 : Int) < ((s[i + k]'y3).toNat : Int)
          · have hw : wAt s i = 1 := by rcases hck with rfl | rfl <;> rcases Hd.out with ⟨hc, _, e2⟩ | ⟨hc, _, e2⟩ <;> omega
            have Hw := Lib.hid hw
            clear hw kb Hd hck K1
            go_wp2_with fail
            skip
            go_ret
            exact ⟨by rw [Hw.out]; rfl, (by repeat (first | exact hb.out | apply below_drew | apply below_drewN | apply below_alloc | apply below_grow))⟩
          have hn : Conts s i (k + 1) := hct.out.succ (by omega) (by omega)
          have Hn := Lib.hid hn
          clear hn kb hct hck
          go_wp2_with fail
          skip
          go_roundg (3 - k)
          case measure => omega
          case rel => exact ⟨k + 1, by go_num, Lib.hid (by repeat (first | exact hb.out | apply below_drew | apply below_drewN | apply below_alloc | apply below_grow)), by omega, by omega, Hn, fun _ => by omega, by omega⟩
        · have y5 : (s.size : Int) ≤ (i : Int) + (k : Int) := by omega
          have y6 : IntKind.i64.wrap ((i : Int) + (k : Int)) = (i : Int) + (k : Int) := by rw [IntKind.wrap_i64]; omega
          have hw : wAt s i = 1 := by rcases hck with rfl | rfl <;> rcases Hd.out with ⟨hc, _, e2⟩ | ⟨hc, _, e2⟩ <;> omega
          have Hw := Lib.hid hw
          clear hw Hd hck K1 y3
          go_wp2_with fail
          skip
          go_ret
          exact ⟨by rw [Hw.out]; rfl, (by repeat (first | exact hb.out | apply below_drew | apply below_drewN | apply below_alloc | apply below_grow))⟩
      · have k0 : ¬ (k : Int) < 3 := by omega
        obtain rfl : k = 3 := by omega
        have hw : wAt s i = 3 := by
          have k1 := K1.out
          have u2 := hct.out 2
          have u3 := hct.out 3
          rcases Hd.out with ⟨hc, _, e2⟩ | ⟨hc, _, e2⟩ <;> omega
        have Hw := Lib.hid hw
        clear hw Hd K1
        go_wp2_with fail
        go_ret
        exact ⟨by rw [Hw.out]; rfl, (by repeat (first | exact hb.out | apply below_drew | apply below_drewN | apply below_alloc | apply below_grow))⟩
  · have z0 : (s.size : Int) ≤ (i : Int) + 1 := by omega
    have z5 : IntKind.i64.wrap ((i : Int) + 1) = (i : Int) + 1 := by rw [IntKind.wrap_i64]; omega
    have hw : wAt s i = 1 := by rcases Hd.out with ⟨hc, _, e2⟩ | ⟨hc, _, e2⟩ <;> omega
    rw [hw]
    clear hw Hd
    go_enter Tryz.func36, Tryz.ntmps36
    go_wp2_with fail
    skip
    go_ret
    exact ⟨rfl, (by repeat (first | exact Below.refl _ _ | apply below_drew | apply below_drewN | apply below_alloc | apply below_grow))⟩

set_option maxHeartbeats 4000000 in
set_option maxRecDepth 100000 in
theorem zzDecodeLen_i (s : ByteArray) (i : Nat) (w : World) (hi : i < s.size) (hs : s.size ≤ 1099511627776) (h1 : 240 ≤ (s[i]'hi).toNat) (h2 : (s[i]'hi).toNat ≤ 240) :
    Calls Tryz.prog 36 #[.string s, .int .i64 i] w fun e w' => e = .returned (.int .i64 (wAt s i)) ∧ Below w.heap.size w w' := by
  have i0 : (0 : Int) ≤ (i : Int) := by omega
  have i1 : (i : Int) < (s.size : Int) := by omega
  have a128 : ¬ (((s[i]'hi).toNat : Int) < 128) := by omega
  have g194 : (194 : Int) ≤ ((s[i]'hi).toNat : Int) := by omega
  have l223 : ¬ ((s[i]'hi).toNat : Int) ≤ 223 := by omega
  have q224 : (((s[i]'hi).toNat : Int) == 224) = false := by rw [beq_eq_false_iff_ne]; omega
  have g225 : (225 : Int) ≤ ((s[i]'hi).toNat : Int) := by omega
  have l236 : ¬ ((s[i]'hi).toNat : Int) ≤ 236 := by omega
  have q238 : (((s[i]'hi).toNat : Int) == 238) = false := by rw [beq_eq_false_iff_ne]; omega
  have q239 : (((s[i]'hi).toNat : Int) == 239) = false := by rw [beq_eq_false_iff_ne]; omega
  have q237 : (((s[i]'hi).toNat : Int) == 237) = false := by rw [beq_eq_false_iff_ne]; omega
  have q240 : (((s[i]'hi).toNat : Int) == 240) = true := by rw [beq_iff_eq]; omega
  have g241 : ¬ (241 : Int) ≤ ((s[i]'hi).toNat : Int) := by omega
  have l243 : ((s[i]'hi).toNat : Int) ≤ 243 := by omega
  have q244 : (((s[i]'hi).toNat : Int) == 244) = false := by rw [beq_eq_false_iff_ne]; omega
  have hd := dec4 (s := s) (i := i) (by rw [byt_of hi]; omega) (by rw [byt_of hi]; omega)
  have el : lo4 (byt s i) = 144 := by unfold lo4; rw [byt_of hi]; exact if_pos (by omega)
  have eh : hi4 (byt s i) = 191 := by unfold hi4; rw [byt_of hi]; exact if_neg (by omega)
  rw [el, eh] at hd
  clear el eh
  have Hd := Lib.hid hd
  clear hd
  by_cases hz : i + 1 < s.size
  · have z0 : ¬ (s.size : Int) ≤ (i : Int) + 1 := by omega
    have z1 : i + 1 < s.size := hz
    have z2 : (0 : Int) ≤ (i : Int) + 1 := by omega
    have z3 : (i : Int) + 1 < (s.size : Int) := by omega
    have z4 : ((i : Int) + 1).toNat = i + 1 := by omega
    have z5 : IntKind.i64.wrap ((i : Int) + 1) = (i : Int) + 1 := by rw [IntKind.wrap_i64]; omega
    have k1 := byt_of z1
    by_cases c0 : ((s[i + 1]'z1).toNat : Int) < 144
    · have hw : wAt s i = 1 := by rcases Hd.out with ⟨hc, _, e2⟩ | ⟨hc, _, e2⟩ <;> omega
      rw [hw]
      clear hw k1 Hd
      go_enter Tryz.func36, Tryz.ntmps36
      go_wp2_with fail
      skip
      go_ret
      exact ⟨rfl, (by repeat (first | exact Below.refl _ _ | apply below_drew | apply below_drewN | apply below_alloc | apply below_grow))⟩
    by_cases c1 : (191 : Int) < ((s[i + 1]'z1).toNat : Int)
    · have hw : wAt s i = 1 := by rcases Hd.out with ⟨hc, _, e2⟩ | ⟨hc, _, e2⟩ <;> omega
      rw [hw]
      clear hw k1 Hd
      go_enter Tryz.func36, Tryz.ntmps36
      go_wp2_with fail
      skip
      go_ret
      exact ⟨rfl, (by repeat (first | exact Below.refl _ _ | apply below_drew | apply below_drewN | apply below_alloc | apply below_grow))⟩
    have K1 := Lib.hid k1
    clear k1
    go_enter Tryz.func36, Tryz.ntmps36
    go_wp2_with fail
    skip
    go_loopg [9] 4 (fun g kv wr => ∃ k : Nat, kv = .int .i64 k ∧ Hid (Below w.heap.size w wr) ∧ 2 ≤ k ∧ k ≤ 4 ∧ Hid (Conts s i k) ∧ (2 < k → i + k ≤ s.size) ∧ 4 - k < g)
    case atStart => exact ⟨2, rfl, Lib.hid (by repeat (first | exact Below.refl _ _ | apply below_drew | apply below_drewN | apply below_alloc | apply below_grow)), by omega, by omega, Lib.hid (fun x h1 h2 => by omega), fun h => by omega, by omega⟩
    case round =>
      obtain ⟨k, rfl, hb, hk2, hkn, hct, hks, hg⟩ := hrel
      by_cases hk : k < 4
      · have k0 : (k : Int) < 4 := by omega
        have hck : k = 2 ∨ k = 3 := by omega
        by_cases y3 : i + k < s.size
        · have y0 : (0 : Int) ≤ (i : Int) + (k : Int) := by omega
          have y1 : (i : Int) + (k : Int) < (s.size : Int) := by omega
          have y5 : ¬ (s.size : Int) ≤ (i : Int) + (k : Int) := by omega
          have y2 : ((i : Int) + (k : Int)).toNat = i + k := by omega
          have y6 : IntKind.i64.wrap ((i : Int) + (k : Int)) = (i : Int) + (k : Int) := by rw [IntKind.wrap_i64]; omega
          have kb := byt_of y3
          by_cases d0 : ((s[i + k]'y3).toNat : Int) < 128
          · have hw : wAt s i = 1 := by rcases hck with rfl | rfl <;> rcases Hd.out with ⟨hc, _, e2⟩ | ⟨hc, _, e2⟩ <;> omega
            have Hw := Lib.hid hw
            clear hw kb Hd hck K1
            go_wp2_with fail
            skip
            go_ret
            exact ⟨by rw [Hw.out]; rfl, (by repeat (first | exact hb.out | apply below_drew | apply below_drewN | apply below_alloc | apply below_grow))⟩
          by_cases d1 : (191 : Int) < ((s[i + k]'y3).toNat : Int)
          · have hw : wAt s i = 1 := by rcases hck with rfl | rfl <;> rcases Hd.out with ⟨hc, _, e2⟩ | ⟨hc, _, e2⟩ <;> omega
            have Hw := Lib.hid hw
            clear hw kb Hd hck K1
            go_wp2_with fail
            skip
            go_ret
            exact ⟨by rw [Hw.out]; rfl, (by repeat (first | exact hb.out | apply below_drew | apply below_drewN | apply below_alloc | apply below_grow))⟩
          have hn : Conts s i (k + 1) := hct.out.succ (by omega) (by omega)
          have Hn := Lib.hid hn
          clear hn kb hct hck
          go_wp2_with fail
          skip
          go_roundg (4 - k)
          case measure => omega
          case rel => exact ⟨k + 1, by go_num, Lib.hid (by repeat (first | exact hb.out | apply below_drew | apply below_drewN | apply below_alloc | apply below_grow)), by omega, by omega, Hn, fun _ => by omega, by omega⟩
        · have y5 : (s.size : Int) ≤ (i : Int) + (k : Int) := by omega
          have y6 : IntKind.i64.wrap ((i : Int) + (k : Int)) = (i : Int) + (k : Int) := by rw [IntKind.wrap_i64]; omega
          have hw : wAt s i = 1 := by rcases hck with rfl | rfl <;> rcases Hd.out with ⟨hc, _, e2⟩ | ⟨hc, _, e2⟩ <;> omega
          have Hw := Lib.hid hw
          clear hw Hd hck K1 y3
          go_wp2_with fail
          skip
          go_ret
          exact ⟨by rw [Hw.out]; rfl, (by repeat (first | exact hb.out | apply below_drew | apply below_drewN | apply below_alloc | apply below_grow))⟩
      · have k0 : ¬ (k : Int) < 4 := by omega
        obtain rfl : k = 4 := by omega
        have hw : wAt s i = 4 := by
          have k1 := K1.out
          have u2 := hct.out 2
          have u3 := hct.out 3
          rcases Hd.out with ⟨hc, _, e2⟩ | ⟨hc, _, e2⟩ <;> omega
        have Hw := Lib.hid hw
        clear hw Hd K1
        go_wp2_with fail
        go_ret
        exact ⟨by rw [Hw.out]; rfl, (by repeat (first | exact hb.out | apply below_drew | apply below_drewN | apply below_alloc | apply below_grow))⟩
  · have z0 : (s.size : Int) ≤ (i : Int) + 1 := by omega
    have z5 : IntKind.i64.wrap ((i : Int) + 1) = (i : Int) + 1 := by rw [IntKind.wrap_i64]; omega
    have hw : wAt s i = 1 := by rcases Hd.out with ⟨hc, _, e2⟩ | ⟨hc, _, e2⟩ <;> omega
    rw [hw]
    clear hw Hd
    go_enter Tryz.func36, Tryz.ntmps36
    go_wp2_with fail
    skip
    go_ret
    exact ⟨rfl, (by repeat (first | exact Below.refl _ _ | apply below_drew | apply below_drewN | apply below_alloc | apply below_grow))⟩

set_option maxHeartbeats 4000000 in
set_option maxRecDepth 100000 in
theorem zzDecodeLen_j (s : ByteArray) (i : Nat) (w : World) (hi : i < s.size) (hs : s.size ≤ 1099511627776) (h1 : 241 ≤ (s[i]'hi).toNat) (h2 : (s[i]'hi).toNat ≤ 243) :
    Calls Tryz.prog 36 #[.string s, .int .i64 i] w fun e w' => e = .returned (.int .i64 (wAt s i)) ∧ Below w.heap.size w w' := by
  have i0 : (0 : Int) ≤ (i : Int) := by omega
  have i1 : (i : Int) < (s.size : Int) := by omega
  have a128 : ¬ (((s[i]'hi).toNat : Int) < 128) := by omega
  have g194 : (194 : Int) ≤ ((s[i]'hi).toNat : Int) := by omega
  have l223 : ¬ ((s[i]'hi).toNat : Int) ≤ 223 := by omega
  have q224 : (((s[i]'hi).toNat : Int) == 224) = false := by rw [beq_eq_false_iff_ne]; omega
  have g225 : (225 : Int) ≤ ((s[i]'hi).toNat : Int) := by omega
  have l236 : ¬ ((s[i]'hi).toNat : Int) ≤ 236 := by omega
  have q238 : (((s[i]'hi).toNat : Int) == 238) = false := by rw [beq_eq_false_iff_ne]; omega
  have q239 : (((s[i]'hi).toNat : Int) == 239) = false := by rw [beq_eq_false_iff_ne]; omega
  have q237 : (((s[i]'hi).toNat : Int) == 237) = false := by rw [beq_eq_false_iff_ne]; omega
  have q240 : (((s[i]'hi).toNat : Int) == 240) = false := by rw [beq_eq_false_iff_ne]; omega
  have g241 : (241 : Int) ≤ ((s[i]'hi).toNat : Int) := by omega
  have l243 : ((s[i]'hi).toNat : Int) ≤ 243 := by omega
  have q244 : (((s[i]'hi).toNat : Int) == 244) = false := by rw [beq_eq_false_iff_ne]; omega
  have hd := dec4 (s := s) (i := i) (by rw [byt_of hi]; omega) (by rw [byt_of hi]; omega)
  have el : lo4 (byt s i) = 128 := by unfold lo4; rw [byt_of hi]; exact if_neg (by omega)
  have eh : hi4 (byt s i) = 191 := by unfold hi4; rw [byt_of hi]; exact if_neg (by omega)
  rw [el, eh] at hd
  clear el eh
  have Hd := Lib.hid hd
  clear hd
  by_cases hz : i + 1 < s.size
  · have z0 : ¬ (s.size : Int) ≤ (i : Int) + 1 := by omega
    have z1 : i + 1 < s.size := hz
    have z2 : (0 : Int) ≤ (i : Int) + 1 := by omega
    have z3 : (i : Int) + 1 < (s.size : Int) := by omega
    have z4 : ((i : Int) + 1).toNat = i + 1 := by omega
    have z5 : IntKind.i64.wrap ((i : Int) + 1) = (i : Int) + 1 := by rw [IntKind.wrap_i64]; omega
    have k1 := byt_of z1
    by_cases c0 : ((s[i + 1]'z1).toNat : Int) < 128
    · have hw : wAt s i = 1 := by rcases Hd.out with ⟨hc, _, e2⟩ | ⟨hc, _, e2⟩ <;> omega
      rw [hw]
      clear hw k1 Hd
      go_enter Tryz.func36, Tryz.ntmps36
      go_wp2_with fail
      skip
      go_ret
      exact ⟨rfl, (by repeat (first | exact Below.refl _ _ | apply below_drew | apply below_drewN | apply below_alloc | apply below_grow))⟩
    by_cases c1 : (191 : Int) < ((s[i + 1]'z1).toNat : Int)
    · have hw : wAt s i = 1 := by rcases Hd.out with ⟨hc, _, e2⟩ | ⟨hc, _, e2⟩ <;> omega
      rw [hw]
      clear hw k1 Hd
      go_enter Tryz.func36, Tryz.ntmps36
      go_wp2_with fail
      skip
      go_ret
      exact ⟨rfl, (by repeat (first | exact Below.refl _ _ | apply below_drew | apply below_drewN | apply below_alloc | apply below_grow))⟩
    have K1 := Lib.hid k1
    clear k1
    go_enter Tryz.func36, Tryz.ntmps36
    go_wp2_with fail
    skip
    go_loopg [9] 4 (fun g kv wr => ∃ k : Nat, kv = .int .i64 k ∧ Hid (Below w.heap.size w wr) ∧ 2 ≤ k ∧ k ≤ 4 ∧ Hid (Conts s i k) ∧ (2 < k → i + k ≤ s.size) ∧ 4 - k < g)
    case atStart => exact ⟨2, rfl, Lib.hid (by repeat (first | exact Below.refl _ _ | apply below_drew | apply below_drewN | apply below_alloc | apply below_grow)), by omega, by omega, Lib.hid (fun x h1 h2 => by omega), fun h => by omega, by omega⟩
    case round =>
      obtain ⟨k, rfl, hb, hk2, hkn, hct, hks, hg⟩ := hrel
      by_cases hk : k < 4
      · have k0 : (k : Int) < 4 := by omega
        have hck : k = 2 ∨ k = 3 := by omega
        by_cases y3 : i + k < s.size
        · have y0 : (0 : Int) ≤ (i : Int) + (k : Int) := by omega
          have y1 : (i : Int) + (k : Int) < (s.size : Int) := by omega
          have y5 : ¬ (s.size : Int) ≤ (i : Int) + (k : Int) := by omega
          have y2 : ((i : Int) + (k : Int)).toNat = i + k := by omega
          have y6 : IntKind.i64.wrap ((i : Int) + (k : Int)) = (i : Int) + (k : Int) := by rw [IntKind.wrap_i64]; omega
          have kb := byt_of y3
          by_cases d0 : ((s[i + k]'y3).toNat : Int) < 128
          · have hw : wAt s i = 1 := by rcases hck with rfl | rfl <;> rcases Hd.out with ⟨hc, _, e2⟩ | ⟨hc, _, e2⟩ <;> omega
            have Hw := Lib.hid hw
            clear hw kb Hd hck K1
            go_wp2_with fail
            skip
            go_ret
            exact ⟨by rw [Hw.out]; rfl, (by repeat (first | exact hb.out | apply below_drew | apply below_drewN | apply below_alloc | apply below_grow))⟩
          by_cases d1 : (191 : Int) < ((s[i + k]'y3).toNat : Int)
          · have hw : wAt s i = 1 := by rcases hck with rfl | rfl <;> rcases Hd.out with ⟨hc, _, e2⟩ | ⟨hc, _, e2⟩ <;> omega
            have Hw := Lib.hid hw
            clear hw kb Hd hck K1
            go_wp2_with fail
            skip
            go_ret
            exact ⟨by rw [Hw.out]; rfl, (by repeat (first | exact hb.out | apply below_drew | apply below_drewN | apply below_alloc | apply below_grow))⟩
          have hn : Conts s i (k + 1) := hct.out.succ (by omega) (by omega)
          have Hn := Lib.hid hn
          clear hn kb hct hck
          go_wp2_with fail
          skip
          go_roundg (4 - k)
          case measure => omega
          case rel => exact ⟨k + 1, by go_num, Lib.hid (by repeat (first | exact hb.out | apply below_drew | apply below_drewN | apply below_alloc | apply below_grow)), by omega, by omega, Hn, fun _ => by omega, by omega⟩
        · have y5 : (s.size : Int) ≤ (i : Int) + (k : Int) := by omega
          have y6 : IntKind.i64.wrap ((i : Int) + (k : Int)) = (i : Int) + (k : Int) := by rw [IntKind.wrap_i64]; omega
          have hw : wAt s i = 1 := by rcases hck with rfl | rfl <;> rcases Hd.out with ⟨hc, _, e2⟩ | ⟨hc, _, e2⟩ <;> omega
          have Hw := Lib.hid hw
          clear hw Hd hck K1 y3
          go_wp2_with fail
          skip
          go_ret
          exact ⟨by rw [Hw.out]; rfl, (by repeat (first | exact hb.out | apply below_drew | apply below_drewN | apply below_alloc | apply below_grow))⟩
      · have k0 : ¬ (k : Int) < 4 := by omega
        obtain rfl : k = 4 := by omega
        have hw : wAt s i = 4 := by
          have k1 := K1.out
          have u2 := hct.out 2
          have u3 := hct.out 3
          rcases Hd.out with ⟨hc, _, e2⟩ | ⟨hc, _, e2⟩ <;> omega
        have Hw := Lib.hid hw
        clear hw Hd K1
        go_wp2_with fail
        go_ret
        exact ⟨by rw [Hw.out]; rfl, (by repeat (first | exact hb.out | apply below_drew | apply below_drewN | apply below_alloc | apply below_grow))⟩
  · have z0 : (s.size : Int) ≤ (i : Int) + 1 := by omega
    have z5 : IntKind.i64.wrap ((i : Int) + 1) = (i : Int) + 1 := by rw [IntKind.wrap_i64]; omega
    have hw : wAt s i = 1 := by rcases Hd.out with ⟨hc, _, e2⟩ | ⟨hc, _, e2⟩ <;> omega
    rw [hw]
    clear hw Hd
    go_enter Tryz.func36, Tryz.ntmps36
    go_wp2_with fail
    skip
    go_ret
    exact ⟨rfl, (by repeat (first | exact Below.refl _ _ | apply below_drew | apply below_drewN | apply below_alloc | apply below_grow))⟩

set_option maxHeartbeats 4000000 in
set_option maxRecDepth 100000 in
theorem zzDecodeLen_k (s : ByteArray) (i : Nat) (w : World) (hi : i < s.size) (hs : s.size ≤ 1099511627776) (h1 : 244 ≤ (s[i]'hi).toNat) (h2 : (s[i]'hi).toNat ≤ 244) :
    Calls Tryz.prog 36 #[.string s, .int .i64 i] w fun e w' => e = .returned (.int .i64 (wAt s i)) ∧ Below w.heap.size w w' := by
  have i0 : (0 : Int) ≤ (i : Int) := by omega
  have i1 : (i : Int) < (s.size : Int) := by omega
  have a128 : ¬ (((s[i]'hi).toNat : Int) < 128) := by omega
  have g194 : (194 : Int) ≤ ((s[i]'hi).toNat : Int) := by omega
  have l223 : ¬ ((s[i]'hi).toNat : Int) ≤ 223 := by omega
  have q224 : (((s[i]'hi).toNat : Int) == 224) = false := by rw [beq_eq_false_iff_ne]; omega
  have g225 : (225 : Int) ≤ ((s[i]'hi).toNat : Int) := by omega
  have l236 : ¬ ((s[i]'hi).toNat : Int) ≤ 236 := by omega
  have q238 : (((s[i]'hi).toNat : Int) == 238) = false := by rw [beq_eq_false_iff_ne]; omega
  have q239 : (((s[i]'hi).toNat : Int) == 239) = false := by rw [beq_eq_false_iff_ne]; omega
  have q237 : (((s[i]'hi).toNat : Int) == 237) = false := by rw [beq_eq_false_iff_ne]; omega
  have q240 : (((s[i]'hi).toNat : Int) == 240) = false := by rw [beq_eq_false_iff_ne]; omega
  have g241 : (241 : Int) ≤ ((s[i]'hi).toNat : Int) := by omega
  have l243 : ¬ ((s[i]'hi).toNat : Int) ≤ 243 := by omega
  have q244 : (((s[i]'hi).toNat : Int) == 244) = true := by rw [beq_iff_eq]; omega
  have hd := dec4 (s := s) (i := i) (by rw [byt_of hi]; omega) (by rw [byt_of hi]; omega)
  have el : lo4 (byt s i) = 128 := by unfold lo4; rw [byt_of hi]; exact if_neg (by omega)
  have eh : hi4 (byt s i) = 143 := by unfold hi4; rw [byt_of hi]; exact if_pos (by omega)
  rw [el, eh] at hd
  clear el eh
  have Hd := Lib.hid hd
  clear hd
  by_cases hz : i + 1 < s.size
  · have z0 : ¬ (s.size : Int) ≤ (i : Int) + 1 := by omega
    have z1 : i + 1 < s.size := hz
    have z2 : (0 : Int) ≤ (i : Int) + 1 := by omega
    have z3 : (i : Int) + 1 < (s.size : Int) := by omega
    have z4 : ((i : Int) + 1).toNat = i + 1 := by omega
    have z5 : IntKind.i64.wrap ((i : Int) + 1) = (i : Int) + 1 := by rw [IntKind.wrap_i64]; omega
    have k1 := byt_of z1
    by_cases c0 : ((s[i + 1]'z1).toNat : Int) < 128
    · have hw : wAt s i = 1 := by rcases Hd.out with ⟨hc, _, e2⟩ | ⟨hc, _, e2⟩ <;> omega
      rw [hw]
      clear hw k1 Hd
      go_enter Tryz.func36, Tryz.ntmps36
      go_wp2_with fail
      skip
      go_ret
      exact ⟨rfl, (by repeat (first | exact Below.refl _ _ | apply below_drew | apply below_drewN | apply below_alloc | apply below_grow))⟩
    by_cases c1 : (143 : Int) < ((s[i + 1]'z1).toNat : Int)
    · have hw : wAt s i = 1 := by rcases Hd.out with ⟨hc, _, e2⟩ | ⟨hc, _, e2⟩ <;> omega
      rw [hw]
      clear hw k1 Hd
      go_enter Tryz.func36, Tryz.ntmps36
      go_wp2_with fail
      skip
      go_ret
      exact ⟨rfl, (by repeat (first | exact Below.refl _ _ | apply below_drew | apply below_drewN | apply below_alloc | apply below_grow))⟩
    have K1 := Lib.hid k1
    clear k1
    go_enter Tryz.func36, Tryz.ntmps36
    go_wp2_with fail
    skip
    go_loopg [9] 4 (fun g kv wr => ∃ k : Nat, kv = .int .i64 k ∧ Hid (Below w.heap.size w wr) ∧ 2 ≤ k ∧ k ≤ 4 ∧ Hid (Conts s i k) ∧ (2 < k → i + k ≤ s.size) ∧ 4 - k < g)
    case atStart => exact ⟨2, rfl, Lib.hid (by repeat (first | exact Below.refl _ _ | apply below_drew | apply below_drewN | apply below_alloc | apply below_grow)), by omega, by omega, Lib.hid (fun x h1 h2 => by omega), fun h => by omega, by omega⟩
    case round =>
      obtain ⟨k, rfl, hb, hk2, hkn, hct, hks, hg⟩ := hrel
      by_cases hk : k < 4
      · have k0 : (k : Int) < 4 := by omega
        have hck : k = 2 ∨ k = 3 := by omega
        by_cases y3 : i + k < s.size
        · have y0 : (0 : Int) ≤ (i : Int) + (k : Int) := by omega
          have y1 : (i : Int) + (k : Int) < (s.size : Int) := by omega
          have y5 : ¬ (s.size : Int) ≤ (i : Int) + (k : Int) := by omega
          have y2 : ((i : Int) + (k : Int)).toNat = i + k := by omega
          have y6 : IntKind.i64.wrap ((i : Int) + (k : Int)) = (i : Int) + (k : Int) := by rw [IntKind.wrap_i64]; omega
          have kb := byt_of y3
          by_cases d0 : ((s[i + k]'y3).toNat : Int) < 128
          · have hw : wAt s i = 1 := by rcases hck with rfl | rfl <;> rcases Hd.out with ⟨hc, _, e2⟩ | ⟨hc, _, e2⟩ <;> omega
            have Hw := Lib.hid hw
            clear hw kb Hd hck K1
            go_wp2_with fail
            skip
            go_ret
            exact ⟨by rw [Hw.out]; rfl, (by repeat (first | exact hb.out | apply below_drew | apply below_drewN | apply below_alloc | apply below_grow))⟩
          by_cases d1 : (191 : Int) < ((s[i + k]'y3).toNat : Int)
          · have hw : wAt s i = 1 := by rcases hck with rfl | rfl <;> rcases Hd.out with ⟨hc, _, e2⟩ | ⟨hc, _, e2⟩ <;> omega
            have Hw := Lib.hid hw
            clear hw kb Hd hck K1
            go_wp2_with fail
            skip
            go_ret
            exact ⟨by rw [Hw.out]; rfl, (by repeat (first | exact hb.out | apply below_drew | apply below_drewN | apply below_alloc | apply below_grow))⟩
          have hn : Conts s i (k + 1) := hct.out.succ (by omega) (by omega)
          have Hn := Lib.hid hn
          clear hn kb hct hck
          go_wp2_with fail
          skip
          go_roundg (4 - k)
          case measure => omega
          case rel => exact ⟨k + 1, by go_num, Lib.hid (by repeat (first | exact hb.out | apply below_drew | apply below_drewN | apply below_alloc | apply below_grow)), by omega, by omega, Hn, fun _ => by omega, by omega⟩
        · have y5 : (s.size : Int) ≤ (i : Int) + (k : Int) := by omega
          have y6 : IntKind.i64.wrap ((i : Int) + (k : Int)) = (i : Int) + (k : Int) := by rw [IntKind.wrap_i64]; omega
          have hw : wAt s i = 1 := by rcases hck with rfl | rfl <;> rcases Hd.out with ⟨hc, _, e2⟩ | ⟨hc, _, e2⟩ <;> omega
          have Hw := Lib.hid hw
          clear hw Hd hck K1 y3
          go_wp2_with fail
          skip
          go_ret
          exact ⟨by rw [Hw.out]; rfl, (by repeat (first | exact hb.out | apply below_drew | apply below_drewN | apply below_alloc | apply below_grow))⟩
      · have k0 : ¬ (k : Int) < 4 := by omega
        obtain rfl : k = 4 := by omega
        have hw : wAt s i = 4 := by
          have k1 := K1.out
          have u2 := hct.out 2
          have u3 := hct.out 3
          rcases Hd.out with ⟨hc, _, e2⟩ | ⟨hc, _, e2⟩ <;> omega
        have Hw := Lib.hid hw
        clear hw Hd K1
        go_wp2_with fail
        go_ret
        exact ⟨by rw [Hw.out]; rfl, (by repeat (first | exact hb.out | apply below_drew | apply below_drewN | apply below_alloc | apply below_grow))⟩
  · have z0 : (s.size : Int) ≤ (i : Int) + 1 := by omega
    have z5 : IntKind.i64.wrap ((i : Int) + 1) = (i : Int) + 1 := by rw [IntKind.wrap_i64]; omega
    have hw : wAt s i = 1 := by rcases Hd.out with ⟨hc, _, e2⟩ | ⟨hc, _, e2⟩ <;> omega
    rw [hw]
    clear hw Hd
    go_enter Tryz.func36, Tryz.ntmps36
    go_wp2_with fail
    skip
    go_ret
    exact ⟨rfl, (by repeat (first | exact Below.refl _ _ | apply below_drew | apply below_drewN | apply below_alloc | apply below_grow))⟩

set_option maxHeartbeats 4000000 in
set_option maxRecDepth 100000 in
theorem zzDecodeLen_l (s : ByteArray) (i : Nat) (w : World) (hi : i < s.size) (hs : s.size ≤ 1099511627776) (h1 : 245 ≤ (s[i]'hi).toNat) (h2 : (s[i]'hi).toNat ≤ 255) :
    Calls Tryz.prog 36 #[.string s, .int .i64 i] w fun e w' => e = .returned (.int .i64 (wAt s i)) ∧ Below w.heap.size w w' := by
  have i0 : (0 : Int) ≤ (i : Int) := by omega
  have i1 : (i : Int) < (s.size : Int) := by omega
  have a128 : ¬ (((s[i]'hi).toNat : Int) < 128) := by omega
  have g194 : (194 : Int) ≤ ((s[i]'hi).toNat : Int) := by omega
  have l223 : ¬ ((s[i]'hi).toNat : Int) ≤ 223 := by omega
  have q224 : (((s[i]'hi).toNat : Int) == 224) = false := by rw [beq_eq_false_iff_ne]; omega
  have g225 : (225 : Int) ≤ ((s[i]'hi).toNat : Int) := by omega
  have l236 : ¬ ((s[i]'hi).toNat : Int) ≤ 236 := by omega
  have q238 : (((s[i]'hi).toNat : Int) == 238) = false := by rw [beq_eq_false_iff_ne]; omega
  have q239 : (((s[i]'hi).toNat : Int) == 239) = false := by rw [beq_eq_false_iff_ne]; omega
  have q237 : (((s[i]'hi).toNat : Int) == 237) = false := by rw [beq_eq_false_iff_ne]; omega
  have q240 : (((s[i]'hi).toNat : Int) == 240) = false := by rw [beq_eq_false_iff_ne]; omega
  have g241 : (241 : Int) ≤ ((s[i]'hi).toNat : Int) := by omega
  have l243 : ¬ ((s[i]'hi).toNat : Int) ≤ 243 := by omega
  have q244 : (((s[i]'hi).toNat : Int) == 244) = false := by rw [beq_eq_false_iff_ne]; omega
  rw [(dec_hi (s := s) (i := i) (by rw [byt_of hi]; omega)).2]
  go_enter Tryz.func36, Tryz.ntmps36
  go_wp2_with fail
  go_ret
  exact ⟨rfl, (by repeat (first | exact Below.refl _ _ | apply below_drew | apply below_drewN | apply below_alloc | apply below_grow))⟩

theorem zzDecodeLen_any (s : ByteArray) (i : Nat) (w : World) (hi : i < s.size) (hs : s.size ≤ 1099511627776) :
    Calls Tryz.prog 36 #[.string s, .int .i64 i] w fun e w' => e = .returned (.int .i64 (wAt s i)) ∧ Below w.heap.size w w' := by
  have hb := (s[i]'hi).toNat_lt
  by_cases ba : (s[i]'hi).toNat ≤ 127
  · exact zzDecodeLen_a s i w hi hs (by omega) ba
  by_cases bb : (s[i]'hi).toNat ≤ 193
  · exact zzDecodeLen_b s i w hi hs (by omega) bb
  by_cases bc : (s[i]'hi).toNat ≤ 223
  · exact zzDecodeLen_c s i w hi hs (by omega) bc
  by_cases bd : (s[i]'hi).toNat ≤ 224
  · exact zzDecodeLen_d s i w hi hs (by omega) bd
  by_cases be : (s[i]'hi).toNat ≤ 236
  · exact zzDecodeLen_e s i w hi hs (by omega) be
  by_cases bh : (s[i]'hi).toNat ≤ 237
  · exact zzDecodeLen_h s i w hi hs (by omega) bh
  by_cases bf : (s[i]'hi).toNat ≤ 238
  · exact zzDecodeLen_f s i w hi hs (by omega) bf
  by_cases bg : (s[i]'hi).toNat ≤ 239
  · exact zzDecodeLen_g s i w hi hs (by omega) bg
  by_cases bi : (s[i]'hi).toNat ≤ 240
  · exact zzDecodeLen_i s i w hi hs (by omega) bi
  by_cases bj : (s[i]'hi).toNat ≤ 243
  · exact zzDecodeLen_j s i w hi hs (by omega) bj
  by_cases bk : (s[i]'hi).toNat ≤ 244
  · exact zzDecodeLen_k s i w hi hs (by omega) bk
  by_cases bl : (s[i]'hi).toNat ≤ 255
  · exact zzDecodeLen_l s i w hi hs (by omega) bl
  omega

end Go.Proofs.YtkplkccjeacniaaGreatFmt
