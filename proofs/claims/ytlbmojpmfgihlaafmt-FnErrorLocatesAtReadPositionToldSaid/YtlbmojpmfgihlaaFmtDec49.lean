/-
  Walk: b5Dec of n003_49 is as wide as the model's decoder (printed by gendec49.py).
-/
import Derived.Test.YtlbmojpmfgihlaaFmtDec
import Derived.Test.YtlbmojpmfgihlaaFmtBase
import Derived.WalkKit
namespace Go.Proofs.YtlbmojpmfgihlaaFmt
open Go Go.Lib Go.RowKit Go.Proofs

def DecPost (s : ByteArray) (i : Nat) (w : World) (e : Ending) (w' : World) : Prop := ∃ r : Int, e = .returned (.tuple #[.int .i32 r, .int .i64 (wAt s i)]) ∧ Below w.heap.size w w'
theorem decPost_ret {s : ByteArray} {i m : Nat} {r : Int} {w w' : World} (h : wAt s i = m) (hb : Below w.heap.size w w') : DecPost s i w (.returned (.tuple #[.int .i32 r, .int .i64 (m : Nat)])) w' := ⟨r, by rw [h], hb⟩

theorem b5Cont_t (b : UInt8) (lo hi : Int) (h : lo ≤ (b.toNat : Int) ∧ (b.toNat : Int) ≤ hi) (w : World) : Calls Tryf.prog 37 #[.int .u8 (b.toNat : Nat), .int .u8 lo, .int .u8 hi] w fun e w' => e = .returned (.bool true) ∧ w = w' := by
  have h' := h.1
  have h2' := h.2
  clear h
  go_enter Tryf.func37, Tryf.ntmps37
  go_wp2_with fail
  go_ret
  exact ⟨rfl, rfl⟩
theorem b5Cont_f (b : UInt8) (lo hi : Int) (h : ¬ (lo ≤ (b.toNat : Int) ∧ (b.toNat : Int) ≤ hi)) (w : World) : Calls Tryf.prog 37 #[.int .u8 (b.toNat : Nat), .int .u8 lo, .int .u8 hi] w fun e w' => e = .returned (.bool false) ∧ w = w' := by
  by_cases h1 : lo ≤ (b.toNat : Int)
  · have h2' : ¬ (b.toNat : Int) ≤ hi := fun h2 => h ⟨h1, h2⟩
    clear h
    go_enter Tryf.func37, Tryf.ntmps37
    go_wp2_with fail
    go_ret
    exact ⟨rfl, rfl⟩
  · clear h
    go_enter Tryf.func37, Tryf.ntmps37
    go_wp2_with fail
    go_ret
    exact ⟨rfl, rfl⟩

set_option maxHeartbeats 4000000 in
set_option maxRecDepth 100000 in
theorem b5Dec_a (s : ByteArray) (i : Nat) (w : World) (hi : i < s.size) (hs : s.size ≤ 1099511627776) (h1 : 0 ≤ (s[i]'hi).toNat) (h2 : (s[i]'hi).toNat ≤ 127) :
    Calls Tryf.prog 29 #[.string s, .int .i64 i] w (DecPost s i w) := by
  have i0 : (0 : Int) ≤ (i : Int) := by omega
  have i1 : (i : Int) < (s.size : Int) := by omega
  have zw : IntKind.i64.wrap ((s.size : Int) - (i : Int)) = (s.size : Int) - (i : Int) := by rw [IntKind.wrap_i64]; omega
  have a128 : ((s[i]'hi).toNat : Int) < 128 := by omega
  have g194 : ¬ (194 : Int) ≤ ((s[i]'hi).toNat : Int) := by omega
  have l223 : ((s[i]'hi).toNat : Int) ≤ 223 := by omega
  have q224 : (((s[i]'hi).toNat : Int) == 224) = false := by rw [beq_eq_false_iff_ne]; omega
  have g224 : ¬ (224 : Int) ≤ ((s[i]'hi).toNat : Int) := by omega
  have l239 : ((s[i]'hi).toNat : Int) ≤ 239 := by omega
  have q237 : (((s[i]'hi).toNat : Int) == 237) = false := by rw [beq_eq_false_iff_ne]; omega
  have g240 : ¬ (240 : Int) ≤ ((s[i]'hi).toNat : Int) := by omega
  have l244 : ((s[i]'hi).toNat : Int) ≤ 244 := by omega
  have q240 : (((s[i]'hi).toNat : Int) == 240) = false := by rw [beq_eq_false_iff_ne]; omega
  have q244 : (((s[i]'hi).toNat : Int) == 244) = false := by rw [beq_eq_false_iff_ne]; omega
  have hw := (dec1 (s := s) (i := i) (by rw [byt_of hi]; omega)).2
  have Hw := Lib.hid hw
  clear hw
  go_enter Tryf.func29, Tryf.ntmps29
  go_wp2_with fail
  go_ret2
  exact decPost_ret Hw.out (by repeat (first | exact Below.refl _ _ | apply below_drew | apply below_drewN | apply below_alloc | apply below_grow))

set_option maxHeartbeats 4000000 in
set_option maxRecDepth 100000 in
theorem b5Dec_b (s : ByteArray) (i : Nat) (w : World) (hi : i < s.size) (hs : s.size ≤ 1099511627776) (h1 : 128 ≤ (s[i]'hi).toNat) (h2 : (s[i]'hi).toNat ≤ 193) :
    Calls Tryf.prog 29 #[.string s, .int .i64 i] w (DecPost s i w) := by
  have i0 : (0 : Int) ≤ (i : Int) := by omega
  have i1 : (i : Int) < (s.size : Int) := by omega
  have zw : IntKind.i64.wrap ((s.size : Int) - (i : Int)) = (s.size : Int) - (i : Int) := by rw [IntKind.wrap_i64]; omega
  have a128 : ¬ (((s[i]'hi).toNat : Int) < 128) := by omega
  have g194 : ¬ (194 : Int) ≤ ((s[i]'hi).toNat : Int) := by omega
  have l223 : ((s[i]'hi).toNat : Int) ≤ 223 := by omega
  have q224 : (((s[i]'hi).toNat : Int) == 224) = false := by rw [beq_eq_false_iff_ne]; omega
  have g224 : ¬ (224 : Int) ≤ ((s[i]'hi).toNat : Int) := by omega
  have l239 : ((s[i]'hi).toNat : Int) ≤ 239 := by omega
  have q237 : (((s[i]'hi).toNat : Int) == 237) = false := by rw [beq_eq_false_iff_ne]; omega
  have g240 : ¬ (240 : Int) ≤ ((s[i]'hi).toNat : Int) := by omega
  have l244 : ((s[i]'hi).toNat : Int) ≤ 244 := by omega
  have q240 : (((s[i]'hi).toNat : Int) == 240) = false := by rw [beq_eq_false_iff_ne]; omega
  have q244 : (((s[i]'hi).toNat : Int) == 244) = false := by rw [beq_eq_false_iff_ne]; omega
  have hw := (dec_lo (s := s) (i := i) (by rw [byt_of hi]; omega) (by rw [byt_of hi]; omega)).2
  have Hw := Lib.hid hw
  clear hw
  go_enter Tryf.func29, Tryf.ntmps29
  go_wp2_with fail
  go_ret2
  exact decPost_ret Hw.out (by repeat (first | exact Below.refl _ _ | apply below_drew | apply below_drewN | apply below_alloc | apply below_grow))

set_option maxHeartbeats 4000000 in
set_option maxRecDepth 100000 in
theorem b5Dec_c (s : ByteArray) (i : Nat) (w : World) (hi : i < s.size) (hs : s.size ≤ 1099511627776) (h1 : 194 ≤ (s[i]'hi).toNat) (h2 : (s[i]'hi).toNat ≤ 223) :
    Calls Tryf.prog 29 #[.string s, .int .i64 i] w (DecPost s i w) := by
  have i0 : (0 : Int) ≤ (i : Int) := by omega
  have i1 : (i : Int) < (s.size : Int) := by omega
  have zw : IntKind.i64.wrap ((s.size : Int) - (i : Int)) = (s.size : Int) - (i : Int) := by rw [IntKind.wrap_i64]; omega
  have a128 : ¬ (((s[i]'hi).toNat : Int) < 128) := by omega
  have g194 : (194 : Int) ≤ ((s[i]'hi).toNat : Int) := by omega
  have l223 : ((s[i]'hi).toNat : Int) ≤ 223 := by omega
  have q224 : (((s[i]'hi).toNat : Int) == 224) = false := by rw [beq_eq_false_iff_ne]; omega
  have g224 : ¬ (224 : Int) ≤ ((s[i]'hi).toNat : Int) := by omega
  have l239 : ((s[i]'hi).toNat : Int) ≤ 239 := by omega
  have q237 : (((s[i]'hi).toNat : Int) == 237) = false := by rw [beq_eq_false_iff_ne]; omega
  have g240 : ¬ (240 : Int) ≤ ((s[i]'hi).toNat : Int) := by omega
  have l244 : ((s[i]'hi).toNat : Int) ≤ 244 := by omega
  have q240 : (((s[i]'hi).toNat : Int) == 240) = false := by rw [beq_eq_false_iff_ne]; omega
  have q244 : (((s[i]'hi).toNat : Int) == 244) = false := by rw [beq_eq_false_iff_ne]; omega
  have hd := dec2 (s := s) (i := i) (by rw [byt_of hi]; omega) (by rw [byt_of hi]; omega)
  have Hd := Lib.hid hd
  clear hd
  by_cases hz : i + 1 < s.size
  · have z0 : (2 : Int) ≤ (s.size : Int) - (i : Int) := by omega
    have z1 : i + 1 < s.size := by omega
    have y1 : (0 : Int) ≤ (i : Int) + 1 := by omega
    have x1 : (i : Int) + 1 < (s.size : Int) := by omega
    have v1 : ((i : Int) + 1).toNat = i + 1 := by omega
    have k1 := byt_of z1
    by_cases c1 : (128 : Int) ≤ ((s[i + 1]'z1).toNat : Int) ∧ ((s[i + 1]'z1).toNat : Int) ≤ 191
    rotate_left
    · have f1 := b5Cont_f (s[i + 1]'z1) 128 191 c1
      have F1 := Lib.hid f1
      clear f1
      have hw : wAt s i = 1 := by rcases Hd.out with ⟨hc, _, e2⟩ | ⟨hc, _, e2⟩ <;> omega
      have Hw := Lib.hid hw
      clear hw Hd k1
      go_enter Tryf.func29, Tryf.ntmps29
      go_wp2_with (go_at_call 37; refine Calls.mono (by first | (with_reducible exact F1.out _)) ?_; rintro e w' ⟨rfl, rfl⟩)
      go_ret2
      exact decPost_ret Hw.out (by repeat (first | exact Below.refl _ _ | apply below_drew | apply below_drewN | apply below_alloc | apply below_grow))
    have t1 := b5Cont_t (s[i + 1]'z1) 128 191 c1
    have T1 := Lib.hid t1
    clear t1
    have hw : wAt s i = 2 := by rcases Hd.out with ⟨hc, _, e2⟩ | ⟨hc, _, e2⟩ <;> omega
    have Hw := Lib.hid hw
    clear hw Hd k1
    go_enter Tryf.func29, Tryf.ntmps29
    go_wp2_with (go_at_call 37; refine Calls.mono (by first | (with_reducible exact T1.out _)) ?_; rintro e w' ⟨rfl, rfl⟩)
    go_ret2
    exact decPost_ret Hw.out (by repeat (first | exact Below.refl _ _ | apply below_drew | apply below_drewN | apply below_alloc | apply below_grow))
  · have z0 : ¬ (2 : Int) ≤ (s.size : Int) - (i : Int) := by omega
    have hw : wAt s i = 1 := by rcases Hd.out with ⟨hc, _, e2⟩ | ⟨hc, _, e2⟩ <;> omega
    have Hw := Lib.hid hw
    clear hw Hd
    go_enter Tryf.func29, Tryf.ntmps29
    go_wp2_with fail
    go_ret2
    exact decPost_ret Hw.out (by repeat (first | exact Below.refl _ _ | apply below_drew | apply below_drewN | apply below_alloc | apply below_grow))

set_option maxHeartbeats 4000000 in
set_option maxRecDepth 100000 in
theorem b5Dec_d (s : ByteArray) (i : Nat) (w : World) (hi : i < s.size) (hs : s.size ≤ 1099511627776) (h1 : 224 ≤ (s[i]'hi).toNat) (h2 : (s[i]'hi).toNat ≤ 224) :
    Calls Tryf.prog 29 #[.string s, .int .i64 i] w (DecPost s i w) := by
  have i0 : (0 : Int) ≤ (i : Int) := by omega
  have i1 : (i : Int) < (s.size : Int) := by omega
  have zw : IntKind.i64.wrap ((s.size : Int) - (i : Int)) = (s.size : Int) - (i : Int) := by rw [IntKind.wrap_i64]; omega
  have a128 : ¬ (((s[i]'hi).toNat : Int) < 128) := by omega
  have g194 : (194 : Int) ≤ ((s[i]'hi).toNat : Int) := by omega
  have l223 : ¬ ((s[i]'hi).toNat : Int) ≤ 223 := by omega
  have q224 : (((s[i]'hi).toNat : Int) == 224) = true := by rw [beq_iff_eq]; omega
  have g224 : (224 : Int) ≤ ((s[i]'hi).toNat : Int) := by omega
  have l239 : ((s[i]'hi).toNat : Int) ≤ 239 := by omega
  have q237 : (((s[i]'hi).toNat : Int) == 237) = false := by rw [beq_eq_false_iff_ne]; omega
  have g240 : ¬ (240 : Int) ≤ ((s[i]'hi).toNat : Int) := by omega
  have l244 : ((s[i]'hi).toNat : Int) ≤ 244 := by omega
  have q240 : (((s[i]'hi).toNat : Int) == 240) = false := by rw [beq_eq_false_iff_ne]; omega
  have q244 : (((s[i]'hi).toNat : Int) == 244) = false := by rw [beq_eq_false_iff_ne]; omega
  have hd := dec3 (s := s) (i := i) (by rw [byt_of hi]; omega) (by rw [byt_of hi]; omega)
  have el : lo3 (byt s i) = 160 := by unfold lo3; rw [byt_of hi]; exact if_pos (by omega)
  have eh : hi3 (byt s i) = 191 := by unfold hi3; rw [byt_of hi]; exact if_neg (by omega)
  rw [el, eh] at hd
  clear el eh
  have Hd := Lib.hid hd
  clear hd
  by_cases hz : i + 2 < s.size
  · have z0 : (3 : Int) ≤ (s.size : Int) - (i : Int) := by omega
    have z1 : i + 1 < s.size := by omega
    have y1 : (0 : Int) ≤ (i : Int) + 1 := by omega
    have x1 : (i : Int) + 1 < (s.size : Int) := by omega
    have v1 : ((i : Int) + 1).toNat = i + 1 := by omega
    have k1 := byt_of z1
    have z2 : i + 2 < s.size := by omega
    have y2 : (0 : Int) ≤ (i : Int) + 2 := by omega
    have x2 : (i : Int) + 2 < (s.size : Int) := by omega
    have v2 : ((i : Int) + 2).toNat = i + 2 := by omega
    have k2 := byt_of z2
    by_cases c1 : (160 : Int) ≤ ((s[i + 1]'z1).toNat : Int) ∧ ((s[i + 1]'z1).toNat : Int) ≤ 191
    rotate_left
    · have f1 := b5Cont_f (s[i + 1]'z1) 160 191 c1
      have F1 := Lib.hid f1
      clear f1
      have hw : wAt s i = 1 := by rcases Hd.out with ⟨hc, _, e2⟩ | ⟨hc, _, e2⟩ <;> omega
      have Hw := Lib.hid hw
      clear hw Hd k1 k2
      go_enter Tryf.func29, Tryf.ntmps29
      go_wp2_with (go_at_call 37; refine Calls.mono (by first | (with_reducible exact F1.out _)) ?_; rintro e w' ⟨rfl, rfl⟩)
      go_ret2
      exact decPost_ret Hw.out (by repeat (first | exact Below.refl _ _ | apply below_drew | apply below_drewN | apply below_alloc | apply below_grow))
    have t1 := b5Cont_t (s[i + 1]'z1) 160 191 c1
    have T1 := Lib.hid t1
    clear t1
    by_cases c2 : (128 : Int) ≤ ((s[i + 2]'z2).toNat : Int) ∧ ((s[i + 2]'z2).toNat : Int) ≤ 191
    rotate_left
    · have f2 := b5Cont_f (s[i + 2]'z2) 128 191 c2
      have F2 := Lib.hid f2
      clear f2
      have hw : wAt s i = 1 := by rcases Hd.out with ⟨hc, _, e2⟩ | ⟨hc, _, e2⟩ <;> omega
      have Hw := Lib.hid hw
      clear hw Hd k1 k2
      go_enter Tryf.func29, Tryf.ntmps29
      go_wp2_with (go_at_call 37; refine Calls.mono (by first | (with_reducible exact T1.out _) | (with_reducible exact F2.out _)) ?_; rintro e w' ⟨rfl, rfl⟩)
      go_ret2
      exact decPost_ret Hw.out (by repeat (first | exact Below.refl _ _ | apply below_drew | apply below_drewN | apply below_alloc | apply below_grow))
    have t2 := b5Cont_t (s[i + 2]'z2) 128 191 c2
    have T2 := Lib.hid t2
    clear t2
    have s1 : IntKind.i64.wrap ((i : Int) + 1) = (i : Int) + 1 := by rw [IntKind.wrap_i64]; omega
    have s2 : IntKind.i64.wrap ((i : Int) + 2) = (i : Int) + 2 := by rw [IntKind.wrap_i64]; omega
    have hw : wAt s i = 3 := by rcases Hd.out with ⟨hc, _, e2⟩ | ⟨hc, _, e2⟩ <;> omega
    have Hw := Lib.hid hw
    clear hw Hd k1 k2
    go_enter Tryf.func29, Tryf.ntmps29
    go_wp2_with (go_at_call 37; refine Calls.mono (by first | (with_reducible exact T1.out _) | (with_reducible exact T2.out _)) ?_; rintro e w' ⟨rfl, rfl⟩)
    go_quiet (fail)
    go_wp2_with fail
    go_ret2
    exact decPost_ret Hw.out (by repeat (first | exact Below.refl _ _ | apply below_drew | apply below_drewN | apply below_alloc | apply below_grow))
  · have z0 : ¬ (3 : Int) ≤ (s.size : Int) - (i : Int) := by omega
    have hw : wAt s i = 1 := by rcases Hd.out with ⟨hc, _, e2⟩ | ⟨hc, _, e2⟩ <;> omega
    have Hw := Lib.hid hw
    clear hw Hd
    go_enter Tryf.func29, Tryf.ntmps29
    go_wp2_with fail
    go_ret2
    exact decPost_ret Hw.out (by repeat (first | exact Below.refl _ _ | apply below_drew | apply below_drewN | apply below_alloc | apply below_grow))

set_option maxHeartbeats 4000000 in
set_option maxRecDepth 100000 in
theorem b5Dec_e (s : ByteArray) (i : Nat) (w : World) (hi : i < s.size) (hs : s.size ≤ 1099511627776) (h1 : 225 ≤ (s[i]'hi).toNat) (h2 : (s[i]'hi).toNat ≤ 236) :
    Calls Tryf.prog 29 #[.string s, .int .i64 i] w (DecPost s i w) := by
  have i0 : (0 : Int) ≤ (i : Int) := by omega
  have i1 : (i : Int) < (s.size : Int) := by omega
  have zw : IntKind.i64.wrap ((s.size : Int) - (i : Int)) = (s.size : Int) - (i : Int) := by rw [IntKind.wrap_i64]; omega
  have a128 : ¬ (((s[i]'hi).toNat : Int) < 128) := by omega
  have g194 : (194 : Int) ≤ ((s[i]'hi).toNat : Int) := by omega
  have l223 : ¬ ((s[i]'hi).toNat : Int) ≤ 223 := by omega
  have q224 : (((s[i]'hi).toNat : Int) == 224) = false := by rw [beq_eq_false_iff_ne]; omega
  have g224 : (224 : Int) ≤ ((s[i]'hi).toNat : Int) := by omega
  have l239 : ((s[i]'hi).toNat : Int) ≤ 239 := by omega
  have q237 : (((s[i]'hi).toNat : Int) == 237) = false := by rw [beq_eq_false_iff_ne]; omega
  have g240 : ¬ (240 : Int) ≤ ((s[i]'hi).toNat : Int) := by omega
  have l244 : ((s[i]'hi).toNat : Int) ≤ 244 := by omega
  have q240 : (((s[i]'hi).toNat : Int) == 240) = false := by rw [beq_eq_false_iff_ne]; omega
  have q244 : (((s[i]'hi).toNat : Int) == 244) = false := by rw [beq_eq_false_iff_ne]; omega
  have hd := dec3 (s := s) (i := i) (by rw [byt_of hi]; omega) (by rw [byt_of hi]; omega)
  have el : lo3 (byt s i) = 128 := by unfold lo3; rw [byt_of hi]; exact if_neg (by omega)
  have eh : hi3 (byt s i) = 191 := by unfold hi3; rw [byt_of hi]; exact if_neg (by omega)
  rw [el, eh] at hd
  clear el eh
  have Hd := Lib.hid hd
  clear hd
  by_cases hz : i + 2 < s.size
  · have z0 : (3 : Int) ≤ (s.size : Int) - (i : Int) := by omega
    have z1 : i + 1 < s.size := by omega
    have y1 : (0 : Int) ≤ (i : Int) + 1 := by omega
    have x1 : (i : Int) + 1 < (s.size : Int) := by omega
    have v1 : ((i : Int) + 1).toNat = i + 1 := by omega
    have k1 := byt_of z1
    have z2 : i + 2 < s.size := by omega
    have y2 : (0 : Int) ≤ (i : Int) + 2 := by omega
    have x2 : (i : Int) + 2 < (s.size : Int) := by omega
    have v2 : ((i : Int) + 2).toNat = i + 2 := by omega
    have k2 := byt_of z2
    by_cases c1 : (128 : Int) ≤ ((s[i + 1]'z1).toNat : Int) ∧ ((s[i + 1]'z1).toNat : Int) ≤ 191
    rotate_left
    · have f1 := b5Cont_f (s[i + 1]'z1) 128 191 c1
      have F1 := Lib.hid f1
      clear f1
      have hw : wAt s i = 1 := by rcases Hd.out with ⟨hc, _, e2⟩ | ⟨hc, _, e2⟩ <;> omega
      have Hw := Lib.hid hw
      clear hw Hd k1 k2
      go_enter Tryf.func29, Tryf.ntmps29
      go_wp2_with (go_at_call 37; refine Calls.mono (by first | (with_reducible exact F1.out _)) ?_; rintro e w' ⟨rfl, rfl⟩)
      go_ret2
      exact decPost_ret Hw.out (by repeat (first | exact Below.refl _ _ | apply below_drew | apply below_drewN | apply below_alloc | apply below_grow))
    have t1 := b5Cont_t (s[i + 1]'z1) 128 191 c1
    have T1 := Lib.hid t1
    clear t1
    by_cases c2 : (128 : Int) ≤ ((s[i + 2]'z2).toNat : Int) ∧ ((s[i + 2]'z2).toNat : Int) ≤ 191
    rotate_left
    · have f2 := b5Cont_f (s[i + 2]'z2) 128 191 c2
      have F2 := Lib.hid f2
      clear f2
      have hw : wAt s i = 1 := by rcases Hd.out with ⟨hc, _, e2⟩ | ⟨hc, _, e2⟩ <;> omega
      have Hw := Lib.hid hw
      clear hw Hd k1 k2
      go_enter Tryf.func29, Tryf.ntmps29
      go_wp2_with (go_at_call 37; refine Calls.mono (by first | (with_reducible exact T1.out _) | (with_reducible exact F2.out _)) ?_; rintro e w' ⟨rfl, rfl⟩)
      go_ret2
      exact decPost_ret Hw.out (by repeat (first | exact Below.refl _ _ | apply below_drew | apply below_drewN | apply below_alloc | apply below_grow))
    have t2 := b5Cont_t (s[i + 2]'z2) 128 191 c2
    have T2 := Lib.hid t2
    clear t2
    have s1 : IntKind.i64.wrap ((i : Int) + 1) = (i : Int) + 1 := by rw [IntKind.wrap_i64]; omega
    have s2 : IntKind.i64.wrap ((i : Int) + 2) = (i : Int) + 2 := by rw [IntKind.wrap_i64]; omega
    have hw : wAt s i = 3 := by rcases Hd.out with ⟨hc, _, e2⟩ | ⟨hc, _, e2⟩ <;> omega
    have Hw := Lib.hid hw
    clear hw Hd k1 k2
    go_enter Tryf.func29, Tryf.ntmps29
    go_wp2_with (go_at_call 37; refine Calls.mono (by first | (with_reducible exact T1.out _) | (with_reducible exact T2.out _)) ?_; rintro e w' ⟨rfl, rfl⟩)
    go_quiet (fail)
    go_wp2_with fail
    go_ret2
    exact decPost_ret Hw.out (by repeat (first | exact Below.refl _ _ | apply below_drew | apply below_drewN | apply below_alloc | apply below_grow))
  · have z0 : ¬ (3 : Int) ≤ (s.size : Int) - (i : Int) := by omega
    have hw : wAt s i = 1 := by rcases Hd.out with ⟨hc, _, e2⟩ | ⟨hc, _, e2⟩ <;> omega
    have Hw := Lib.hid hw
    clear hw Hd
    go_enter Tryf.func29, Tryf.ntmps29
    go_wp2_with fail
    go_ret2
    exact decPost_ret Hw.out (by repeat (first | exact Below.refl _ _ | apply below_drew | apply below_drewN | apply below_alloc | apply below_grow))

set_option maxHeartbeats 4000000 in
set_option maxRecDepth 100000 in
theorem b5Dec_f (s : ByteArray) (i : Nat) (w : World) (hi : i < s.size) (hs : s.size ≤ 1099511627776) (h1 : 238 ≤ (s[i]'hi).toNat) (h2 : (s[i]'hi).toNat ≤ 239) :
    Calls Tryf.prog 29 #[.string s, .int .i64 i] w (DecPost s i w) := by
  have i0 : (0 : Int) ≤ (i : Int) := by omega
  have i1 : (i : Int) < (s.size : Int) := by omega
  have zw : IntKind.i64.wrap ((s.size : Int) - (i : Int)) = (s.size : Int) - (i : Int) := by rw [IntKind.wrap_i64]; omega
  have a128 : ¬ (((s[i]'hi).toNat : Int) < 128) := by omega
  have g194 : (194 : Int) ≤ ((s[i]'hi).toNat : Int) := by omega
  have l223 : ¬ ((s[i]'hi).toNat : Int) ≤ 223 := by omega
  have q224 : (((s[i]'hi).toNat : Int) == 224) = false := by rw [beq_eq_false_iff_ne]; omega
  have g224 : (224 : Int) ≤ ((s[i]'hi).toNat : Int) := by omega
  have l239 : ((s[i]'hi).toNat : Int) ≤ 239 := by omega
  have q237 : (((s[i]'hi).toNat : Int) == 237) = false := by rw [beq_eq_false_iff_ne]; omega
  have g240 : ¬ (240 : Int) ≤ ((s[i]'hi).toNat : Int) := by omega
  have l244 : ((s[i]'hi).toNat : Int) ≤ 244 := by omega
  have q240 : (((s[i]'hi).toNat : Int) == 240) = false := by rw [beq_eq_false_iff_ne]; omega
  have q244 : (((s[i]'hi).toNat : Int) == 244) = false := by rw [beq_eq_false_iff_ne]; omega
  have hd := dec3 (s := s) (i := i) (by rw [byt_of hi]; omega) (by rw [byt_of hi]; omega)
  have el : lo3 (byt s i) = 128 := by unfold lo3; rw [byt_of hi]; exact if_neg (by omega)
  have eh : hi3 (byt s i) = 191 := by unfold hi3; rw [byt_of hi]; exact if_neg (by omega)
  rw [el, eh] at hd
  clear el eh
  have Hd := Lib.hid hd
  clear hd
  by_cases hz : i + 2 < s.size
  · have z0 : (3 : Int) ≤ (s.size : Int) - (i : Int) := by omega
    have z1 : i + 1 < s.size := by omega
    have y1 : (0 : Int) ≤ (i : Int) + 1 := by omega
    have x1 : (i : Int) + 1 < (s.size : Int) := by omega
    have v1 : ((i : Int) + 1).toNat = i + 1 := by omega
    have k1 := byt_of z1
    have z2 : i + 2 < s.size := by omega
    have y2 : (0 : Int) ≤ (i : Int) + 2 := by omega
    have x2 : (i : Int) + 2 < (s.size : Int) := by omega
    have v2 : ((i : Int) + 2).toNat = i + 2 := by omega
    have k2 := byt_of z2
    by_cases c1 : (128 : Int) ≤ ((s[i + 1]'z1).toNat : Int) ∧ ((s[i + 1]'z1).toNat : Int) ≤ 191
    rotate_left
    · have f1 := b5Cont_f (s[i + 1]'z1) 128 191 c1
      have F1 := Lib.hid f1
      clear f1
      have hw : wAt s i = 1 := by rcases Hd.out with ⟨hc, _, e2⟩ | ⟨hc, _, e2⟩ <;> omega
      have Hw := Lib.hid hw
      clear hw Hd k1 k2
      go_enter Tryf.func29, Tryf.ntmps29
      go_wp2_with (go_at_call 37; refine Calls.mono (by first | (with_reducible exact F1.out _)) ?_; rintro e w' ⟨rfl, rfl⟩)
      go_ret2
      exact decPost_ret Hw.out (by repeat (first | exact Below.refl _ _ | apply below_drew | apply below_drewN | apply below_alloc | apply below_grow))
    have t1 := b5Cont_t (s[i + 1]'z1) 128 191 c1
    have T1 := Lib.hid t1
    clear t1
    by_cases c2 : (128 : Int) ≤ ((s[i + 2]'z2).toNat : Int) ∧ ((s[i + 2]'z2).toNat : Int) ≤ 191
    rotate_left
    · have f2 := b5Cont_f (s[i + 2]'z2) 128 191 c2
      have F2 := Lib.hid f2
      clear f2
      have hw : wAt s i = 1 := by rcases Hd.out with ⟨hc, _, e2⟩ | ⟨hc, _, e2⟩ <;> omega
      have Hw := Lib.hid hw
      clear hw Hd k1 k2
      go_enter Tryf.func29, Tryf.ntmps29
      go_wp2_with (go_at_call 37; refine Calls.mono (by first | (with_reducible exact T1.out _) | (with_reducible exact F2.out _)) ?_; rintro e w' ⟨rfl, rfl⟩)
      go_ret2
      exact decPost_ret Hw.out (by repeat (first | exact Below.refl _ _ | apply below_drew | apply below_drewN | apply below_alloc | apply below_grow))
    have t2 := b5Cont_t (s[i + 2]'z2) 128 191 c2
    have T2 := Lib.hid t2
    clear t2
    have s1 : IntKind.i64.wrap ((i : Int) + 1) = (i : Int) + 1 := by rw [IntKind.wrap_i64]; omega
    have s2 : IntKind.i64.wrap ((i : Int) + 2) = (i : Int) + 2 := by rw [IntKind.wrap_i64]; omega
    have hw : wAt s i = 3 := by rcases Hd.out with ⟨hc, _, e2⟩ | ⟨hc, _, e2⟩ <;> omega
    have Hw := Lib.hid hw
    clear hw Hd k1 k2
    go_enter Tryf.func29, Tryf.ntmps29
    go_wp2_with (go_at_call 37; refine Calls.mono (by first | (with_reducible exact T1.out _) | (with_reducible exact T2.out _)) ?_; rintro e w' ⟨rfl, rfl⟩)
    go_quiet (fail)
    go_wp2_with fail
    go_ret2
    exact decPost_ret Hw.out (by repeat (first | exact Below.refl _ _ | apply below_drew | apply below_drewN | apply below_alloc | apply below_grow))
  · have z0 : ¬ (3 : Int) ≤ (s.size : Int) - (i : Int) := by omega
    have hw : wAt s i = 1 := by rcases Hd.out with ⟨hc, _, e2⟩ | ⟨hc, _, e2⟩ <;> omega
    have Hw := Lib.hid hw
    clear hw Hd
    go_enter Tryf.func29, Tryf.ntmps29
    go_wp2_with fail
    go_ret2
    exact decPost_ret Hw.out (by repeat (first | exact Below.refl _ _ | apply below_drew | apply below_drewN | apply below_alloc | apply below_grow))

set_option maxHeartbeats 4000000 in
set_option maxRecDepth 100000 in
theorem b5Dec_h (s : ByteArray) (i : Nat) (w : World) (hi : i < s.size) (hs : s.size ≤ 1099511627776) (h1 : 237 ≤ (s[i]'hi).toNat) (h2 : (s[i]'hi).toNat ≤ 237) :
    Calls Tryf.prog 29 #[.string s, .int .i64 i] w (DecPost s i w) := by
  have i0 : (0 : Int) ≤ (i : Int) := by omega
  have i1 : (i : Int) < (s.size : Int) := by omega
  have zw : IntKind.i64.wrap ((s.size : Int) - (i : Int)) = (s.size : Int) - (i : Int) := by rw [IntKind.wrap_i64]; omega
  have a128 : ¬ (((s[i]'hi).toNat : Int) < 128) := by omega
  have g194 : (194 : Int) ≤ ((s[i]'hi).toNat : Int) := by omega
  have l223 : ¬ ((s[i]'hi).toNat : Int) ≤ 223 := by omega
  have q224 : (((s[i]'hi).toNat : Int) == 224) = false := by rw [beq_eq_false_iff_ne]; omega
  have g224 : (224 : Int) ≤ ((s[i]'hi).toNat : Int) := by omega
  have l239 : ((s[i]'hi).toNat : Int) ≤ 239 := by omega
  have q237 : (((s[i]'hi).toNat : Int) == 237) = true := by rw [beq_iff_eq]; omega
  have g240 : ¬ (240 : Int) ≤ ((s[i]'hi).toNat : Int) := by omega
  have l244 : ((s[i]'hi).toNat : Int) ≤ 244 := by omega
  have q240 : (((s[i]'hi).toNat : Int) == 240) = false := by rw [beq_eq_false_iff_ne]; omega
  have q244 : (((s[i]'hi).toNat : Int) == 244) = false := by rw [beq_eq_false_iff_ne]; omega
  have hd := dec3 (s := s) (i := i) (by rw [byt_of hi]; omega) (by rw [byt_of hi]; omega)
  have el : lo3 (byt s i) = 128 := by unfold lo3; rw [byt_of hi]; exact if_neg (by omega)
  have eh : hi3 (byt s i) = 159 := by unfold hi3; rw [byt_of hi]; exact if_pos (by omega)
  rw [el, eh] at hd
  clear el eh
  have Hd := Lib.hid hd
  clear hd
  by_cases hz : i + 2 < s.size
  · have z0 : (3 : Int) ≤ (s.size : Int) - (i : Int) := by omega
    have z1 : i + 1 < s.size := by omega
    have y1 : (0 : Int) ≤ (i : Int) + 1 := by omega
    have x1 : (i : Int) + 1 < (s.size : Int) := by omega
    have v1 : ((i : Int) + 1).toNat = i + 1 := by omega
    have k1 := byt_of z1
    have z2 : i + 2 < s.size := by omega
    have y2 : (0 : Int) ≤ (i : Int) + 2 := by omega
    have x2 : (i : Int) + 2 < (s.size : Int) := by omega
    have v2 : ((i : Int) + 2).toNat = i + 2 := by omega
    have k2 := byt_of z2
    by_cases c1 : (128 : Int) ≤ ((s[i + 1]'z1).toNat : Int) ∧ ((s[i + 1]'z1).toNat : Int) ≤ 159
    rotate_left
    · have f1 := b5Cont_f (s[i + 1]'z1) 128 159 c1
      have F1 := Lib.hid f1
      clear f1
      have hw : wAt s i = 1 := by rcases Hd.out with ⟨hc, _, e2⟩ | ⟨hc, _, e2⟩ <;> omega
      have Hw := Lib.hid hw
      clear hw Hd k1 k2
      go_enter Tryf.func29, Tryf.ntmps29
      go_wp2_with (go_at_call 37; refine Calls.mono (by first | (with_reducible exact F1.out _)) ?_; rintro e w' ⟨rfl, rfl⟩)
      go_ret2
      exact decPost_ret Hw.out (by repeat (first | exact Below.refl _ _ | apply below_drew | apply below_drewN | apply below_alloc | apply below_grow))
    have t1 := b5Cont_t (s[i + 1]'z1) 128 159 c1
    have T1 := Lib.hid t1
    clear t1
    by_cases c2 : (128 : Int) ≤ ((s[i + 2]'z2).toNat : Int) ∧ ((s[i + 2]'z2).toNat : Int) ≤ 191
    rotate_left
    · have f2 := b5Cont_f (s[i + 2]'z2) 128 191 c2
      have F2 := Lib.hid f2
      clear f2
      have hw : wAt s i = 1 := by rcases Hd.out with ⟨hc, _, e2⟩ | ⟨hc, _, e2⟩ <;> omega
      have Hw := Lib.hid hw
      clear hw Hd k1 k2
      go_enter Tryf.func29, Tryf.ntmps29
      go_wp2_with (go_at_call 37; refine Calls.mono (by first | (with_reducible exact T1.out _) | (with_reducible exact F2.out _)) ?_; rintro e w' ⟨rfl, rfl⟩)
      go_ret2
      exact decPost_ret Hw.out (by repeat (first | exact Below.refl _ _ | apply below_drew | apply below_drewN | apply below_alloc | apply below_grow))
    have t2 := b5Cont_t (s[i + 2]'z2) 128 191 c2
    have T2 := Lib.hid t2
    clear t2
    have s1 : IntKind.i64.wrap ((i : Int) + 1) = (i : Int) + 1 := by rw [IntKind.wrap_i64]; omega
    have s2 : IntKind.i64.wrap ((i : Int) + 2) = (i : Int) + 2 := by rw [IntKind.wrap_i64]; omega
    have hw : wAt s i = 3 := by rcases Hd.out with ⟨hc, _, e2⟩ | ⟨hc, _, e2⟩ <;> omega
    have Hw := Lib.hid hw
    clear hw Hd k1 k2
    go_enter Tryf.func29, Tryf.ntmps29
    go_wp2_with (go_at_call 37; refine Calls.mono (by first | (with_reducible exact T1.out _) | (with_reducible exact T2.out _)) ?_; rintro e w' ⟨rfl, rfl⟩)
    go_quiet (fail)
    go_wp2_with fail
    go_ret2
    exact decPost_ret Hw.out (by repeat (first | exact Below.refl _ _ | apply below_drew | apply below_drewN | apply below_alloc | apply below_grow))
  · have z0 : ¬ (3 : Int) ≤ (s.size : Int) - (i : Int) := by omega
    have hw : wAt s i = 1 := by rcases Hd.out with ⟨hc, _, e2⟩ | ⟨hc, _, e2⟩ <;> omega
    have Hw := Lib.hid hw
    clear hw Hd
    go_enter Tryf.func29, Tryf.ntmps29
    go_wp2_with fail
    go_ret2
    exact decPost_ret Hw.out (by repeat (first | exact Below.refl _ _ | apply below_drew | apply below_drewN | apply below_alloc | apply below_grow))

set_option maxHeartbeats 4000000 in
set_option maxRecDepth 100000 in
theorem b5Dec_i (s : ByteArray) (i : Nat) (w : World) (hi : i < s.size) (hs : s.size ≤ 1099511627776) (h1 : 240 ≤ (s[i]'hi).toNat) (h2 : (s[i]'hi).toNat ≤ 240) :
    Calls Tryf.prog 29 #[.string s, .int .i64 i] w (DecPost s i w) := by
  have i0 : (0 : Int) ≤ (i : Int) := by omega
  have i1 : (i : Int) < (s.size : Int) := by omega
  have zw : IntKind.i64.wrap ((s.size : Int) - (i : Int)) = (s.size : Int) - (i : Int) := by rw [IntKind.wrap_i64]; omega
  have a128 : ¬ (((s[i]'hi).toNat : Int) < 128) := by omega
  have g194 : (194 : Int) ≤ ((s[i]'hi).toNat : Int) := by omega
  have l223 : ¬ ((s[i]'hi).toNat : Int) ≤ 223 := by omega
  have q224 : (((s[i]'hi).toNat : Int) == 224) = false := by rw [beq_eq_false_iff_ne]; omega
  have g224 : (224 : Int) ≤ ((s[i]'hi).toNat : Int) := by omega
  have l239 : ¬ ((s[i]'hi).toNat : Int) ≤ 239 := by omega
  have q237 : (((s[i]'hi).toNat : Int) == 237) = false := by rw [beq_eq_false_iff_ne]; omega
  have g240 : (240 : Int) ≤ ((s[i]'hi).toNat : Int) := by omega
  have l244 : ((s[i]'hi).toNat : Int) ≤ 244 := by omega
  have q240 : (((s[i]'hi).toNat : Int) == 240) = true := by rw [beq_iff_eq]; omega
  have q244 : (((s[i]'hi).toNat : Int) == 244) = false := by rw [beq_eq_false_iff_ne]; omega
  have hd := dec4 (s := s) (i := i) (by rw [byt_of hi]; omega) (by rw [byt_of hi]; omega)
  have el : lo4 (byt s i) = 144 := by unfold lo4; rw [byt_of hi]; exact if_pos (by omega)
  have eh : hi4 (byt s i) = 191 := by unfold hi4; rw [byt_of hi]; exact if_neg (by omega)
  rw [el, eh] at hd
  clear el eh
  have Hd := Lib.hid hd
  clear hd
  by_cases hz : i + 3 < s.size
  · have z0 : (4 : Int) ≤ (s.size : Int) - (i : Int) := by omega
    have z1 : i + 1 < s.size := by omega
    have y1 : (0 : Int) ≤ (i : Int) + 1 := by omega
    have x1 : (i : Int) + 1 < (s.size : Int) := by omega
    have v1 : ((i : Int) + 1).toNat = i + 1 := by omega
    have k1 := byt_of z1
    have z2 : i + 2 < s.size := by omega
    have y2 : (0 : Int) ≤ (i : Int) + 2 := by omega
    have x2 : (i : Int) + 2 < (s.size : Int) := by omega
    have v2 : ((i : Int) + 2).toNat = i + 2 := by omega
    have k2 := byt_of z2
    have z3 : i + 3 < s.size := by omega
    have y3 : (0 : Int) ≤ (i : Int) + 3 := by omega
    have x3 : (i : Int) + 3 < (s.size : Int) := by omega
    have v3 : ((i : Int) + 3).toNat = i + 3 := by omega
    have k3 := byt_of z3
    by_cases c1 : (144 : Int) ≤ ((s[i + 1]'z1).toNat : Int) ∧ ((s[i + 1]'z1).toNat : Int) ≤ 191
    rotate_left
    · have f1 := b5Cont_f (s[i + 1]'z1) 144 191 c1
      have F1 := Lib.hid f1
      clear f1
      have hw : wAt s i = 1 := by rcases Hd.out with ⟨hc, _, e2⟩ | ⟨hc, _, e2⟩ <;> omega
      have Hw := Lib.hid hw
      clear hw Hd k1 k2 k3
      go_enter Tryf.func29, Tryf.ntmps29
      go_wp2_with (go_at_call 37; refine Calls.mono (by first | (with_reducible exact F1.out _)) ?_; rintro e w' ⟨rfl, rfl⟩)
      go_ret2
      exact decPost_ret Hw.out (by repeat (first | exact Below.refl _ _ | apply below_drew | apply below_drewN | apply below_alloc | apply below_grow))
    have t1 := b5Cont_t (s[i + 1]'z1) 144 191 c1
    have T1 := Lib.hid t1
    clear t1
    by_cases c2 : (128 : Int) ≤ ((s[i + 2]'z2).toNat : Int) ∧ ((s[i + 2]'z2).toNat : Int) ≤ 191
    rotate_left
    · have f2 := b5Cont_f (s[i + 2]'z2) 128 191 c2
      have F2 := Lib.hid f2
      clear f2
      have hw : wAt s i = 1 := by rcases Hd.out with ⟨hc, _, e2⟩ | ⟨hc, _, e2⟩ <;> omega
      have Hw := Lib.hid hw
      clear hw Hd k1 k2 k3
      go_enter Tryf.func29, Tryf.ntmps29
      go_wp2_with (go_at_call 37; refine Calls.mono (by first | (with_reducible exact T1.out _) | (with_reducible exact F2.out _)) ?_; rintro e w' ⟨rfl, rfl⟩)
      go_ret2
      exact decPost_ret Hw.out (by repeat (first | exact Below.refl _ _ | apply below_drew | apply below_drewN | apply below_alloc | apply below_grow))
    have t2 := b5Cont_t (s[i + 2]'z2) 128 191 c2
    have T2 := Lib.hid t2
    clear t2
    by_cases c3 : (128 : Int) ≤ ((s[i + 3]'z3).toNat : Int) ∧ ((s[i + 3]'z3).toNat : Int) ≤ 191
    rotate_left
    · have f3 := b5Cont_f (s[i + 3]'z3) 128 191 c3
      have F3 := Lib.hid f3
      clear f3
      have hw : wAt s i = 1 := by rcases Hd.out with ⟨hc, _, e2⟩ | ⟨hc, _, e2⟩ <;> omega
      have Hw := Lib.hid hw
      clear hw Hd k1 k2 k3
      go_enter Tryf.func29, Tryf.ntmps29
      go_wp2_with (go_at_call 37; refine Calls.mono (by first | (with_reducible exact T1.out _) | (with_reducible exact T2.out _) | (with_reducible exact F3.out _)) ?_; rintro e w' ⟨rfl, rfl⟩)
      go_ret2
      exact decPost_ret Hw.out (by repeat (first | exact Below.refl _ _ | apply below_drew | apply below_drewN | apply below_alloc | apply below_grow))
    have t3 := b5Cont_t (s[i + 3]'z3) 128 191 c3
    have T3 := Lib.hid t3
    clear t3
    have s1 : IntKind.i64.wrap ((i : Int) + 1) = (i : Int) + 1 := by rw [IntKind.wrap_i64]; omega
    have s2 : IntKind.i64.wrap ((i : Int) + 2) = (i : Int) + 2 := by rw [IntKind.wrap_i64]; omega
    have s3 : IntKind.i64.wrap ((i : Int) + 3) = (i : Int) + 3 := by rw [IntKind.wrap_i64]; omega
    have hw : wAt s i = 4 := by rcases Hd.out with ⟨hc, _, e2⟩ | ⟨hc, _, e2⟩ <;> omega
    have Hw := Lib.hid hw
    clear hw Hd k1 k2 k3
    go_enter Tryf.func29, Tryf.ntmps29
    go_wp2_with (go_at_call 37; refine Calls.mono (by first | (with_reducible exact T1.out _) | (with_reducible exact T2.out _) | (with_reducible exact T3.out _)) ?_; rintro e w' ⟨rfl, rfl⟩)
    go_quiet (fail)
    go_wp2_with fail
    go_ret2
    exact decPost_ret Hw.out (by repeat (first | exact Below.refl _ _ | apply below_drew | apply below_drewN | apply below_alloc | apply below_grow))
  · have z0 : ¬ (4 : Int) ≤ (s.size : Int) - (i : Int) := by omega
    have hw : wAt s i = 1 := by rcases Hd.out with ⟨hc, _, e2⟩ | ⟨hc, _, e2⟩ <;> omega
    have Hw := Lib.hid hw
    clear hw Hd
    go_enter Tryf.func29, Tryf.ntmps29
    go_wp2_with fail
    go_ret2
    exact decPost_ret Hw.out (by repeat (first | exact Below.refl _ _ | apply below_drew | apply below_drewN | apply below_alloc | apply below_grow))

set_option maxHeartbeats 4000000 in
set_option maxRecDepth 100000 in
theorem b5Dec_j (s : ByteArray) (i : Nat) (w : World) (hi : i < s.size) (hs : s.size ≤ 1099511627776) (h1 : 241 ≤ (s[i]'hi).toNat) (h2 : (s[i]'hi).toNat ≤ 243) :
    Calls Tryf.prog 29 #[.string s, .int .i64 i] w (DecPost s i w) := by
  have i0 : (0 : Int) ≤ (i : Int) := by omega
  have i1 : (i : Int) < (s.size : Int) := by omega
  have zw : IntKind.i64.wrap ((s.size : Int) - (i : Int)) = (s.size : Int) - (i : Int) := by rw [IntKind.wrap_i64]; omega
  have a128 : ¬ (((s[i]'hi).toNat : Int) < 128) := by omega
  have g194 : (194 : Int) ≤ ((s[i]'hi).toNat : Int) := by omega
  have l223 : ¬ ((s[i]'hi).toNat : Int) ≤ 223 := by omega
  have q224 : (((s[i]'hi).toNat : Int) == 224) = false := by rw [beq_eq_false_iff_ne]; omega
  have g224 : (224 : Int) ≤ ((s[i]'hi).toNat : Int) := by omega
  have l239 : ¬ ((s[i]'hi).toNat : Int) ≤ 239 := by omega
  have q237 : (((s[i]'hi).toNat : Int) == 237) = false := by rw [beq_eq_false_iff_ne]; omega
  have g240 : (240 : Int) ≤ ((s[i]'hi).toNat : Int) := by omega
  have l244 : ((s[i]'hi).toNat : Int) ≤ 244 := by omega
  have q240 : (((s[i]'hi).toNat : Int) == 240) = false := by rw [beq_eq_false_iff_ne]; omega
  have q244 : (((s[i]'hi).toNat : Int) == 244) = false := by rw [beq_eq_false_iff_ne]; omega
  have hd := dec4 (s := s) (i := i) (by rw [byt_of hi]; omega) (by rw [byt_of hi]; omega)
  have el : lo4 (byt s i) = 128 := by unfold lo4; rw [byt_of hi]; exact if_neg (by omega)
  have eh : hi4 (byt s i) = 191 := by unfold hi4; rw [byt_of hi]; exact if_neg (by omega)
  rw [el, eh] at hd
  clear el eh
  have Hd := Lib.hid hd
  clear hd
  by_cases hz : i + 3 < s.size
  · have z0 : (4 : Int) ≤ (s.size : Int) - (i : Int) := by omega
    have z1 : i + 1 < s.size := by omega
    have y1 : (0 : Int) ≤ (i : Int) + 1 := by omega
    have x1 : (i : Int) + 1 < (s.size : Int) := by omega
    have v1 : ((i : Int) + 1).toNat = i + 1 := by omega
    have k1 := byt_of z1
    have z2 : i + 2 < s.size := by omega
    have y2 : (0 : Int) ≤ (i : Int) + 2 := by omega
    have x2 : (i : Int) + 2 < (s.size : Int) := by omega
    have v2 : ((i : Int) + 2).toNat = i + 2 := by omega
    have k2 := byt_of z2
    have z3 : i + 3 < s.size := by omega
    have y3 : (0 : Int) ≤ (i : Int) + 3 := by omega
    have x3 : (i : Int) + 3 < (s.size : Int) := by omega
    have v3 : ((i : Int) + 3).toNat = i + 3 := by omega
    have k3 := byt_of z3
    by_cases c1 : (128 : Int) ≤ ((s[i + 1]'z1).toNat : Int) ∧ ((s[i + 1]'z1).toNat : Int) ≤ 191
    rotate_left
    · have f1 := b5Cont_f (s[i + 1]'z1) 128 191 c1
      have F1 := Lib.hid f1
      clear f1
      have hw : wAt s i = 1 := by rcases Hd.out with ⟨hc, _, e2⟩ | ⟨hc, _, e2⟩ <;> omega
      have Hw := Lib.hid hw
      clear hw Hd k1 k2 k3
      go_enter Tryf.func29, Tryf.ntmps29
      go_wp2_with (go_at_call 37; refine Calls.mono (by first | (with_reducible exact F1.out _)) ?_; rintro e w' ⟨rfl, rfl⟩)
      go_ret2
      exact decPost_ret Hw.out (by repeat (first | exact Below.refl _ _ | apply below_drew | apply below_drewN | apply below_alloc | apply below_grow))
    have t1 := b5Cont_t (s[i + 1]'z1) 128 191 c1
    have T1 := Lib.hid t1
    clear t1
    by_cases c2 : (128 : Int) ≤ ((s[i + 2]'z2).toNat : Int) ∧ ((s[i + 2]'z2).toNat : Int) ≤ 191
    rotate_left
    · have f2 := b5Cont_f (s[i + 2]'z2) 128 191 c2
      have F2 := Lib.hid f2
      clear f2
      have hw : wAt s i = 1 := by rcases Hd.out with ⟨hc, _, e2⟩ | ⟨hc, _, e2⟩ <;> omega
      have Hw := Lib.hid hw
      clear hw Hd k1 k2 k3
      go_enter Tryf.func29, Tryf.ntmps29
      go_wp2_with (go_at_call 37; refine Calls.mono (by first | (with_reducible exact T1.out _) | (with_reducible exact F2.out _)) ?_; rintro e w' ⟨rfl, rfl⟩)
      go_ret2
      exact decPost_ret Hw.out (by repeat (first | exact Below.refl _ _ | apply below_drew | apply below_drewN | apply below_alloc | apply below_grow))
    have t2 := b5Cont_t (s[i + 2]'z2) 128 191 c2
    have T2 := Lib.hid t2
    clear t2
    by_cases c3 : (128 : Int) ≤ ((s[i + 3]'z3).toNat : Int) ∧ ((s[i + 3]'z3).toNat : Int) ≤ 191
    rotate_left
    · have f3 := b5Cont_f (s[i + 3]'z3) 128 191 c3
      have F3 := Lib.hid f3
      clear f3
      have hw : wAt s i = 1 := by rcases Hd.out with ⟨hc, _, e2⟩ | ⟨hc, _, e2⟩ <;> omega
      have Hw := Lib.hid hw
      clear hw Hd k1 k2 k3
      go_enter Tryf.func29, Tryf.ntmps29
      go_wp2_with (go_at_call 37; refine Calls.mono (by first | (with_reducible exact T1.out _) | (with_reducible exact T2.out _) | (with_reducible exact F3.out _)) ?_; rintro e w' ⟨rfl, rfl⟩)
      go_ret2
      exact decPost_ret Hw.out (by repeat (first | exact Below.refl _ _ | apply below_drew | apply below_drewN | apply below_alloc | apply below_grow))
    have t3 := b5Cont_t (s[i + 3]'z3) 128 191 c3
    have T3 := Lib.hid t3
    clear t3
    have s1 : IntKind.i64.wrap ((i : Int) + 1) = (i : Int) + 1 := by rw [IntKind.wrap_i64]; omega
    have s2 : IntKind.i64.wrap ((i : Int) + 2) = (i : Int) + 2 := by rw [IntKind.wrap_i64]; omega
    have s3 : IntKind.i64.wrap ((i : Int) + 3) = (i : Int) + 3 := by rw [IntKind.wrap_i64]; omega
    have hw : wAt s i = 4 := by rcases Hd.out with ⟨hc, _, e2⟩ | ⟨hc, _, e2⟩ <;> omega
    have Hw := Lib.hid hw
    clear hw Hd k1 k2 k3
    go_enter Tryf.func29, Tryf.ntmps29
    go_wp2_with (go_at_call 37; refine Calls.mono (by first | (with_reducible exact T1.out _) | (with_reducible exact T2.out _) | (with_reducible exact T3.out _)) ?_; rintro e w' ⟨rfl, rfl⟩)
    go_quiet (fail)
    go_wp2_with fail
    go_ret2
    exact decPost_ret Hw.out (by repeat (first | exact Below.refl _ _ | apply below_drew | apply below_drewN | apply below_alloc | apply below_grow))
  · have z0 : ¬ (4 : Int) ≤ (s.size : Int) - (i : Int) := by omega
    have hw : wAt s i = 1 := by rcases Hd.out with ⟨hc, _, e2⟩ | ⟨hc, _, e2⟩ <;> omega
    have Hw := Lib.hid hw
    clear hw Hd
    go_enter Tryf.func29, Tryf.ntmps29
    go_wp2_with fail
    go_ret2
    exact decPost_ret Hw.out (by repeat (first | exact Below.refl _ _ | apply below_drew | apply below_drewN | apply below_alloc | apply below_grow))

set_option maxHeartbeats 4000000 in
set_option maxRecDepth 100000 in
theorem b5Dec_k (s : ByteArray) (i : Nat) (w : World) (hi : i < s.size) (hs : s.size ≤ 1099511627776) (h1 : 244 ≤ (s[i]'hi).toNat) (h2 : (s[i]'hi).toNat ≤ 244) :
    Calls Tryf.prog 29 #[.string s, .int .i64 i] w (DecPost s i w) := by
  have i0 : (0 : Int) ≤ (i : Int) := by omega
  have i1 : (i : Int) < (s.size : Int) := by omega
  have zw : IntKind.i64.wrap ((s.size : Int) - (i : Int)) = (s.size : Int) - (i : Int) := by rw [IntKind.wrap_i64]; omega
  have a128 : ¬ (((s[i]'hi).toNat : Int) < 128) := by omega
  have g194 : (194 : Int) ≤ ((s[i]'hi).toNat : Int) := by omega
  have l223 : ¬ ((s[i]'hi).toNat : Int) ≤ 223 := by omega
  have q224 : (((s[i]'hi).toNat : Int) == 224) = false := by rw [beq_eq_false_iff_ne]; omega
  have g224 : (224 : Int) ≤ ((s[i]'hi).toNat : Int) := by omega
  have l239 : ¬ ((s[i]'hi).toNat : Int) ≤ 239 := by omega
  have q237 : (((s[i]'hi).toNat : Int) == 237) = false := by rw [beq_eq_false_iff_ne]; omega
  have g240 : (240 : Int) ≤ ((s[i]'hi).toNat : Int) := by omega
  have l244 : ((s[i]'hi).toNat : Int) ≤ 244 := by omega
  have q240 : (((s[i]'hi).toNat : Int) == 240) = false := by rw [beq_eq_false_iff_ne]; omega
  have q244 : (((s[i]'hi).toNat : Int) == 244) = true := by rw [beq_iff_eq]; omega
  have hd := dec4 (s := s) (i := i) (by rw [byt_of hi]; omega) (by rw [byt_of hi]; omega)
  have el : lo4 (byt s i) = 128 := by unfold lo4; rw [byt_of hi]; exact if_neg (by omega)
  have eh : hi4 (byt s i) = 143 := by unfold hi4; rw [byt_of hi]; exact if_pos (by omega)
  rw [el, eh] at hd
  clear el eh
  have Hd := Lib.hid hd
  clear hd
  by_cases hz : i + 3 < s.size
  · have z0 : (4 : Int) ≤ (s.size : Int) - (i : Int) := by omega
    have z1 : i + 1 < s.size := by omega
    have y1 : (0 : Int) ≤ (i : Int) + 1 := by omega
    have x1 : (i : Int) + 1 < (s.size : Int) := by omega
    have v1 : ((i : Int) + 1).toNat = i + 1 := by omega
    have k1 := byt_of z1
    have z2 : i + 2 < s.size := by omega
    have y2 : (0 : Int) ≤ (i : Int) + 2 := by omega
    have x2 : (i : Int) + 2 < (s.size : Int) := by omega
    have v2 : ((i : Int) + 2).toNat = i + 2 := by omega
    have k2 := byt_of z2
    have z3 : i + 3 < s.size := by omega
    have y3 : (0 : Int) ≤ (i : Int) + 3 := by omega
    have x3 : (i : Int) + 3 < (s.size : Int) := by omega
    have v3 : ((i : Int) + 3).toNat = i + 3 := by omega
    have k3 := byt_of z3
    by_cases c1 : (128 : Int) ≤ ((s[i + 1]'z1).toNat : Int) ∧ ((s[i + 1]'z1).toNat : Int) ≤ 143
    rotate_left
    · have f1 := b5Cont_f (s[i + 1]'z1) 128 143 c1
      have F1 := Lib.hid f1
      clear f1
      have hw : wAt s i = 1 := by rcases Hd.out with ⟨hc, _, e2⟩ | ⟨hc, _, e2⟩ <;> omega
      have Hw := Lib.hid hw
      clear hw Hd k1 k2 k3
      go_enter Tryf.func29, Tryf.ntmps29
      go_wp2_with (go_at_call 37; refine Calls.mono (by first | (with_reducible exact F1.out _)) ?_; rintro e w' ⟨rfl, rfl⟩)
      go_ret2
      exact decPost_ret Hw.out (by repeat (first | exact Below.refl _ _ | apply below_drew | apply below_drewN | apply below_alloc | apply below_grow))
    have t1 := b5Cont_t (s[i + 1]'z1) 128 143 c1
    have T1 := Lib.hid t1
    clear t1
    by_cases c2 : (128 : Int) ≤ ((s[i + 2]'z2).toNat : Int) ∧ ((s[i + 2]'z2).toNat : Int) ≤ 191
    rotate_left
    · have f2 := b5Cont_f (s[i + 2]'z2) 128 191 c2
      have F2 := Lib.hid f2
      clear f2
      have hw : wAt s i = 1 := by rcases Hd.out with ⟨hc, _, e2⟩ | ⟨hc, _, e2⟩ <;> omega
      have Hw := Lib.hid hw
      clear hw Hd k1 k2 k3
      go_enter Tryf.func29, Tryf.ntmps29
      go_wp2_with (go_at_call 37; refine Calls.mono (by first | (with_reducible exact T1.out _) | (with_reducible exact F2.out _)) ?_; rintro e w' ⟨rfl, rfl⟩)
      go_ret2
      exact decPost_ret Hw.out (by repeat (first | exact Below.refl _ _ | apply below_drew | apply below_drewN | apply below_alloc | apply below_grow))
    have t2 := b5Cont_t (s[i + 2]'z2) 128 191 c2
    have T2 := Lib.hid t2
    clear t2
    by_cases c3 : (128 : Int) ≤ ((s[i + 3]'z3).toNat : Int) ∧ ((s[i + 3]'z3).toNat : Int) ≤ 191
    rotate_left
    · have f3 := b5Cont_f (s[i + 3]'z3) 128 191 c3
      have F3 := Lib.hid f3
      clear f3
      have hw : wAt s i = 1 := by rcases Hd.out with ⟨hc, _, e2⟩ | ⟨hc, _, e2⟩ <;> omega
      have Hw := Lib.hid hw
      clear hw Hd k1 k2 k3
      go_enter Tryf.func29, Tryf.ntmps29
      go_wp2_with (go_at_call 37; refine Calls.mono (by first | (with_reducible exact T1.out _) | (with_reducible exact T2.out _) | (with_reducible exact F3.out _)) ?_; rintro e w' ⟨rfl, rfl⟩)
      go_ret2
      exact decPost_ret Hw.out (by repeat (first | exact Below.refl _ _ | apply below_drew | apply below_drewN | apply below_alloc | apply below_grow))
    have t3 := b5Cont_t (s[i + 3]'z3) 128 191 c3
    have T3 := Lib.hid t3
    clear t3
    have s1 : IntKind.i64.wrap ((i : Int) + 1) = (i : Int) + 1 := by rw [IntKind.wrap_i64]; omega
    have s2 : IntKind.i64.wrap ((i : Int) + 2) = (i : Int) + 2 := by rw [IntKind.wrap_i64]; omega
    have s3 : IntKind.i64.wrap ((i : Int) + 3) = (i : Int) + 3 := by rw [IntKind.wrap_i64]; omega
    have hw : wAt s i = 4 := by rcases Hd.out with ⟨hc, _, e2⟩ | ⟨hc, _, e2⟩ <;> omega
    have Hw := Lib.hid hw
    clear hw Hd k1 k2 k3
    go_enter Tryf.func29, Tryf.ntmps29
    go_wp2_with (go_at_call 37; refine Calls.mono (by first | (with_reducible exact T1.out _) | (with_reducible exact T2.out _) | (with_reducible exact T3.out _)) ?_; rintro e w' ⟨rfl, rfl⟩)
    go_quiet (fail)
    go_wp2_with fail
    go_ret2
    exact decPost_ret Hw.out (by repeat (first | exact Below.refl _ _ | apply below_drew | apply below_drewN | apply below_alloc | apply below_grow))
  · have z0 : ¬ (4 : Int) ≤ (s.size : Int) - (i : Int) := by omega
    have hw : wAt s i = 1 := by rcases Hd.out with ⟨hc, _, e2⟩ | ⟨hc, _, e2⟩ <;> omega
    have Hw := Lib.hid hw
    clear hw Hd
    go_enter Tryf.func29, Tryf.ntmps29
    go_wp2_with fail
    go_ret2
    exact decPost_ret Hw.out (by repeat (first | exact Below.refl _ _ | apply below_drew | apply below_drewN | apply below_alloc | apply below_grow))

set_option maxHeartbeats 4000000 in
set_option maxRecDepth 100000 in
theorem b5Dec_l (s : ByteArray) (i : Nat) (w : World) (hi : i < s.size) (hs : s.size ≤ 1099511627776) (h1 : 245 ≤ (s[i]'hi).toNat) (h2 : (s[i]'hi).toNat ≤ 255) :
    Calls Tryf.prog 29 #[.string s, .int .i64 i] w (DecPost s i w) := by
  have i0 : (0 : Int) ≤ (i : Int) := by omega
  have i1 : (i : Int) < (s.size : Int) := by omega
  have zw : IntKind.i64.wrap ((s.size : Int) - (i : Int)) = (s.size : Int) - (i : Int) := by rw [IntKind.wrap_i64]; omega
  have a128 : ¬ (((s[i]'hi).toNat : Int) < 128) := by omega
  have g194 : (194 : Int) ≤ ((s[i]'hi).toNat : Int) := by omega
  have l223 : ¬ ((s[i]'hi).toNat : Int) ≤ 223 := by omega
  have q224 : (((s[i]'hi).toNat : Int) == 224) = false := by rw [beq_eq_false_iff_ne]; omega
  have g224 : (224 : Int) ≤ ((s[i]'hi).toNat : Int) := by omega
  have l239 : ¬ ((s[i]'hi).toNat : Int) ≤ 239 := by omega
  have q237 : (((s[i]'hi).toNat : Int) == 237) = false := by rw [beq_eq_false_iff_ne]; omega
  have g240 : (240 : Int) ≤ ((s[i]'hi).toNat : Int) := by omega
  have l244 : ¬ ((s[i]'hi).toNat : Int) ≤ 244 := by omega
  have q240 : (((s[i]'hi).toNat : Int) == 240) = false := by rw [beq_eq_false_iff_ne]; omega
  have q244 : (((s[i]'hi).toNat : Int) == 244) = false := by rw [beq_eq_false_iff_ne]; omega
  have hw := (dec_hi (s := s) (i := i) (by rw [byt_of hi]; omega)).2
  have Hw := Lib.hid hw
  clear hw
  go_enter Tryf.func29, Tryf.ntmps29
  go_wp2_with fail
  go_ret2
  exact decPost_ret Hw.out (by repeat (first | exact Below.refl _ _ | apply below_drew | apply below_drewN | apply below_alloc | apply below_grow))

theorem b5Dec_any (s : ByteArray) (i : Nat) (w : World) (hi : i < s.size) (hs : s.size ≤ 1099511627776) :
    Calls Tryf.prog 29 #[.string s, .int .i64 i] w (DecPost s i w) := by
  have hb := (s[i]'hi).toNat_lt
  by_cases ba : (s[i]'hi).toNat ≤ 127
  · exact b5Dec_a s i w hi hs (by omega) ba
  by_cases bb : (s[i]'hi).toNat ≤ 193
  · exact b5Dec_b s i w hi hs (by omega) bb
  by_cases bc : (s[i]'hi).toNat ≤ 223
  · exact b5Dec_c s i w hi hs (by omega) bc
  by_cases bd : (s[i]'hi).toNat ≤ 224
  · exact b5Dec_d s i w hi hs (by omega) bd
  by_cases be : (s[i]'hi).toNat ≤ 236
  · exact b5Dec_e s i w hi hs (by omega) be
  by_cases bh : (s[i]'hi).toNat ≤ 237
  · exact b5Dec_h s i w hi hs (by omega) bh
  by_cases bf : (s[i]'hi).toNat ≤ 239
  · exact b5Dec_f s i w hi hs (by omega) bf
  by_cases bi : (s[i]'hi).toNat ≤ 240
  · exact b5Dec_i s i w hi hs (by omega) bi
  by_cases bj : (s[i]'hi).toNat ≤ 243
  · exact b5Dec_j s i w hi hs (by omega) bj
  by_cases bk : (s[i]'hi).toNat ≤ 244
  · exact b5Dec_k s i w hi hs (by omega) bk
  by_cases bl : (s[i]'hi).toNat ≤ 255
  · exact b5Dec_l s i w hi hs (by omega) bl
  omega

end Go.Proofs.YtlbmojpmfgihlaaFmt
