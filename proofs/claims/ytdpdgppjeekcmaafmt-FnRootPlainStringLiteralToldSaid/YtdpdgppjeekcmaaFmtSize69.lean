/-
  Walk: zzSize of n003_69 is the model's width of a rune (printed by gensize2.py).
-/
import Derived.Test.YtdpdgppjeekcmaaFmtJA
import Derived.Test.YtdpdgppjeekcmaaFmtBase
import Derived.WalkKit
namespace Go.Proofs.YtdpdgppjeekcmaaFmt
open Go Go.Lib Go.RowKit Go.Proofs

theorem zzCont_t (b : UInt8) (h : (128 : Int) ≤ (b.toNat : Int) ∧ (b.toNat : Int) ≤ 191) (w : World) : Calls Tryf.prog 63 #[.int .u8 (b.toNat : Nat)] w fun e w' => e = .returned (.bool true) ∧ w = w' := by
  have h' := h.1
  have h2' := h.2
  clear h
  go_enter Tryf.func63, Tryf.ntmps63
  go_wp2_with fail
  go_ret
  exact ⟨rfl, rfl⟩
theorem zzCont_f (b : UInt8) (h : ¬ ((128 : Int) ≤ (b.toNat : Int) ∧ (b.toNat : Int) ≤ 191)) (w : World) : Calls Tryf.prog 63 #[.int .u8 (b.toNat : Nat)] w fun e w' => e = .returned (.bool false) ∧ w = w' := by
  by_cases h1 : (128 : Int) ≤ (b.toNat : Int)
  · have h2' : ¬ (b.toNat : Int) ≤ 191 := fun h2 => h ⟨h1, h2⟩
    clear h
    go_enter Tryf.func63, Tryf.ntmps63
    go_wp2_with fail
    go_ret
    exact ⟨rfl, rfl⟩
  · clear h
    go_enter Tryf.func63, Tryf.ntmps63
    go_wp2_with fail
    go_ret
    exact ⟨rfl, rfl⟩

set_option maxHeartbeats 4000000 in
set_option maxRecDepth 100000 in
theorem zzSize_a (s : ByteArray) (i : Nat) (w : World) (hi : i < s.size) (hs : s.size ≤ 1048576) (h1 : 0 ≤ (s[i]'hi).toNat) (h2 : (s[i]'hi).toNat ≤ 193) :
    Calls Tryf.prog 32 #[.string s, .int .i64 i] w fun e w' => e = .returned (.int .i64 (wAt s i)) ∧ Below w.heap.size w w' := by
  have i0 : (0 : Int) ≤ (i : Int) := by omega
  have i1 : (i : Int) < (s.size : Int) := by omega
  have zw : IntKind.i64.wrap ((s.size : Int) - (i : Int)) = (s.size : Int) - (i : Int) := by rw [IntKind.wrap_i64]; omega
  have a194 : ((s[i]'hi).toNat : Int) < 194 := by omega
  have g244 : ¬ (244 : Int) < ((s[i]'hi).toNat : Int) := by omega
  have a224 : ((s[i]'hi).toNat : Int) < 224 := by omega
  have a240 : ((s[i]'hi).toNat : Int) < 240 := by omega
  have q224 : (((s[i]'hi).toNat : Int) == 224) = false := by rw [beq_eq_false_iff_ne]; omega
  have q237 : (((s[i]'hi).toNat : Int) == 237) = false := by rw [beq_eq_false_iff_ne]; omega
  have q240 : (((s[i]'hi).toNat : Int) == 240) = false := by rw [beq_eq_false_iff_ne]; omega
  have q244 : (((s[i]'hi).toNat : Int) == 244) = false := by rw [beq_eq_false_iff_ne]; omega
  have hw : wAt s i = 1 := by
    by_cases h8 : (s[i]'hi).toNat < 128
    · exact (dec1 (s := s) (i := i) (by rw [byt_of hi]; omega)).2
    · exact (dec_lo (s := s) (i := i) (by rw [byt_of hi]; omega) (by rw [byt_of hi]; omega)).2
  rw [hw]
  clear hw
  go_enter Tryf.func32, Tryf.ntmps32
  go_wp2_with fail
  go_ret
  exact ⟨rfl, (by repeat (first | exact Below.refl _ _ | apply below_drew | apply below_drewN | apply below_alloc | apply below_grow))⟩

set_option maxHeartbeats 4000000 in
set_option maxRecDepth 100000 in
theorem zzSize_c (s : ByteArray) (i : Nat) (w : World) (hi : i < s.size) (hs : s.size ≤ 1048576) (h1 : 194 ≤ (s[i]'hi).toNat) (h2 : (s[i]'hi).toNat ≤ 223) :
    Calls Tryf.prog 32 #[.string s, .int .i64 i] w fun e w' => e = .returned (.int .i64 (wAt s i)) ∧ Below w.heap.size w w' := by
  have i0 : (0 : Int) ≤ (i : Int) := by omega
  have i1 : (i : Int) < (s.size : Int) := by omega
  have zw : IntKind.i64.wrap ((s.size : Int) - (i : Int)) = (s.size : Int) - (i : Int) := by rw [IntKind.wrap_i64]; omega
  have a194 : ¬ ((s[i]'hi).toNat : Int) < 194 := by omega
  have g244 : ¬ (244 : Int) < ((s[i]'hi).toNat : Int) := by omega
  have a224 : ((s[i]'hi).toNat : Int) < 224 := by omega
  have a240 : ((s[i]'hi).toNat : Int) < 240 := by omega
  have q224 : (((s[i]'hi).toNat : Int) == 224) = false := by rw [beq_eq_false_iff_ne]; omega
  have q237 : (((s[i]'hi).toNat : Int) == 237) = false := by rw [beq_eq_false_iff_ne]; omega
  have q240 : (((s[i]'hi).toNat : Int) == 240) = false := by rw [beq_eq_false_iff_ne]; omega
  have q244 : (((s[i]'hi).toNat : Int) == 244) = false := by rw [beq_eq_false_iff_ne]; omega
  have hd := dec2 (s := s) (i := i) (by rw [byt_of hi]; omega) (by rw [byt_of hi]; omega)
  have Hd := Lib.hid hd
  clear hd
  by_cases hz : i + 1 < s.size
  · have z0 : (2 : Int) ≤ (s.size : Int) - (i : Int) := by omega
    have z1 : i + 1 < s.size := by omega
    have y1 : (0 : Int) ≤ (i : Int) + 1 := by omega
    have x1 : (i : Int) + 1 < (s.size : Int) := by omega
    have v1 : ((i : Int) + 1).toNat = i + 1 := by omega
    have k1 := byt_of z1
    have s1 : IntKind.i64.wrap ((i : Int) + 1) = (i : Int) + 1 := by rw [IntKind.wrap_i64]; omega
    by_cases c1 : (128 : Int) ≤ ((s[i + 1]'z1).toNat : Int) ∧ ((s[i + 1]'z1).toNat : Int) ≤ 191
    rotate_left
    · have f1 := zzCont_f (s[i + 1]'z1) c1
      have F1 := Lib.hid f1
      clear f1
      have hw : wAt s i = 1 := by rcases Hd.out with ⟨hc, _, e2⟩ | ⟨hc, _, e2⟩ <;> omega
      rw [hw]
      clear hw Hd k1
      go_enter Tryf.func32, Tryf.ntmps32
      go_wp2_with (go_at_call 63; refine Calls.mono (by first | (with_reducible exact F1.out _)) ?_; rintro e w' ⟨rfl, rfl⟩)
      skip
      go_ret
      exact ⟨rfl, (by repeat (first | exact Below.refl _ _ | apply below_drew | apply below_drewN | apply below_alloc | apply below_grow))⟩
    have t1 := zzCont_t (s[i + 1]'z1) c1
    have T1 := Lib.hid t1
    clear t1
    have hw : wAt s i = 2 := by rcases Hd.out with ⟨hc, _, e2⟩ | ⟨hc, _, e2⟩ <;> omega
    rw [hw]
    clear hw Hd k1
    go_enter Tryf.func32, Tryf.ntmps32
    go_wp2_with (go_at_call 63; refine Calls.mono (by first | (with_reducible exact T1.out _)) ?_; rintro e w' ⟨rfl, rfl⟩)
    skip
    go_ret
    exact ⟨rfl, (by repeat (first | exact Below.refl _ _ | apply below_drew | apply below_drewN | apply below_alloc | apply below_grow))⟩
  · have z0 : ¬ (2 : Int) ≤ (s.size : Int) - (i : Int) := by omega
    have hw : wAt s i = 1 := by rcases Hd.out with ⟨hc, _, e2⟩ | ⟨hc, _, e2⟩ <;> omega
    rw [hw]
    clear hw Hd
    go_enter Tryf.func32, Tryf.ntmps32
    go_wp2_with fail
    skip
    go_ret
    exact ⟨rfl, (by repeat (first | exact Below.refl _ _ | apply below_drew | apply below_drewN | apply below_alloc | apply below_grow))⟩

set_option maxHeartbeats 4000000 in
set_option maxRecDepth 100000 in
theorem zzSize_d (s : ByteArray) (i : Nat) (w : World) (hi : i < s.size) (hs : s.size ≤ 1048576) (h1 : 224 ≤ (s[i]'hi).toNat) (h2 : (s[i]'hi).toNat ≤ 224) :
    Calls Tryf.prog 32 #[.string s, .int .i64 i] w fun e w' => e = .returned (.int .i64 (wAt s i)) ∧ Below w.heap.size w w' := by
  have i0 : (0 : Int) ≤ (i : Int) := by omega
  have i1 : (i : Int) < (s.size : Int) := by omega
  have zw : IntKind.i64.wrap ((s.size : Int) - (i : Int)) = (s.size : Int) - (i : Int) := by rw [IntKind.wrap_i64]; omega
  have a194 : ¬ ((s[i]'hi).toNat : Int) < 194 := by omega
  have g244 : ¬ (244 : Int) < ((s[i]'hi).toNat : Int) := by omega
  have a224 : ¬ ((s[i]'hi).toNat : Int) < 224 := by omega
  have a240 : ((s[i]'hi).toNat : Int) < 240 := by omega
  have q224 : (((s[i]'hi).toNat : Int) == 224) = true := by rw [beq_iff_eq]; omega
  have q237 : (((s[i]'hi).toNat : Int) == 237) = false := by rw [beq_eq_false_iff_ne]; omega
  have q240 : (((s[i]'hi).toNat : Int) == 240) = false := by rw [beq_eq_false_iff_ne]; omega
  have q244 : (((s[i]'hi).toNat : Int) == 244) = false := by rw [beq_eq_false_iff_ne]; omega
  have hd := dec3 (s := s) (i := i) (by rw [byt_of hi]; omega) (by rw [byt_of hi]; omega)
  have el : lo3 (byt s i) = 160 := by unfold lo3; rw [byt_of hi]; exact if_pos (by omega)
  have eh : hi3 (byt s i) = 191 := by unfold hi3; rw [byt_of hi]; exact if_neg (by omega)
  rw [el, eh] at hd
  clear el eh
  have Hd := Lib.hid hd
  clear hd
  by_cases hz : i + 2 < s.size
  · have z0 : (3 : Int) ≤ (s.size : Int) - (i : Int) := by omega
    have z1 : i + 1 < s.size := by omega
    have y1 : (0 : Int) ≤ (i : Int) + 1 := by omega
    have x1 : (i : Int) + 1 < (s.size : Int) := by omega
    have v1 : ((i : Int) + 1).toNat = i + 1 := by omega
    have k1 := byt_of z1
    have s1 : IntKind.i64.wrap ((i : Int) + 1) = (i : Int) + 1 := by rw [IntKind.wrap_i64]; omega
    have z2 : i + 2 < s.size := by omega
    have y2 : (0 : Int) ≤ (i : Int) + 2 := by omega
    have x2 : (i : Int) + 2 < (s.size : Int) := by omega
    have v2 : ((i : Int) + 2).toNat = i + 2 := by omega
    have k2 := byt_of z2
    have s2 : IntKind.i64.wrap ((i : Int) + 2) = (i : Int) + 2 := by rw [IntKind.wrap_i64]; omega
    by_cases c1 : (160 : Int) ≤ ((s[i + 1]'z1).toNat : Int)
    rotate_left
    · have hw : wAt s i = 1 := by rcases Hd.out with ⟨hc, _, e2⟩ | ⟨hc, _, e2⟩ <;> omega
      rw [hw]
      clear hw Hd k1 k2
      go_enter Tryf.func32, Tryf.ntmps32
      go_wp2_with fail
      skip
      go_ret
      exact ⟨rfl, (by repeat (first | exact Below.refl _ _ | apply below_drew | apply below_drewN | apply below_alloc | apply below_grow))⟩
    by_cases d1 : ((s[i + 1]'z1).toNat : Int) ≤ 191
    rotate_left
    · have hw : wAt s i = 1 := by rcases Hd.out with ⟨hc, _, e2⟩ | ⟨hc, _, e2⟩ <;> omega
      rw [hw]
      clear hw Hd k1 k2
      go_enter Tryf.func32, Tryf.ntmps32
      go_wp2_with fail
      skip
      go_ret
      exact ⟨rfl, (by repeat (first | exact Below.refl _ _ | apply below_drew | apply below_drewN | apply below_alloc | apply below_grow))⟩
    by_cases c2 : (128 : Int) ≤ ((s[i + 2]'z2).toNat : Int) ∧ ((s[i + 2]'z2).toNat : Int) ≤ 191
    rotate_left
    · have f2 := zzCont_f (s[i + 2]'z2) c2
      have F2 := Lib.hid f2
      clear f2
      have hw : wAt s i = 1 := by rcases Hd.out with ⟨hc, _, e2⟩ | ⟨hc, _, e2⟩ <;> omega
      rw [hw]
      clear hw Hd k1 k2
      go_enter Tryf.func32, Tryf.ntmps32
      go_wp2_with (go_at_call 63; refine Calls.mono (by first | (with_reducible exact F2.out _)) ?_; rintro e w' ⟨rfl, rfl⟩)
      skip
      go_ret
      exact ⟨rfl, (by repeat (first | exact Below.refl _ _ | apply below_drew | apply below_drewN | apply below_alloc | apply below_grow))⟩
    have t2 := zzCont_t (s[i + 2]'z2) c2
    have T2 := Lib.hid t2
    clear t2
    have hw : wAt s i = 3 := by rcases Hd.out with ⟨hc, _, e2⟩ | ⟨hc, _, e2⟩ <;> omega
    rw [hw]
    clear hw Hd k1 k2
    go_enter Tryf.func32, Tryf.ntmps32
    go_wp2_with (go_at_call 63; refine Calls.mono (by first | (with_reducible exact T2.out _)) ?_; rintro e w' ⟨rfl, rfl⟩)
    skip
    go_ret
    exact ⟨rfl, (by repeat (first | exact Below.refl _ _ | apply below_drew | apply below_drewN | apply below_alloc | apply below_grow))⟩
  · have z0 : ¬ (3 : Int) ≤ (s.size : Int) - (i : Int) := by omega
    have hw : wAt s i = 1 := by rcases Hd.out with ⟨hc, _, e2⟩ | ⟨hc, _, e2⟩ <;> omega
    rw [hw]
    clear hw Hd
    go_enter Tryf.func32, Tryf.ntmps32
    go_wp2_with fail
    skip
    go_ret
    exact ⟨rfl, (by repeat (first | exact Below.refl _ _ | apply below_drew | apply below_drewN | apply below_alloc | apply below_grow))⟩

set_option maxHeartbeats 4000000 in
set_option maxRecDepth 100000 in
theorem zzSize_e (s : ByteArray) (i : Nat) (w : World) (hi : i < s.size) (hs : s.size ≤ 1048576) (h1 : 225 ≤ (s[i]'hi).toNat) (h2 : (s[i]'hi).toNat ≤ 236) :
    Calls Tryf.prog 32 #[.string s, .int .i64 i] w fun e w' => e = .returned (.int .i64 (wAt s i)) ∧ Below w.heap.size w w' := by
  have i0 : (0 : Int) ≤ (i : Int) := by omega
  have i1 : (i : Int) < (s.size : Int) := by omega
  have zw : IntKind.i64.wrap ((s.size : Int) - (i : Int)) = (s.size : Int) - (i : Int) := by rw [IntKind.wrap_i64]; omega
  have a194 : ¬ ((s[i]'hi).toNat : Int) < 194 := by omega
  have g244 : ¬ (244 : Int) < ((s[i]'hi).toNat : Int) := by omega
  have a224 : ¬ ((s[i]'hi).toNat : Int) < 224 := by omega
  have a240 : ((s[i]'hi).toNat : Int) < 240 := by omega
  have q224 : (((s[i]'hi).toNat : Int) == 224) = false := by rw [beq_eq_false_iff_ne]; omega
  have q237 : (((s[i]'hi).toNat : Int) == 237) = false := by rw [beq_eq_false_iff_ne]; omega
  have q240 : (((s[i]'hi).toNat : Int) == 240) = false := by rw [beq_eq_false_iff_ne]; omega
  have q244 : (((s[i]'hi).toNat : Int) == 244) = false := by rw [beq_eq_false_iff_ne]; omega
  have hd := dec3 (s := s) (i := i) (by rw [byt_of hi]; omega) (by rw [byt_of hi]; omega)
  have el : lo3 (byt s i) = 128 := by unfold lo3; rw [byt_of hi]; exact if_neg (by omega)
  have eh : hi3 (byt s i) = 191 := by unfold hi3; rw [byt_of hi]; exact if_neg (by omega)
  rw [el, eh] at hd
  clear el eh
  have Hd := Lib.hid hd
  clear hd
  by_cases hz : i + 2 < s.size
  · have z0 : (3 : Int) ≤ (s.size : Int) - (i : Int) := by omega
    have z1 : i + 1 < s.size := by omega
    have y1 : (0 : Int) ≤ (i : Int) + 1 := by omega
    have x1 : (i : Int) + 1 < (s.size : Int) := by omega
    have v1 : ((i : Int) + 1).toNat = i + 1 := by omega
    have k1 := byt_of z1
    have s1 : IntKind.i64.wrap ((i : Int) + 1) = (i : Int) + 1 := by rw [IntKind.wrap_i64]; omega
    have z2 : i + 2 < s.size := by omega
    have y2 : (0 : Int) ≤ (i : Int) + 2 := by omega
    have x2 : (i : Int) + 2 < (s.size : Int) := by omega
    have v2 : ((i : Int) + 2).toNat = i + 2 := by omega
    have k2 := byt_of z2
    have s2 : IntKind.i64.wrap ((i : Int) + 2) = (i : Int) + 2 := by rw [IntKind.wrap_i64]; omega
    by_cases c1 : (128 : Int) ≤ ((s[i + 1]'z1).toNat : Int)
    rotate_left
    · have hw : wAt s i = 1 := by rcases Hd.out with ⟨hc, _, e2⟩ | ⟨hc, _, e2⟩ <;> omega
      rw [hw]
      clear hw Hd k1 k2
      go_enter Tryf.func32, Tryf.ntmps32
      go_wp2_with fail
      skip
      go_ret
      exact ⟨rfl, (by repeat (first | exact Below.refl _ _ | apply below_drew | apply below_drewN | apply below_alloc | apply below_grow))⟩
    by_cases d1 : ((s[i + 1]'z1).toNat : Int) ≤ 191
    rotate_left
    · have hw : wAt s i = 1 := by rcases Hd.out with ⟨hc, _, e2⟩ | ⟨hc, _, e2⟩ <;> omega
      rw [hw]
      clear hw Hd k1 k2
      go_enter Tryf.func32, Tryf.ntmps32
      go_wp2_with fail
      skip
      go_ret
      exact ⟨rfl, (by repeat (first | exact Below.refl _ _ | apply below_drew | apply below_drewN | apply below_alloc | apply below_grow))⟩
    by_cases c2 : (128 : Int) ≤ ((s[i + 2]'z2).toNat : Int) ∧ ((s[i + 2]'z2).toNat : Int) ≤ 191
    rotate_left
    · have f2 := zzCont_f (s[i + 2]'z2) c2
      have F2 := Lib.hid f2
      clear f2
      have hw : wAt s i = 1 := by rcases Hd.out with ⟨hc, _, e2⟩ | ⟨hc, _, e2⟩ <;> omega
      rw [hw]
      clear hw Hd k1 k2
      go_enter Tryf.func32, Tryf.ntmps32
      go_wp2_with (go_at_call 63; refine Calls.mono (by first | (with_reducible exact F2.out _)) ?_; rintro e w' ⟨rfl, rfl⟩)
      skip
      go_ret
      exact ⟨rfl, (by repeat (first | exact Below.refl _ _ | apply below_drew | apply below_drewN | apply below_alloc | apply below_grow))⟩
    have t2 := zzCont_t (s[i + 2]'z2) c2
    have T2 := Lib.hid t2
    clear t2
    have hw : wAt s i = 3 := by rcases Hd.out with ⟨hc, _, e2⟩ | ⟨hc, _, e2⟩ <;> omega
    rw [hw]
    clear hw Hd k1 k2
    go_enter Tryf.func32, Tryf.ntmps32
    go_wp2_with (go_at_call 63; refine Calls.mono (by first | (with_reducible exact T2.out _)) ?_; rintro e w' ⟨rfl, rfl⟩)
    skip
    go_ret
    exact ⟨rfl, (by repeat (first | exact Below.refl _ _ | apply below_drew | apply below_drewN | apply below_alloc | apply below_grow))⟩
  · have z0 : ¬ (3 : Int) ≤ (s.size : Int) - (i : Int) := by omega
    have hw : wAt s i = 1 := by rcases Hd.out with ⟨hc, _, e2⟩ | ⟨hc, _, e2⟩ <;> omega
    rw [hw]
    clear hw Hd
    go_enter Tryf.func32, Tryf.ntmps32
    go_wp2_with fail
    skip
    go_ret
    exact ⟨rfl, (by repeat (first | exact Below.refl _ _ | apply below_drew | apply below_drewN | apply below_alloc | apply below_grow))⟩

set_option maxHeartbeats 4000000 in
set_option maxRecDepth 100000 in
theorem zzSize_h (s : ByteArray) (i : Nat) (w : World) (hi : i < s.size) (hs : s.size ≤ 1048576) (h1 : 237 ≤ (s[i]'hi).toNat) (h2 : (s[i]'hi).toNat ≤ 237) :
    Calls Tryf.prog 32 #[.string s, .int .i64 i] w fun e w' => e = .returned (.int .i64 (wAt s i)) ∧ Below w.heap.size w w' := by
  have i0 : (0 : Int) ≤ (i : Int) := by omega
  have i1 : (i : Int) < (s.size : Int) := by omega
  have zw : IntKind.i64.wrap ((s.size : Int) - (i : Int)) = (s.size : Int) - (i : Int) := by rw [IntKind.wrap_i64]; omega
  have a194 : ¬ ((s[i]'hi).toNat : Int) < 194 := by omega
  have g244 : ¬ (244 : Int) < ((s[i]'hi).toNat : Int) := by omega
  have a224 : ¬ ((s[i]'hi).toNat : Int) < 224 := by omega
  have a240 : ((s[i]'hi).toNat : Int) < 240 := by omega
  have q224 : (((s[i]'hi).toNat : Int) == 224) = false := by rw [beq_eq_false_iff_ne]; omega
  have q237 : (((s[i]'hi).toNat : Int) == 237) = true := by rw [beq_iff_eq]; omega
  have q240 : (((s[i]'hi).toNat : Int) == 240) = false := by rw [beq_eq_false_iff_ne]; omega
  have q244 : (((s[i]'hi).toNat : Int) == 244) = false := by rw [beq_eq_false_iff_ne]; omega
  have hd := dec3 (s := s) (i := i) (by rw [byt_of hi]; omega) (by rw [byt_of hi]; omega)
  have el : lo3 (byt s i) = 128 := by unfold lo3; rw [byt_of hi]; exact if_neg (by omega)
  have eh : hi3 (byt s i) = 159 := by unfold hi3; rw [byt_of hi]; exact if_pos (by omega)
  rw [el, eh] at hd
  clear el eh
  have Hd := Lib.hid hd
  clear hd
  by_cases hz : i + 2 < s.size
  · have z0 : (3 : Int) ≤ (s.size : Int) - (i : Int) := by omega
    have z1 : i + 1 < s.size := by omega
    have y1 : (0 : Int) ≤ (i : Int) + 1 := by omega
    have x1 : (i : Int) + 1 < (s.size : Int) := by omega
    have v1 : ((i : Int) + 1).toNat = i + 1 := by omega
    have k1 := byt_of z1
    have s1 : IntKind.i64.wrap ((i : Int) + 1) = (i : Int) + 1 := by rw [IntKind.wrap_i64]; omega
    have z2 : i + 2 < s.size := by omega
    have y2 : (0 : Int) ≤ (i : Int) + 2 := by omega
    have x2 : (i : Int) + 2 < (s.size : Int) := by omega
    have v2 : ((i : Int) + 2).toNat = i + 2 := by omega
    have k2 := byt_of z2
    have s2 : IntKind.i64.wrap ((i : Int) + 2) = (i : Int) + 2 := by rw [IntKind.wrap_i64]; omega
    by_cases c1 : (128 : Int) ≤ ((s[i + 1]'z1).toNat : Int)
    rotate_left
    · have hw : wAt s i = 1 := by rcases Hd.out with ⟨hc, _, e2⟩ | ⟨hc, _, e2⟩ <;> omega
      rw [hw]
      clear hw Hd k1 k2
      go_enter Tryf.func32, Tryf.ntmps32
      go_wp2_with fail
      skip
      go_ret
      exact ⟨rfl, (by repeat (first | exact Below.refl _ _ | apply below_drew | apply below_drewN | apply below_alloc | apply below_grow))⟩
    by_cases d1 : ((s[i + 1]'z1).toNat : Int) ≤ 159
    rotate_left
    · have hw : wAt s i = 1 := by rcases Hd.out with ⟨hc, _, e2⟩ | ⟨hc, _, e2⟩ <;> omega
      rw [hw]
      clear hw Hd k1 k2
      go_enter Tryf.func32, Tryf.ntmps32
      go_wp2_with fail
      skip
      go_ret
      exact ⟨rfl, (by repeat (first | exact Below.refl _ _ | apply below_drew | apply below_drewN | apply below_alloc | apply below_grow))⟩
    by_cases c2 : (128 : Int) ≤ ((s[i + 2]'z2).toNat : Int) ∧ ((s[i + 2]'z2).toNat : Int) ≤ 191
    rotate_left
    · have f2 := zzCont_f (s[i + 2]'z2) c2
      have F2 := Lib.hid f2
      clear f2
      have hw : wAt s i = 1 := by rcases Hd.out with ⟨hc, _, e2⟩ | ⟨hc, _, e2⟩ <;> omega
      rw [hw]
      clear hw Hd k1 k2
      go_enter Tryf.func32, Tryf.ntmps32
      go_wp2_with (go_at_call 63; refine Calls.mono (by first | (with_reducible exact F2.out _)) ?_; rintro e w' ⟨rfl, rfl⟩)
      skip
      go_ret
      exact ⟨rfl, (by repeat (first | exact Below.refl _ _ | apply below_drew | apply below_drewN | apply below_alloc | apply below_grow))⟩
    have t2 := zzCont_t (s[i + 2]'z2) c2
    have T2 := Lib.hid t2
    clear t2
    have hw : wAt s i = 3 := by rcases Hd.out with ⟨hc, _, e2⟩ | ⟨hc, _, e2⟩ <;> omega
    rw [hw]
    clear hw Hd k1 k2
    go_enter Tryf.func32, Tryf.ntmps32
    go_wp2_with (go_at_call 63; refine Calls.mono (by first | (with_reducible exact T2.out _)) ?_; rintro e w' ⟨rfl, rfl⟩)
    skip
    go_ret
    exact ⟨rfl, (by repeat (first | exact Below.refl _ _ | apply below_drew | apply below_drewN | apply below_alloc | apply below_grow))⟩
  · have z0 : ¬ (3 : Int) ≤ (s.size : Int) - (i : Int) := by omega
    have hw : wAt s i = 1 := by rcases Hd.out with ⟨hc, _, e2⟩ | ⟨hc, _, e2⟩ <;> omega
    rw [hw]
    clear hw Hd
    go_enter Tryf.func32, Tryf.ntmps32
    go_wp2_with fail
    skip
    go_ret
    exact ⟨rfl, (by repeat (first | exact Below.refl _ _ | apply below_drew | apply below_drewN | apply below_alloc | apply below_grow))⟩

set_option maxHeartbeats 4000000 in
set_option maxRecDepth 100000 in
theorem zzSize_f (s : ByteArray) (i : Nat) (w : World) (hi : i < s.size) (hs : s.size ≤ 1048576) (h1 : 238 ≤ (s[i]'hi).toNat) (h2 : (s[i]'hi).toNat ≤ 239) :
    Calls Tryf.prog 32 #[.string s, .int .i64 i] w fun e w' => e = .returned (.int .i64 (wAt s i)) ∧ Below w.heap.size w w' := by
  have i0 : (0 : Int) ≤ (i : Int) := by omega
  have i1 : (i : Int) < (s.size : Int) := by omega
  have zw : IntKind.i64.wrap ((s.size : Int) - (i : Int)) = (s.size : Int) - (i : Int) := by rw [IntKind.wrap_i64]; omega
  have a194 : ¬ ((s[i]'hi).toNat : Int) < 194 := by omega
  have g244 : ¬ (244 : Int) < ((s[i]'hi).toNat : Int) := by omega
  have a224 : ¬ ((s[i]'hi).toNat : Int) < 224 := by omega
  have a240 : ((s[i]'hi).toNat : Int) < 240 := by omega
  have q224 : (((s[i]'hi).toNat : Int) == 224) = false := by rw [beq_eq_false_iff_ne]; omega
  have q237 : (((s[i]'hi).toNat : Int) == 237) = false := by rw [beq_eq_false_iff_ne]; omega
  have q240 : (((s[i]'hi).toNat : Int) == 240) = false := by rw [beq_eq_false_iff_ne]; omega
  have q244 : (((s[i]'hi).toNat : Int) == 244) = false := by rw [beq_eq_false_iff_ne]; omega
  have hd := dec3 (s := s) (i := i) (by rw [byt_of hi]; omega) (by rw [byt_of hi]; omega)
  have el : lo3 (byt s i) = 128 := by unfold lo3; rw [byt_of hi]; exact if_neg (by omega)
  have eh : hi3 (byt s i) = 191 := by unfold hi3; rw [byt_of hi]; exact if_neg (by omega)
  rw [el, eh] at hd
  clear el eh
  have Hd := Lib.hid hd
  clear hd
  by_cases hz : i + 2 < s.size
  · have z0 : (3 : Int) ≤ (s.size : Int) - (i : Int) := by omega
    have z1 : i + 1 < s.size := by omega
    have y1 : (0 : Int) ≤ (i : Int) + 1 := by omega
    have x1 : (i : Int) + 1 < (s.size : Int) := by omega
    have v1 : ((i : Int) + 1).toNat = i + 1 := by omega
    have k1 := byt_of z1
    have s1 : IntKind.i64.wrap ((i : Int) + 1) = (i : Int) + 1 := by rw [IntKind.wrap_i64]; omega
    have z2 : i + 2 < s.size := by omega
    have y2 : (0 : Int) ≤ (i : Int) + 2 := by omega
    have x2 : (i : Int) + 2 < (s.size : Int) := by omega
    have v2 : ((i : Int) + 2).toNat = i + 2 := by omega
    have k2 := byt_of z2
    have s2 : IntKind.i64.wrap ((i : Int) + 2) = (i : Int) + 2 := by rw [IntKind.wrap_i64]; omega
    by_cases c1 : (128 : Int) ≤ ((s[i + 1]'z1).toNat : Int)
    rotate_left
    · have hw : wAt s i = 1 := by rcases Hd.out with ⟨hc, _, e2⟩ | ⟨hc, _, e2⟩ <;> omega
      rw [hw]
      clear hw Hd k1 k2
      go_enter Tryf.func32, Tryf.ntmps32
      go_wp2_with fail
      skip
      go_ret
      exact ⟨rfl, (by repeat (first | exact Below.refl _ _ | apply below_drew | apply below_drewN | apply below_alloc | apply below_grow))⟩
    by_cases d1 : ((s[i + 1]'z1).toNat : Int) ≤ 191
    rotate_left
    · have hw : wAt s i = 1 := by rcases Hd.out with ⟨hc, _, e2⟩ | ⟨hc, _, e2⟩ <;> omega
      rw [hw]
      clear hw Hd k1 k2
      go_enter Tryf.func32, Tryf.ntmps32
      go_wp2_with fail
      skip
      go_ret
      exact ⟨rfl, (by repeat (first | exact Below.refl _ _ | apply below_drew | apply below_drewN | apply below_alloc | apply below_grow))⟩
    by_cases c2 : (128 : Int) ≤ ((s[i + 2]'z2).toNat : Int) ∧ ((s[i + 2]'z2).toNat : Int) ≤ 191
    rotate_left
    · have f2 := zzCont_f (s[i + 2]'z2) c2
      have F2 := Lib.hid f2
      clear f2
      have hw : wAt s i = 1 := by rcases Hd.out with ⟨hc, _, e2⟩ | ⟨hc, _, e2⟩ <;> omega
      rw [hw]
      clear hw Hd k1 k2
      go_enter Tryf.func32, Tryf.ntmps32
      go_wp2_with (go_at_call 63; refine Calls.mono (by first | (with_reducible exact F2.out _)) ?_; rintro e w' ⟨rfl, rfl⟩)
      skip
      go_ret
      exact ⟨rfl, (by repeat (first | exact Below.refl _ _ | apply below_drew | apply below_drewN | apply below_alloc | apply below_grow))⟩
    have t2 := zzCont_t (s[i + 2]'z2) c2
    have T2 := Lib.hid t2
    clear t2
    have hw : wAt s i = 3 := by rcases Hd.out with ⟨hc, _, e2⟩ | ⟨hc, _, e2⟩ <;> omega
    rw [hw]
    clear hw Hd k1 k2
    go_enter Tryf.func32, Tryf.ntmps32
    go_wp2_with (go_at_call 63; refine Calls.mono (by first | (with_reducible exact T2.out _)) ?_; rintro e w' ⟨rfl, rfl⟩)
    skip
    go_ret
    exact ⟨rfl, (by repeat (first | exact Below.refl _ _ | apply below_drew | apply below_drewN | apply below_alloc | apply below_grow))⟩
  · have z0 : ¬ (3 : Int) ≤ (s.size : Int) - (i : Int) := by omega
    have hw : wAt s i = 1 := by rcases Hd.out with ⟨hc, _, e2⟩ | ⟨hc, _, e2⟩ <;> omega
    rw [hw]
    clear hw Hd
    go_enter Tryf.func32, Tryf.ntmps32
    go_wp2_with fail
    skip
    go_ret
    exact ⟨rfl, (by repeat (first | exact Below.refl _ _ | apply below_drew | apply below_drewN | apply below_alloc | apply below_grow))⟩

set_option maxHeartbeats 4000000 in
set_option maxRecDepth 100000 in
theorem zzSize_i (s : ByteArray) (i : Nat) (w : World) (hi : i < s.size) (hs : s.size ≤ 1048576) (h1 : 240 ≤ (s[i]'hi).toNat) (h2 : (s[i]'hi).toNat ≤ 240) :
    Calls Tryf.prog 32 #[.string s, .int .i64 i] w fun e w' => e = .returned (.int .i64 (wAt s i)) ∧ Below w.heap.size w w' := by
  have i0 : (0 : Int) ≤ (i : Int) := by omega
  have i1 : (i : Int) < (s.size : Int) := by omega
  have zw : IntKind.i64.wrap ((s.size : Int) - (i : Int)) = (s.size : Int) - (i : Int) := by rw [IntKind.wrap_i64]; omega
  have a194 : ¬ ((s[i]'hi).toNat : Int) < 194 := by omega
  have g244 : ¬ (244 : Int) < ((s[i]'hi).toNat : Int) := by omega
  have a224 : ¬ ((s[i]'hi).toNat : Int) < 224 := by omega
  have a240 : ¬ ((s[i]'hi).toNat : Int) < 240 := by omega
  have q224 : (((s[i]'hi).toNat : Int) == 224) = false := by rw [beq_eq_false_iff_ne]; omega
  have q237 : (((s[i]'hi).toNat : Int) == 237) = false := by rw [beq_eq_false_iff_ne]; omega
  have q240 : (((s[i]'hi).toNat : Int) == 240) = true := by rw [beq_iff_eq]; omega
  have q244 : (((s[i]'hi).toNat : Int) == 244) = false := by rw [beq_eq_false_iff_ne]; omega
  have hd := dec4 (s := s) (i := i) (by rw [byt_of hi]; omega) (by rw [byt_of hi]; omega)
  have el : lo4 (byt s i) = 144 := by unfold lo4; rw [byt_of hi]; exact if_pos (by omega)
  have eh : hi4 (byt s i) = 191 := by unfold hi4; rw [byt_of hi]; exact if_neg (by omega)
  rw [el, eh] at hd
  clear el eh
  have Hd := Lib.hid hd
  clear hd
  by_cases hz : i + 3 < s.size
  · have z0 : (4 : Int) ≤ (s.size : Int) - (i : Int) := by omega
    have z1 : i + 1 < s.size := by omega
    have y1 : (0 : Int) ≤ (i : Int) + 1 := by omega
    have x1 : (i : Int) + 1 < (s.size : Int) := by omega
    have v1 : ((i : Int) + 1).toNat = i + 1 := by omega
    have k1 := byt_of z1
    have s1 : IntKind.i64.wrap ((i : Int) + 1) = (i : Int) + 1 := by rw [IntKind.wrap_i64]; omega
    have z2 : i + 2 < s.size := by omega
    have y2 : (0 : Int) ≤ (i : Int) + 2 := by omega
    have x2 : (i : Int) + 2 < (s.size : Int) := by omega
    have v2 : ((i : Int) + 2).toNat = i + 2 := by omega
    have k2 := byt_of z2
    have s2 : IntKind.i64.wrap ((i : Int) + 2) = (i : Int) + 2 := by rw [IntKind.wrap_i64]; omega
    have z3 : i + 3 < s.size := by omega
    have y3 : (0 : Int) ≤ (i : Int) + 3 := by omega
    have x3 : (i : Int) + 3 < (s.size : Int) := by omega
    have v3 : ((i : Int) + 3).toNat = i + 3 := by omega
    have k3 := byt_of z3
    have s3 : IntKind.i64.wrap ((i : Int) + 3) = (i : Int) + 3 := by rw [IntKind.wrap_i64]; omega
    by_cases c1 : (144 : Int) ≤ ((s[i + 1]'z1).toNat : Int)
    rotate_left
    · have hw : wAt s i = 1 := by rcases Hd.out with ⟨hc, _, e2⟩ | ⟨hc, _, e2⟩ <;> omega
      rw [hw]
      clear hw Hd k1 k2 k3
      go_enter Tryf.func32, Tryf.ntmps32
      go_wp2_with fail
      skip
      go_ret
      exact ⟨rfl, (by repeat (first | exact Below.refl _ _ | apply below_drew | apply below_drewN | apply below_alloc | apply below_grow))⟩
    by_cases d1 : ((s[i + 1]'z1).toNat : Int) ≤ 191
    rotate_left
    · have hw : wAt s i = 1 := by rcases Hd.out with ⟨hc, _, e2⟩ | ⟨hc, _, e2⟩ <;> omega
      rw [hw]
      clear hw Hd k1 k2 k3
      go_enter Tryf.func32, Tryf.ntmps32
      go_wp2_with fail
      skip
      go_ret
      exact ⟨rfl, (by repeat (first | exact Below.refl _ _ | apply below_drew | apply below_drewN | apply below_alloc | apply below_grow))⟩
    by_cases c2 : (128 : Int) ≤ ((s[i + 2]'z2).toNat : Int) ∧ ((s[i + 2]'z2).toNat : Int) ≤ 191
    rotate_left
    · have f2 := zzCont_f (s[i + 2]'z2) c2
      have F2 := Lib.hid f2
      clear f2
      have hw : wAt s i = 1 := by rcases Hd.out with ⟨hc, _, e2⟩ | ⟨hc, _, e2⟩ <;> omega
      rw [hw]
      clear hw Hd k1 k2 k3
      go_enter Tryf.func32, Tryf.ntmps32
      go_wp2_with (go_at_call 63; refine Calls.mono (by first | (with_reducible exact F2.out _)) ?_; rintro e w' ⟨rfl, rfl⟩)
      skip
      go_ret
      exact ⟨rfl, (by repeat (first | exact Below.refl _ _ | apply below_drew | apply below_drewN | apply below_alloc | apply below_grow))⟩
    have t2 := zzCont_t (s[i + 2]'z2) c2
    have T2 := Lib.hid t2
    clear t2
    by_cases c3 : (128 : Int) ≤ ((s[i + 3]'z3).toNat : Int) ∧ ((s[i + 3]'z3).toNat : Int) ≤ 191
    rotate_left
    · have f3 := zzCont_f (s[i + 3]'z3) c3
      have F3 := Lib.hid f3
      clear f3
      have hw : wAt s i = 1 := by rcases Hd.out with ⟨hc, _, e2⟩ | ⟨hc, _, e2⟩ <;> omega
      rw [hw]
      clear hw Hd k1 k2 k3
      go_enter Tryf.func32, Tryf.ntmps32
      go_wp2_with (go_at_call 63; refine Calls.mono (by first | (with_reducible exact T2.out _) | (with_reducible exact F3.out _)) ?_; rintro e w' ⟨rfl, rfl⟩)
      skip
      go_ret
      exact ⟨rfl, (by repeat (first | exact Below.refl _ _ | apply below_drew | apply below_drewN | apply below_alloc | apply below_grow))⟩
    have t3 := zzCont_t (s[i + 3]'z3) c3
    have T3 := Lib.hid t3
    clear t3
    have hw : wAt s i = 4 := by rcases Hd.out with ⟨hc, _, e2⟩ | ⟨hc, _, e2⟩ <;> omega
    rw [hw]
    clear hw Hd k1 k2 k3
    go_enter Tryf.func32, Tryf.ntmps32
    go_wp2_with (go_at_call 63; refine Calls.mono (by first | (with_reducible exact T2.out _) | (with_reducible exact T3.out _)) ?_; rintro e w' ⟨rfl, rfl⟩)
    skip
    go_ret
    exact ⟨rfl, (by repeat (first | exact Below.refl _ _ | apply below_drew | apply below_drewN | apply below_alloc | apply below_grow))⟩
  · have z0 : ¬ (4 : Int) ≤ (s.size : Int) - (i : Int) := by omega
    have hw : wAt s i = 1 := by rcases Hd.out with ⟨hc, _, e2⟩ | ⟨hc, _, e2⟩ <;> omega
    rw [hw]
    clear hw Hd
    go_enter Tryf.func32, Tryf.ntmps32
    go_wp2_with fail
    skip
    go_ret
    exact ⟨rfl, (by repeat (first | exact Below.refl _ _ | apply below_drew | apply below_drewN | apply below_alloc | apply below_grow))⟩

set_option maxHeartbeats 4000000 in
set_option maxRecDepth 100000 in
theorem zzSize_j (s : ByteArray) (i : Nat) (w : World) (hi : i < s.size) (hs : s.size ≤ 1048576) (h1 : 241 ≤ (s[i]'hi).toNat) (h2 : (s[i]'hi).toNat ≤ 243) :
    Calls Tryf.prog 32 #[.string s, .int .i64 i] w fun e w' => e = .returned (.int .i64 (wAt s i)) ∧ Below w.heap.size w w' := by
  have i0 : (0 : Int) ≤ (i : Int) := by omega
  have i1 : (i : Int) < (s.size : Int) := by omega
  have zw : IntKind.i64.wrap ((s.size : Int) - (i : Int)) = (s.size : Int) - (i : Int) := by rw [IntKind.wrap_i64]; omega
  have a194 : ¬ ((s[i]'hi).toNat : Int) < 194 := by omega
  have g244 : ¬ (244 : Int) < ((s[i]'hi).toNat : Int) := by omega
  have a224 : ¬ ((s[i]'hi).toNat : Int) < 224 := by omega
  have a240 : ¬ ((s[i]'hi).toNat : Int) < 240 := by omega
  have q224 : (((s[i]'hi).toNat : Int) == 224) = false := by rw [beq_eq_false_iff_ne]; omega
  have q237 : (((s[i]'hi).toNat : Int) == 237) = false := by rw [beq_eq_false_iff_ne]; omega
  have q240 : (((s[i]'hi).toNat : Int) == 240) = false := by rw [beq_eq_false_iff_ne]; omega
  have q244 : (((s[i]'hi).toNat : Int) == 244) = false := by rw [beq_eq_false_iff_ne]; omega
  have hd := dec4 (s := s) (i := i) (by rw [byt_of hi]; omega) (by rw [byt_of hi]; omega)
  have el : lo4 (byt s i) = 128 := by unfold lo4; rw [byt_of hi]; exact if_neg (by omega)
  have eh : hi4 (byt s i) = 191 := by unfold hi4; rw [byt_of hi]; exact if_neg (by omega)
  rw [el, eh] at hd
  clear el eh
  have Hd := Lib.hid hd
  clear hd
  by_cases hz : i + 3 < s.size
  · have z0 : (4 : Int) ≤ (s.size : Int) - (i : Int) := by omega
    have z1 : i + 1 < s.size := by omega
    have y1 : (0 : Int) ≤ (i : Int) + 1 := by omega
    have x1 : (i : Int) + 1 < (s.size : Int) := by omega
    have v1 : ((i : Int) + 1).toNat = i + 1 := by omega
    have k1 := byt_of z1
    have s1 : IntKind.i64.wrap ((i : Int) + 1) = (i : Int) + 1 := by rw [IntKind.wrap_i64]; omega
    have z2 : i + 2 < s.size := by omega
    have y2 : (0 : Int) ≤ (i : Int) + 2 := by omega
    have x2 : (i : Int) + 2 < (s.size : Int) := by omega
    have v2 : ((i : Int) + 2).toNat = i + 2 := by omega
    have k2 := byt_of z2
    have s2 : IntKind.i64.wrap ((i : Int) + 2) = (i : Int) + 2 := by rw [IntKind.wrap_i64]; omega
    have z3 : i + 3 < s.size := by omega
    have y3 : (0 : Int) ≤ (i : Int) + 3 := by omega
    have x3 : (i : Int) + 3 < (s.size : Int) := by omega
    have v3 : ((i : Int) + 3).toNat = i + 3 := by omega
    have k3 := byt_of z3
    have s3 : IntKind.i64.wrap ((i : Int) + 3) = (i : Int) + 3 := by rw [IntKind.wrap_i64]; omega
    by_cases c1 : (128 : Int) ≤ ((s[i + 1]'z1).toNat : Int)
    rotate_left
    · have hw : wAt s i = 1 := by rcases Hd.out with ⟨hc, _, e2⟩ | ⟨hc, _, e2⟩ <;> omega
      rw [hw]
      clear hw Hd k1 k2 k3
      go_enter Tryf.func32, Tryf.ntmps32
      go_wp2_with fail
      skip
      go_ret
      exact ⟨rfl, (by repeat (first | exact Below.refl _ _ | apply below_drew | apply below_drewN | apply below_alloc | apply below_grow))⟩
    by_cases d1 : ((s[i + 1]'z1).toNat : Int) ≤ 191
    rotate_left
    · have hw : wAt s i = 1 := by rcases Hd.out with ⟨hc, _, e2⟩ | ⟨hc, _, e2⟩ <;> omega
      rw [hw]
      clear hw Hd k1 k2 k3
      go_enter Tryf.func32, Tryf.ntmps32
      go_wp2_with fail
      skip
      go_ret
      exact ⟨rfl, (by repeat (first | exact Below.refl _ _ | apply below_drew | apply below_drewN | apply below_alloc | apply below_grow))⟩
    by_cases c2 : (128 : Int) ≤ ((s[i + 2]'z2).toNat : Int) ∧ ((s[i + 2]'z2).toNat : Int) ≤ 191
    rotate_left
    · have f2 := zzCont_f (s[i + 2]'z2) c2
      have F2 := Lib.hid f2
      clear f2
      have hw : wAt s i = 1 := by rcases Hd.out with ⟨hc, _, e2⟩ | ⟨hc, _, e2⟩ <;> omega
      rw [hw]
      clear hw Hd k1 k2 k3
      go_enter Tryf.func32, Tryf.ntmps32
      go_wp2_with (go_at_call 63; refine Calls.mono (by first | (with_reducible exact F2.out _)) ?_; rintro e w' ⟨rfl, rfl⟩)
      skip
      go_ret
      exact ⟨rfl, (by repeat (first | exact Below.refl _ _ | apply below_drew | apply below_drewN | apply below_alloc | apply below_grow))⟩
    have t2 := zzCont_t (s[i + 2]'z2) c2
    have T2 := Lib.hid t2
    clear t2
    by_cases c3 : (128 : Int) ≤ ((s[i + 3]'z3).toNat : Int) ∧ ((s[i + 3]'z3).toNat : Int) ≤ 191
    rotate_left
    · have f3 := zzCont_f (s[i + 3]'z3) c3
      have F3 := Lib.hid f3
      clear f3
      have hw : wAt s i = 1 := by rcases Hd.out with ⟨hc, _, e2⟩ | ⟨hc, _, e2⟩ <;> omega
      rw [hw]
      clear hw Hd k1 k2 k3
      go_enter Tryf.func32, Tryf.ntmps32
      go_wp2_with (go_at_call 63; refine Calls.mono (by first | (with_reducible exact T2.out _) | (with_reducible exact F3.out _)) ?_; rintro e w' ⟨rfl, rfl⟩)
      skip
      go_ret
      exact ⟨rfl, (by repeat (first | exact Below.refl _ _ | apply below_drew | apply below_drewN | apply below_alloc | apply below_grow))⟩
    have t3 := zzCont_t (s[i + 3]'z3) c3
    have T3 := Lib.hid t3
    clear t3
    have hw : wAt s i = 4 := by rcases Hd.out with ⟨hc, _, e2⟩ | ⟨hc, _, e2⟩ <;> omega
    rw [hw]
    clear hw Hd k1 k2 k3
    go_enter Tryf.func32, Tryf.ntmps32
    go_wp2_with (go_at_call 63; refine Calls.mono (by first | (with_reducible exact T2.out _) | (with_reducible exact T3.out _)) ?_; rintro e w' ⟨rfl, rfl⟩)
    skip
    go_ret
    exact ⟨rfl, (by repeat (first | exact Below.refl _ _ | apply below_drew | apply below_drewN | apply below_alloc | apply below_grow))⟩
  · have z0 : ¬ (4 : Int) ≤ (s.size : Int) - (i : Int) := by omega
    have hw : wAt s i = 1 := by rcases Hd.out with ⟨hc, _, e2⟩ | ⟨hc, _, e2⟩ <;> omega
    rw [hw]
    clear hw Hd
    go_enter Tryf.func32, Tryf.ntmps32
    go_wp2_with fail
    skip
    go_ret
    exact ⟨rfl, (by repeat (first | exact Below.refl _ _ | apply below_drew | apply below_drewN | apply below_alloc | apply below_grow))⟩

set_option maxHeartbeats 4000000 in
set_option maxRecDepth 100000 in
theorem zzSize_k (s : ByteArray) (i : Nat) (w : World) (hi : i < s.size) (hs : s.size ≤ 1048576) (h1 : 244 ≤ (s[i]'hi).toNat) (h2 : (s[i]'hi).toNat ≤ 244) :
    Calls Tryf.prog 32 #[.string s, .int .i64 i] w fun e w' => e = .returned (.int .i64 (wAt s i)) ∧ Below w.heap.size w w' := by
  have i0 : (0 : Int) ≤ (i : Int) := by omega
  have i1 : (i : Int) < (s.size : Int) := by omega
  have zw : IntKind.i64.wrap ((s.size : Int) - (i : Int)) = (s.size : Int) - (i : Int) := by rw [IntKind.wrap_i64]; omega
  have a194 : ¬ ((s[i]'hi).toNat : Int) < 194 := by omega
  have g244 : ¬ (244 : Int) < ((s[i]'hi).toNat : Int) := by omega
  have a224 : ¬ ((s[i]'hi).toNat : Int) < 224 := by omega
  have a240 : ¬ ((s[i]'hi).toNat : Int) < 240 := by omega
  have q224 : (((s[i]'hi).toNat : Int) == 224) = false := by rw [beq_eq_false_iff_ne]; omega
  have q237 : (((s[i]'hi).toNat : Int) == 237) = false := by rw [beq_eq_false_iff_ne]; omega
  have q240 : (((s[i]'hi).toNat : Int) == 240) = false := by rw [beq_eq_false_iff_ne]; omega
  have q244 : (((s[i]'hi).toNat : Int) == 244) = true := by rw [beq_iff_eq]; omega
  have hd := dec4 (s := s) (i := i) (by rw [byt_of hi]; omega) (by rw [byt_of hi]; omega)
  have el : lo4 (byt s i) = 128 := by unfold lo4; rw [byt_of hi]; exact if_neg (by omega)
  have eh : hi4 (byt s i) = 143 := by unfold hi4; rw [byt_of hi]; exact if_pos (by omega)
  rw [el, eh] at hd
  clear el eh
  have Hd := Lib.hid hd
  clear hd
  by_cases hz : i + 3 < s.size
  · have z0 : (4 : Int) ≤ (s.size : Int) - (i : Int) := by omega
    have z1 : i + 1 < s.size := by omega
    have y1 : (0 : Int) ≤ (i : Int) + 1 := by omega
    have x1 : (i : Int) + 1 < (s.size : Int) := by omega
    have v1 : ((i : Int) + 1).toNat = i + 1 := by omega
    have k1 := byt_of z1
    have s1 : IntKind.i64.wrap ((i : Int) + 1) = (i : Int) + 1 := by rw [IntKind.wrap_i64]; omega
    have z2 : i + 2 < s.size := by omega
    have y2 : (0 : Int) ≤ (i : Int) + 2 := by omega
    have x2 : (i : Int) + 2 < (s.size : Int) := by omega
    have v2 : ((i : Int) + 2).toNat = i + 2 := by omega
    have k2 := byt_of z2
    have s2 : IntKind.i64.wrap ((i : Int) + 2) = (i : Int) + 2 := by rw [IntKind.wrap_i64]; omega
    have z3 : i + 3 < s.size := by omega
    have y3 : (0 : Int) ≤ (i : Int) + 3 := by omega
    have x3 : (i : Int) + 3 < (s.size : Int) := by omega
    have v3 : ((i : Int) + 3).toNat = i + 3 := by omega
    have k3 := byt_of z3
    have s3 : IntKind.i64.wrap ((i : Int) + 3) = (i : Int) + 3 := by rw [IntKind.wrap_i64]; omega
    by_cases c1 : (128 : Int) ≤ ((s[i + 1]'z1).toNat : Int)
    rotate_left
    · have hw : wAt s i = 1 := by rcases Hd.out with ⟨hc, _, e2⟩ | ⟨hc, _, e2⟩ <;> omega
      rw [hw]
      clear hw Hd k1 k2 k3
      go_enter Tryf.func32, Tryf.ntmps32
      go_wp2_with fail
      skip
      go_ret
      exact ⟨rfl, (by repeat (first | exact Below.refl _ _ | apply below_drew | apply below_drewN | apply below_alloc | apply below_grow))⟩
    by_cases d1 : ((s[i + 1]'z1).toNat : Int) ≤ 143
    rotate_left
    · have hw : wAt s i = 1 := by rcases Hd.out with ⟨hc, _, e2⟩ | ⟨hc, _, e2⟩ <;> omega
      rw [hw]
      clear hw Hd k1 k2 k3
      go_enter Tryf.func32, Tryf.ntmps32
      go_wp2_with fail
      skip
      go_ret
      exact ⟨rfl, (by repeat (first | exact Below.refl _ _ | apply below_drew | apply below_drewN | apply below_alloc | apply below_grow))⟩
    by_cases c2 : (128 : Int) ≤ ((s[i + 2]'z2).toNat : Int) ∧ ((s[i + 2]'z2).toNat : Int) ≤ 191
    rotate_left
    · have f2 := zzCont_f (s[i + 2]'z2) c2
      have F2 := Lib.hid f2
      clear f2
      have hw : wAt s i = 1 := by rcases Hd.out with ⟨hc, _, e2⟩ | ⟨hc, _, e2⟩ <;> omega
      rw [hw]
      clear hw Hd k1 k2 k3
      go_enter Tryf.func32, Tryf.ntmps32
      go_wp2_with (go_at_call 63; refine Calls.mono (by first | (with_reducible exact F2.out _)) ?_; rintro e w' ⟨rfl, rfl⟩)
      skip
      go_ret
      exact ⟨rfl, (by repeat (first | exact Below.refl _ _ | apply below_drew | apply below_drewN | apply below_alloc | apply below_grow))⟩
    have t2 := zzCont_t (s[i + 2]'z2) c2
    have T2 := Lib.hid t2
    clear t2
    by_cases c3 : (128 : Int) ≤ ((s[i + 3]'z3).toNat : Int) ∧ ((s[i + 3]'z3).toNat : Int) ≤ 191
    rotate_left
    · have f3 := zzCont_f (s[i + 3]'z3) c3
      have F3 := Lib.hid f3
      clear f3
      have hw : wAt s i = 1 := by rcases Hd.out with ⟨hc, _, e2⟩ | ⟨hc, _, e2⟩ <;> omega
      rw [hw]
      clear hw Hd k1 k2 k3
      go_enter Tryf.func32, Tryf.ntmps32
      go_wp2_with (go_at_call 63; refine Calls.mono (by first | (with_reducible exact T2.out _) | (with_reducible exact F3.out _)) ?_; rintro e w' ⟨rfl, rfl⟩)
      skip
      go_ret
      exact ⟨rfl, (by repeat (first | exact Below.refl _ _ | apply below_drew | apply below_drewN | apply below_alloc | apply below_grow))⟩
    have t3 := zzCont_t (s[i + 3]'z3) c3
    have T3 := Lib.hid t3
    clear t3
    have hw : wAt s i = 4 := by rcases Hd.out with ⟨hc, _, e2⟩ | ⟨hc, _, e2⟩ <;> omega
    rw [hw]
    clear hw Hd k1 k2 k3
    go_enter Tryf.func32, Tryf.ntmps32
    go_wp2_with (go_at_call 63; refine Calls.mono (by first | (with_reducible exact T2.out _) | (with_reducible exact T3.out _)) ?_; rintro e w' ⟨rfl, rfl⟩)
    skip
    go_ret
    exact ⟨rfl, (by repeat (first | exact Below.refl _ _ | apply below_drew | apply below_drewN | apply below_alloc | apply below_grow))⟩
  · have z0 : ¬ (4 : Int) ≤ (s.size : Int) - (i : Int) := by omega
    have hw : wAt s i = 1 := by rcases Hd.out with ⟨hc, _, e2⟩ | ⟨hc, _, e2⟩ <;> omega
    rw [hw]
    clear hw Hd
    go_enter Tryf.func32, Tryf.ntmps32
    go_wp2_with fail
    skip
    go_ret
    exact ⟨rfl, (by repeat (first | exact Below.refl _ _ | apply below_drew | apply below_drewN | apply below_alloc | apply below_grow))⟩

set_option maxHeartbeats 4000000 in
set_option maxRecDepth 100000 in
theorem zzSize_l (s : ByteArray) (i : Nat) (w : World) (hi : i < s.size) (hs : s.size ≤ 1048576) (h1 : 245 ≤ (s[i]'hi).toNat) (h2 : (s[i]'hi).toNat ≤ 255) :
    Calls Tryf.prog 32 #[.string s, .int .i64 i] w fun e w' => e = .returned (.int .i64 (wAt s i)) ∧ Below w.heap.size w w' := by
  have i0 : (0 : Int) ≤ (i : Int) := by omega
  have i1 : (i : Int) < (s.size : Int) := by omega
  have zw : IntKind.i64.wrap ((s.size : Int) - (i : Int)) = (s.size : Int) - (i : Int) := by rw [IntKind.wrap_i64]; omega
  have a194 : ¬ ((s[i]'hi).toNat : Int) < 194 := by omega
  have g244 : (244 : Int) < ((s[i]'hi).toNat : Int) := by omega
  have a224 : ¬ ((s[i]'hi).toNat : Int) < 224 := by omega
  have a240 : ¬ ((s[i]'hi).toNat : Int) < 240 := by omega
  have q224 : (((s[i]'hi).toNat : Int) == 224) = false := by rw [beq_eq_false_iff_ne]; omega
  have q237 : (((s[i]'hi).toNat : Int) == 237) = false := by rw [beq_eq_false_iff_ne]; omega
  have q240 : (((s[i]'hi).toNat : Int) == 240) = false := by rw [beq_eq_false_iff_ne]; omega
  have q244 : (((s[i]'hi).toNat : Int) == 244) = false := by rw [beq_eq_false_iff_ne]; omega
  have hw : wAt s i = 1 := (dec_hi (s := s) (i := i) (by rw [byt_of hi]; omega)).2
  rw [hw]
  clear hw
  go_enter Tryf.func32, Tryf.ntmps32
  go_wp2_with fail
  go_ret
  exact ⟨rfl, (by repeat (first | exact Below.refl _ _ | apply below_drew | apply below_drewN | apply below_alloc | apply below_grow))⟩

theorem zzSize_any (s : ByteArray) (i : Nat) (w : World) (hi : i < s.size) (hs : s.size ≤ 1048576) :
    Calls Tryf.prog 32 #[.string s, .int .i64 i] w fun e w' => e = .returned (.int .i64 (wAt s i)) ∧ Below w.heap.size w w' := by
  have hb := (s[i]'hi).toNat_lt
  by_cases ba : (s[i]'hi).toNat ≤ 193
  · exact zzSize_a s i w hi hs (by omega) ba
  by_cases bc : (s[i]'hi).toNat ≤ 223
  · exact zzSize_c s i w hi hs (by omega) bc
  by_cases bd : (s[i]'hi).toNat ≤ 224
  · exact zzSize_d s i w hi hs (by omega) bd
  by_cases be : (s[i]'hi).toNat ≤ 236
  · exact zzSize_e s i w hi hs (by omega) be
  by_cases bh : (s[i]'hi).toNat ≤ 237
  · exact zzSize_h s i w hi hs (by omega) bh
  by_cases bf : (s[i]'hi).toNat ≤ 239
  · exact zzSize_f s i w hi hs (by omega) bf
  by_cases bi : (s[i]'hi).toNat ≤ 240
  · exact zzSize_i s i w hi hs (by omega) bi
  by_cases bj : (s[i]'hi).toNat ≤ 243
  · exact zzSize_j s i w hi hs (by omega) bj
  by_cases bk : (s[i]'hi).toNat ≤ 244
  · exact zzSize_k s i w hi hs (by omega) bk
  by_cases bl : (s[i]'hi).toNat ≤ 255
  · exact zzSize_l s i w hi hs (by omega) bl
  omega

end Go.Proofs.YtdpdgppjeekcmaaFmt
