/-
  Walk: n003_75's own decoder is the model's.
-/
import Derived.Test.YteicfaehbndlcaaFmtDec
import Derived.Test.YteicfaehbndlcaaFmtBase
namespace Go.Proofs.YteicfaehbndlcaaFmt
open Go Go.Lib Go.RowKit Go.Proofs

theorem zzCont_byte (b : UInt8) (w : World) : Calls Tryf.prog 34 #[.int .u8 b.toNat] w fun e w' => e = .returned (.bool (decide (128 ≤ b.toNat) && decide (b.toNat ≤ 191))) ∧ w = w' := by
  have hb := b.toNat_lt
  by_cases h : 128 ≤ b.toNat
  · have h' : (128 : Int) ≤ (b.toNat : Int) := by omega
    have e : decide (128 ≤ b.toNat) = true := by simpa using h
    rw [e]
    clear e
    go_enter Tryf.func34, Tryf.ntmps34
    go_wp2_with fail
    go_ret
    refine ⟨?_, rfl⟩
    have : decide ((b.toNat : Int) ≤ 191) = decide (b.toNat ≤ 191) := by simp; omega
    simp [this]
  · have h' : ¬ (128 : Int) ≤ (b.toNat : Int) := by omega
    have e : decide (128 ≤ b.toNat) = false := by simpa using h
    rw [e]
    clear e
    go_enter Tryf.func34, Tryf.ntmps34
    go_wp2_with fail
    go_ret
    exact ⟨rfl, rfl⟩

theorem pair_eq {a b c d : Int} (h1 : a = b) (h2 : c = d) : Ending.returned (.tuple #[.int .i32 a, .int .i64 c]) = Ending.returned (.tuple #[.int .i32 b, .int .i64 d]) := by rw [h1, h2]

set_option maxHeartbeats 2000000 in
set_option maxRecDepth 100000 in
theorem zzDecode_two (s : ByteArray) (i : Nat) (w : World) (hi : i < s.size) (hs : s.size ≤ 1048576) (h1 : 194 ≤ (s[i]'hi).toNat) (h2 : (s[i]'hi).toNat < 224) :
    Calls Tryf.prog 25 #[.string s, .int .i64 i] w fun e w' => e = .returned (.tuple #[.int .i32 (rAt s i), .int .i64 (wAt s i)]) ∧ ∃ xs d, w' = grow w xs d := by
  have i0 : (0 : Int) ≤ (i : Int) := by omega
  have i1 : (i : Int) < (s.size : Int) := by omega
  have a0 : ¬ (((s[i]'hi).toNat : Int) < 128) := by omega
  have a1 : ¬ (((s[i]'hi).toNat : Int) < 194) := by omega
  have a2 : (((s[i]'hi).toNat : Int) < 224) := by omega
  have Hd := Lib.hid (dec2 (s := s) (i := i) (by rw [byt_of hi]; omega) (by rw [byt_of hi]; omega))
  go_enter Tryf.func25, Tryf.ntmps25
  go_wp2_with (go_at_call 34; refine (zzCont_byte _ _).mono ?_; rintro e w' ⟨rfl, rfl⟩)
  all_goals
    rcases Hd.out with ⟨hc, e1, e2⟩ | ⟨hc, e1, e2⟩
    all_goals have k0 := byt_of hi
    all_goals try (have k1 := byt_of (s := s) (k := i + 1) (by omega))
    all_goals try (have k2 := byt_of (s := s) (k := i + 2) (by omega))
    all_goals try (have k3 := byt_of (s := s) (k := i + 3) (by omega))
    all_goals try (exfalso; omega)
    all_goals try rw [k0] at e1
    all_goals try rw [k1] at e1
    all_goals try rw [k2] at e1
    all_goals try rw [k3] at e1
    all_goals rw [e1, e2]
    all_goals clear hc e1 e2
    all_goals go_ret2
    all_goals exact ⟨pair_eq (by omega) (by omega), grow_of (by repeat (first | exact Below.refl _ _ | apply below_drew | apply below_drewN | apply below_alloc | apply below_grow))⟩

set_option maxHeartbeats 4000000 in
set_option maxRecDepth 100000 in
theorem zzDecode_three224 (s : ByteArray) (i : Nat) (w : World) (hi : i < s.size) (hs : s.size ≤ 1048576) (h1 : 224 ≤ (s[i]'hi).toNat) (h2 : (s[i]'hi).toNat < 240) (hv : (s[i]'hi).toNat = 224) :
    Calls Tryf.prog 25 #[.string s, .int .i64 i] w fun e w' => e = .returned (.tuple #[.int .i32 (rAt s i), .int .i64 (wAt s i)]) ∧ ∃ xs d, w' = grow w xs d := by
  have i0 : (0 : Int) ≤ (i : Int) := by omega
  have i1 : (i : Int) < (s.size : Int) := by omega
  have a0 : ¬ (((s[i]'hi).toNat : Int) < 128) := by omega
  have a1 : ¬ (((s[i]'hi).toNat : Int) < 194) := by omega
  have a2 : ¬ (((s[i]'hi).toNat : Int) < 224) := by omega
  have a3 : (((s[i]'hi).toNat : Int) < 240) := by omega
  have q224 : ((((s[i]'hi).toNat : Int)) == 224) = true := by simp; omega
  have q237 : ((((s[i]'hi).toNat : Int)) == 237) = false := by simp; omega
  have hd := dec3 (s := s) (i := i) (by rw [byt_of hi]; omega) (by rw [byt_of hi]; omega)
  have el : lo3 (byt s i) = 160 := by unfold lo3; rw [byt_of hi]; exact if_pos (by omega)
  have eh : hi3 (byt s i) = 191 := by unfold hi3; rw [byt_of hi]; exact if_neg (by omega)
  rw [el, eh] at hd
  clear el eh
  have Hd := Lib.hid hd
  clear hd
  go_enter Tryf.func25, Tryf.ntmps25
  go_wp2_with (go_at_call 34; refine (zzCont_byte _ _).mono ?_; rintro e w' ⟨rfl, rfl⟩)
  all_goals try (
    have s1 : IntKind.i64.wrap ((i : Int) + 1) = (i : Int) + 1 := by rw [IntKind.wrap_i64]; omega
    have s2 : IntKind.i64.wrap ((i : Int) + 2) = (i : Int) + 2 := by rw [IntKind.wrap_i64]; omega
    have s3 : IntKind.i64.wrap ((i : Int) + 3) = (i : Int) + 3 := by rw [IntKind.wrap_i64]; omega
    have u1 : (0 : Int) ≤ (i : Int) + 1 := by omega
    have u2 : (0 : Int) ≤ (i : Int) + 2 := by omega
    have u3 : (0 : Int) ≤ (i : Int) + 3 := by omega
    have w1 : (i : Int) + 1 < (s.size : Int) := by omega
    have w2 : (i : Int) + 2 < (s.size : Int) := by omega
    have t1 : ((i : Int) + 1).toNat = i + 1 := by omega
    have t2 : ((i : Int) + 2).toNat = i + 2 := by omega
    have t3 : ((i : Int) + 3).toNat = i + 3 := by omega
    go_quiet (fail)
    go_wp2_with fail)
  all_goals
    rcases Hd.out with ⟨hc, e1, e2⟩ | ⟨hc, e1, e2⟩
    all_goals have k0 := byt_of hi
    all_goals try (have k1 := byt_of (s := s) (k := i + 1) (by omega))
    all_goals try (have k2 := byt_of (s := s) (k := i + 2) (by omega))
    all_goals try (have k3 := byt_of (s := s) (k := i + 3) (by omega))
    all_goals try (exfalso; omega)
    all_goals try rw [k0] at e1
    all_goals try rw [k1] at e1
    all_goals try rw [k2] at e1
    all_goals try rw [k3] at e1
    all_goals rw [e1, e2]
    all_goals clear hc e1 e2
    all_goals go_ret2
    all_goals exact ⟨pair_eq (by omega) (by omega), grow_of (by repeat (first | exact Below.refl _ _ | apply below_drew | apply below_drewN | apply below_alloc | apply below_grow))⟩

set_option maxHeartbeats 4000000 in
set_option maxRecDepth 100000 in
theorem zzDecode_three237 (s : ByteArray) (i : Nat) (w : World) (hi : i < s.size) (hs : s.size ≤ 1048576) (h1 : 224 ≤ (s[i]'hi).toNat) (h2 : (s[i]'hi).toNat < 240) (hv : (s[i]'hi).toNat = 237) :
    Calls Tryf.prog 25 #[.string s, .int .i64 i] w fun e w' => e = .returned (.tuple #[.int .i32 (rAt s i), .int .i64 (wAt s i)]) ∧ ∃ xs d, w' = grow w xs d := by
  have i0 : (0 : Int) ≤ (i : Int) := by omega
  have i1 : (i : Int) < (s.size : Int) := by omega
  have a0 : ¬ (((s[i]'hi).toNat : Int) < 128) := by omega
  have a1 : ¬ (((s[i]'hi).toNat : Int) < 194) := by omega
  have a2 : ¬ (((s[i]'hi).toNat : Int) < 224) := by omega
  have a3 : (((s[i]'hi).toNat : Int) < 240) := by omega
  have q224 : ((((s[i]'hi).toNat : Int)) == 224) = false := by simp; omega
  have q237 : ((((s[i]'hi).toNat : Int)) == 237) = true := by simp; omega
  have hd := dec3 (s := s) (i := i) (by rw [byt_of hi]; omega) (by rw [byt_of hi]; omega)
  have el : lo3 (byt s i) = 128 := by unfold lo3; rw [byt_of hi]; exact if_neg (by omega)
  have eh : hi3 (byt s i) = 159 := by unfold hi3; rw [byt_of hi]; exact if_pos (by omega)
  rw [el, eh] at hd
  clear el eh
  have Hd := Lib.hid hd
  clear hd
  go_enter Tryf.func25, Tryf.ntmps25
  go_wp2_with (go_at_call 34; refine (zzCont_byte _ _).mono ?_; rintro e w' ⟨rfl, rfl⟩)
  all_goals try (
    have s1 : IntKind.i64.wrap ((i : Int) + 1) = (i : Int) + 1 := by rw [IntKind.wrap_i64]; omega
    have s2 : IntKind.i64.wrap ((i : Int) + 2) = (i : Int) + 2 := by rw [IntKind.wrap_i64]; omega
    have s3 : IntKind.i64.wrap ((i : Int) + 3) = (i : Int) + 3 := by rw [IntKind.wrap_i64]; omega
    have u1 : (0 : Int) ≤ (i : Int) + 1 := by omega
    have u2 : (0 : Int) ≤ (i : Int) + 2 := by omega
    have u3 : (0 : Int) ≤ (i : Int) + 3 := by omega
    have w1 : (i : Int) + 1 < (s.size : Int) := by omega
    have w2 : (i : Int) + 2 < (s.size : Int) := by omega
    have t1 : ((i : Int) + 1).toNat = i + 1 := by omega
    have t2 : ((i : Int) + 2).toNat = i + 2 := by omega
    have t3 : ((i : Int) + 3).toNat = i + 3 := by omega
    go_quiet (fail)
    go_wp2_with fail)
  all_goals
    rcases Hd.out with ⟨hc, e1, e2⟩ | ⟨hc, e1, e2⟩
    all_goals have k0 := byt_of hi
    all_goals try (have k1 := byt_of (s := s) (k := i + 1) (by omega))
    all_goals try (have k2 := byt_of (s := s) (k := i + 2) (by omega))
    all_goals try (have k3 := byt_of (s := s) (k := i + 3) (by omega))
    all_goals try (exfalso; omega)
    all_goals try rw [k0] at e1
    all_goals try rw [k1] at e1
    all_goals try rw [k2] at e1
    all_goals try rw [k3] at e1
    all_goals rw [e1, e2]
    all_goals clear hc e1 e2
    all_goals go_ret2
    all_goals exact ⟨pair_eq (by omega) (by omega), grow_of (by repeat (first | exact Below.refl _ _ | apply below_drew | apply below_drewN | apply below_alloc | apply below_grow))⟩

set_option maxHeartbeats 4000000 in
set_option maxRecDepth 100000 in
theorem zzDecode_three (s : ByteArray) (i : Nat) (w : World) (hi : i < s.size) (hs : s.size ≤ 1048576) (h1 : 224 ≤ (s[i]'hi).toNat) (h2 : (s[i]'hi).toNat < 240) (hv : (s[i]'hi).toNat ≠ 224) (hv' : (s[i]'hi).toNat ≠ 237) :
    Calls Tryf.prog 25 #[.string s, .int .i64 i] w fun e w' => e = .returned (.tuple #[.int .i32 (rAt s i), .int .i64 (wAt s i)]) ∧ ∃ xs d, w' = grow w xs d := by
  have i0 : (0 : Int) ≤ (i : Int) := by omega
  have i1 : (i : Int) < (s.size : Int) := by omega
  have a0 : ¬ (((s[i]'hi).toNat : Int) < 128) := by omega
  have a1 : ¬ (((s[i]'hi).toNat : Int) < 194) := by omega
  have a2 : ¬ (((s[i]'hi).toNat : Int) < 224) := by omega
  have a3 : (((s[i]'hi).toNat : Int) < 240) := by omega
  have q224 : ((((s[i]'hi).toNat : Int)) == 224) = false := by simp; omega
  have q237 : ((((s[i]'hi).toNat : Int)) == 237) = false := by simp; omega
  have hd := dec3 (s := s) (i := i) (by rw [byt_of hi]; omega) (by rw [byt_of hi]; omega)
  have el : lo3 (byt s i) = 128 := by unfold lo3; rw [byt_of hi]; exact if_neg (by omega)
  have eh : hi3 (byt s i) = 191 := by unfold hi3; rw [byt_of hi]; exact if_neg (by omega)
  rw [el, eh] at hd
  clear el eh
  have Hd := Lib.hid hd
  clear hd
  go_enter Tryf.func25, Tryf.ntmps25
  go_wp2_with (go_at_call 34; refine (zzCont_byte _ _).mono ?_; rintro e w' ⟨rfl, rfl⟩)
  all_goals try (
    have s1 : IntKind.i64.wrap ((i : Int) + 1) = (i : Int) + 1 := by rw [IntKind.wrap_i64]; omega
    have s2 : IntKind.i64.wrap ((i : Int) + 2) = (i : Int) + 2 := by rw [IntKind.wrap_i64]; omega
    have s3 : IntKind.i64.wrap ((i : Int) + 3) = (i : Int) + 3 := by rw [IntKind.wrap_i64]; omega
    have u1 : (0 : Int) ≤ (i : Int) + 1 := by omega
    have u2 : (0 : Int) ≤ (i : Int) + 2 := by omega
    have u3 : (0 : Int) ≤ (i : Int) + 3 := by omega
    have w1 : (i : Int) + 1 < (s.size : Int) := by omega
    have w2 : (i : Int) + 2 < (s.size : Int) := by omega
    have t1 : ((i : Int) + 1).toNat = i + 1 := by omega
    have t2 : ((i : Int) + 2).toNat = i + 2 := by omega
    have t3 : ((i : Int) + 3).toNat = i + 3 := by omega
    go_quiet (fail)
    go_wp2_with fail)
  all_goals
    rcases Hd.out with ⟨hc, e1, e2⟩ | ⟨hc, e1, e2⟩
    all_goals have k0 := byt_of hi
    all_goals try (have k1 := byt_of (s := s) (k := i + 1) (by omega))
    all_goals try (have k2 := byt_of (s := s) (k := i + 2) (by omega))
    all_goals try (have k3 := byt_of (s := s) (k := i + 3) (by omega))
    all_goals try (exfalso; omega)
    all_goals try rw [k0] at e1
    all_goals try rw [k1] at e1
    all_goals try rw [k2] at e1
    all_goals try rw [k3] at e1
    all_goals rw [e1, e2]
    all_goals clear hc e1 e2
    all_goals go_ret2
    all_goals exact ⟨pair_eq (by omega) (by omega), grow_of (by repeat (first | exact Below.refl _ _ | apply below_drew | apply below_drewN | apply below_alloc | apply below_grow))⟩

end Go.Proofs.YteicfaehbndlcaaFmt
