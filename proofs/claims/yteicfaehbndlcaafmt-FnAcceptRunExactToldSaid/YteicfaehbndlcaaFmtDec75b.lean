/-
  Walk: n003_75's own decoder is the model's (its four-byte arm, and all arms together).
-/
import Derived.Test.YteicfaehbndlcaaFmtDec75
namespace Go.Proofs.YteicfaehbndlcaaFmt
open Go Go.Lib Go.RowKit Go.Proofs

set_option maxHeartbeats 4000000 in
set_option maxRecDepth 100000 in
theorem zzDecode_four240 (s : ByteArray) (i : Nat) (w : World) (hi : i < s.size) (hs : s.size ≤ 1048576) (h1 : 240 ≤ (s[i]'hi).toNat) (h2 : (s[i]'hi).toNat < 245) (hv : (s[i]'hi).toNat = 240) :
    Calls Tryf.prog 25 #[.string s, .int .i64 i] w fun e w' => e = .returned (.tuple #[.int .i32 (rAt s i), .int .i64 (wAt s i)]) ∧ ∃ xs d, w' = grow w xs d := by
  have i0 : (0 : Int) ≤ (i : Int) := by omega
  have i1 : (i : Int) < (s.size : Int) := by omega
  have a0 : ¬ (((s[i]'hi).toNat : Int) < 128) := by omega
  have a1 : ¬ (((s[i]'hi).toNat : Int) < 194) := by omega
  have a2 : ¬ (((s[i]'hi).toNat : Int) < 224) := by omega
  have a3 : ¬ (((s[i]'hi).toNat : Int) < 240) := by omega
  have a4 : (((s[i]'hi).toNat : Int) < 245) := by omega
  have q240 : ((((s[i]'hi).toNat : Int)) == 240) = true := by simp; omega
  have q244 : ((((s[i]'hi).toNat : Int)) == 244) = false := by simp; omega
  have hd := dec4 (s := s) (i := i) (by rw [byt_of hi]; omega) (by rw [byt_of hi]; omega)
  have el : lo4 (byt s i) = 144 := by unfold lo4; rw [byt_of hi]; exact if_pos (by omega)
  have eh : hi4 (byt s i) = 191 := by unfold hi4; rw [byt_of hi]; exact if_neg (by omega)
  rw [el, eh] at hd
  clear el eh
  have Hd := Lib.hid hd
  clear hd
  go_enter Tryf.func25, Tryf.ntmps25
  go_wp2_with (go_at_call 34; refine (zzCont_byte _ _).mono ?_; rintro e w' ⟨rfl, rfl⟩)
  all_goals try (
    have s1 : IntKind.i64.wrap ((i : Int) + 1) = (i : Int) + 1 := by rw [IntKind.wrap_i64]; omega
    have s2 : IntKind.i64.wrap ((i : Int) + 2) = (i : Int) + 2 := by rw [IntKind.wrap_i64]; omega
    have s3 : IntKind.i64.wrap ((i : Int) + 3) = (i : Int) + 3 := by rw [IntKind.wrap_i64]; omega
    have u1 : (0 : Int) ≤ (i : Int) + 1 := by omega
    have u2 : (0 : Int) ≤ (i : Int) + 2 := by omega
    have u3 : (0 : Int) ≤ (i : Int) + 3 := by omega
    have w1 : (i : Int) + 1 < (s.size : Int) := by omega
    have w2 : (i : Int) + 2 < (s.size : Int) := by omega
    have t1 : ((i : Int) + 1).toNat = i + 1 := by omega
    have t2 : ((i : Int) + 2).toNat = i + 2 := by omega
    have t3 : ((i : Int) + 3).toNat = i + 3 := by omega
    go_quiet (fail)
    go_wp2_with fail)
  all_goals
    rcases Hd.out with ⟨hc, e1, e2⟩ | ⟨hc, e1, e2⟩
    all_goals have k0 := byt_of hi
    all_goals try (have k1 := byt_of (s := s) (k := i + 1) (by omega))
    all_goals try (have k2 := byt_of (s := s) (k := i + 2) (by omega))
    all_goals try (have k3 := byt_of (s := s) (k := i + 3) (by omega))
    all_goals try (exfalso; omega)
    all_goals try rw [k0] at e1
    all_goals try rw [k1] at e1
    all_goals try rw [k2] at e1
    all_goals try rw [k3] at e1
    all_goals rw [e1, e2]
    all_goals clear hc e1 e2
    all_goals go_ret2
    all_goals exact ⟨pair_eq (by omega) (by omega), grow_of (by repeat (first | exact Below.refl _ _ | apply below_drew | apply below_drewN | apply below_alloc | apply below_grow))⟩

set_option maxHeartbeats 4000000 in
set_option maxRecDepth 100000 in
theorem zzDecode_four244 (s : ByteArray) (i : Nat) (w : World) (hi : i < s.size) (hs : s.size ≤ 1048576) (h1 : 240 ≤ (s[i]'hi).toNat) (h2 : (s[i]'hi).toNat < 245) (hv : (s[i]'hi).toNat = 244) :
    Calls Tryf.prog 25 #[.string s, .int .i64 i] w fun e w' => e = .returned (.tuple #[.int .i32 (rAt s i), .int .i64 (wAt s i)]) ∧ ∃ xs d, w' = grow w xs d := by
  have i0 : (0 : Int) ≤ (i : Int) := by omega
  have i1 : (i : Int) < (s.size : Int) := by omega
  have a0 : ¬ (((s[i]'hi).toNat : Int) < 128) := by omega
  have a1 : ¬ (((s[i]'hi).toNat : Int) < 194) := by omega
  have a2 : ¬ (((s[i]'hi).toNat : Int) < 224) := by omega
  have a3 : ¬ (((s[i]'hi).toNat : Int) < 240) := by omega
  have a4 : (((s[i]'hi).toNat : Int) < 245) := by omega
  have q240 : ((((s[i]'hi).toNat : Int)) == 240) = false := by simp; omega
  have q244 : ((((s[i]'hi).toNat : Int)) == 244) = true := by simp; omega
  have hd := dec4 (s := s) (i := i) (by rw [byt_of hi]; omega) (by rw [byt_of hi]; omega)
  have el : lo4 (byt s i) = 128 := by unfold lo4; rw [byt_of hi]; exact if_neg (by omega)
  have eh : hi4 (byt s i) = 143 := by unfold hi4; rw [byt_of hi]; exact if_pos (by omega)
  rw [el, eh] at hd
  clear el eh
  have Hd := Lib.hid hd
  clear hd
  go_enter Tryf.func25, Tryf.ntmps25
  go_wp2_with (go_at_call 34; refine (zzCont_byte _ _).mono ?_; rintro e w' ⟨rfl, rfl⟩)
  all_goals try (
    have s1 : IntKind.i64.wrap ((i : Int) + 1) = (i : Int) + 1 := by rw [IntKind.wrap_i64]; omega
    have s2 : IntKind.i64.wrap ((i : Int) + 2) = (i : Int) + 2 := by rw [IntKind.wrap_i64]; omega
    have s3 : IntKind.i64.wrap ((i : Int) + 3) = (i : Int) + 3 := by rw [IntKind.wrap_i64]; omega
    have u1 : (0 : Int) ≤ (i : Int) + 1 := by omega
    have u2 : (0 : Int) ≤ (i : Int) + 2 := by omega
    have u3 : (0 : Int) ≤ (i : Int) + 3 := by omega
    have w1 : (i : Int) + 1 < (s.size : Int) := by omega
    have w2 : (i : Int) + 2 < (s.size : Int) := by omega
    have t1 : ((i : Int) + 1).toNat = i + 1 := by omega
    have t2 : ((i : Int) + 2).toNat = i + 2 := by omega
    have t3 : ((i : Int) + 3).toNat = i + 3 := by omega
    go_quiet (fail)
    go_wp2_with fail)
  all_goals
    rcases Hd.out with ⟨hc, e1, e2⟩ | ⟨hc, e1, e2⟩
    all_goals have k0 := byt_of hi
    all_goals try (have k1 := byt_of (s := s) (k := i + 1) (by omega))
    all_goals try (have k2 := byt_of (s := s) (k := i + 2) (by omega))
    all_goals try (have k3 := byt_of (s := s) (k := i + 3) (by omega))
    all_goals try (exfalso; omega)
    all_goals try rw [k0] at e1
    all_goals try rw [k1] at e1
    all_goals try rw [k2] at e1
    all_goals try rw [k3] at e1
    all_goals rw [e1, e2]
    all_goals clear hc e1 e2
    all_goals go_ret2
    all_goals exact ⟨pair_eq (by omega) (by omega), grow_of (by repeat (first | exact Below.refl _ _ | apply below_drew | apply below_drewN | apply below_alloc | apply below_grow))⟩

set_option maxHeartbeats 4000000 in
set_option maxRecDepth 100000 in
theorem zzDecode_four (s : ByteArray) (i : Nat) (w : World) (hi : i < s.size) (hs : s.size ≤ 1048576) (h1 : 240 ≤ (s[i]'hi).toNat) (h2 : (s[i]'hi).toNat < 245) (hv : (s[i]'hi).toNat ≠ 240) (hv' : (s[i]'hi).toNat ≠ 244) :
    Calls Tryf.prog 25 #[.string s, .int .i64 i] w fun e w' => e = .returned (.tuple #[.int .i32 (rAt s i), .int .i64 (wAt s i)]) ∧ ∃ xs d, w' = grow w xs d := by
  have i0 : (0 : Int) ≤ (i : Int) := by omega
  have i1 : (i : Int) < (s.size : Int) := by omega
  have a0 : ¬ (((s[i]'hi).toNat : Int) < 128) := by omega
  have a1 : ¬ (((s[i]'hi).toNat : Int) < 194) := by omega
  have a2 : ¬ (((s[i]'hi).toNat : Int) < 224) := by omega
  have a3 : ¬ (((s[i]'hi).toNat : Int) < 240) := by omega
  have a4 : (((s[i]'hi).toNat : Int) < 245) := by omega
  have q240 : ((((s[i]'hi).toNat : Int)) == 240) = false := by simp; omega
  have q244 : ((((s[i]'hi).toNat : Int)) == 244) = false := by simp; omega
  have hd := dec4 (s := s) (i := i) (by rw [byt_of hi]; omega) (by rw [byt_of hi]; omega)
  have el : lo4 (byt s i) = 128 := by unfold lo4; rw [byt_of hi]; exact if_neg (by omega)
  have eh : hi4 (byt s i) = 191 := by unfold hi4; rw [byt_of hi]; exact if_neg (by omega)
  rw [el, eh] at hd
  clear el eh
  have Hd := Lib.hid hd
  clear hd
  go_enter Tryf.func25, Tryf.ntmps25
  go_wp2_with (go_at_call 34; refine (zzCont_byte _ _).mono ?_; rintro e w' ⟨rfl, rfl⟩)
  all_goals try (
    have s1 : IntKind.i64.wrap ((i : Int) + 1) = (i : Int) + 1 := by rw [IntKind.wrap_i64]; omega
    have s2 : IntKind.i64.wrap ((i : Int) + 2) = (i : Int) + 2 := by rw [IntKind.wrap_i64]; omega
    have s3 : IntKind.i64.wrap ((i : Int) + 3) = (i : Int) + 3 := by rw [IntKind.wrap_i64]; omega
    have u1 : (0 : Int) ≤ (i : Int) + 1 := by omega
    have u2 : (0 : Int) ≤ (i : Int) + 2 := by omega
    have u3 : (0 : Int) ≤ (i : Int) + 3 := by omega
    have w1 : (i : Int) + 1 < (s.size : Int) := by omega
    have w2 : (i : Int) + 2 < (s.size : Int) := by omega
    have t1 : ((i : Int) + 1).toNat = i + 1 := by omega
    have t2 : ((i : Int) + 2).toNat = i + 2 := by omega
    have t3 : ((i : Int) + 3).toNat = i + 3 := by omega
    go_quiet (fail)
    go_wp2_with fail)
  all_goals
    rcases Hd.out with ⟨hc, e1, e2⟩ | ⟨hc, e1, e2⟩
    all_goals have k0 := byt_of hi
    all_goals try (have k1 := byt_of (s := s) (k := i + 1) (by omega))
    all_goals try (have k2 := byt_of (s := s) (k := i + 2) (by omega))
    all_goals try (have k3 := byt_of (s := s) (k := i + 3) (by omega))
    all_goals try (exfalso; omega)
    all_goals try rw [k0] at e1
    all_goals try rw [k1] at e1
    all_goals try rw [k2] at e1
    all_goals try rw [k3] at e1
    all_goals rw [e1, e2]
    all_goals clear hc e1 e2
    all_goals go_ret2
    all_goals exact ⟨pair_eq (by omega) (by omega), grow_of (by repeat (first | exact Below.refl _ _ | apply below_drew | apply below_drewN | apply below_alloc | apply below_grow))⟩


set_option maxRecDepth 100000 in
theorem zzDecode_one (s : ByteArray) (i : Nat) (w : World) (hi : i < s.size) (hs : s.size ≤ 1048576) (h1 : (s[i]'hi).toNat < 128) :
    Calls Tryf.prog 25 #[.string s, .int .i64 i] w fun e w' => e = .returned (.tuple #[.int .i32 (rAt s i), .int .i64 (wAt s i)]) ∧ ∃ xs d, w' = grow w xs d := by
  have i0 : (0 : Int) ≤ (i : Int) := by omega
  have i1 : (i : Int) < (s.size : Int) := by omega
  have a0 : (((s[i]'hi).toNat : Int) < 128) := by omega
  have hd := dec1 (s := s) (i := i) (by rw [byt_of hi]; omega)
  rw [hd.1, hd.2]
  clear hd
  go_enter Tryf.func25, Tryf.ntmps25
  go_wp2_with fail
  go_ret2
  exact ⟨pair_eq (by first | rfl | rw [byt_of hi]) rfl, grow_of (by repeat (first | exact Below.refl _ _ | apply below_drew | apply below_drewN | apply below_alloc | apply below_grow))⟩

set_option maxRecDepth 100000 in
theorem zzDecode_lo (s : ByteArray) (i : Nat) (w : World) (hi : i < s.size) (hs : s.size ≤ 1048576) (h0 : 128 ≤ (s[i]'hi).toNat) (h1 : (s[i]'hi).toNat < 194) :
    Calls Tryf.prog 25 #[.string s, .int .i64 i] w fun e w' => e = .returned (.tuple #[.int .i32 (rAt s i), .int .i64 (wAt s i)]) ∧ ∃ xs d, w' = grow w xs d := by
  have i0 : (0 : Int) ≤ (i : Int) := by omega
  have i1 : (i : Int) < (s.size : Int) := by omega
  have a0 : ¬ (((s[i]'hi).toNat : Int) < 128) := by omega
  have a1 : (((s[i]'hi).toNat : Int) < 194) := by omega
  have hd := dec_lo (s := s) (i := i) (by rw [byt_of hi]; omega) (by rw [byt_of hi]; omega)
  rw [hd.1, hd.2]
  clear hd
  go_enter Tryf.func25, Tryf.ntmps25
  go_wp2_with fail
  go_ret2
  exact ⟨pair_eq (by first | rfl | rw [byt_of hi]) rfl, grow_of (by repeat (first | exact Below.refl _ _ | apply below_drew | apply below_drewN | apply below_alloc | apply below_grow))⟩

set_option maxRecDepth 100000 in
theorem zzDecode_hi (s : ByteArray) (i : Nat) (w : World) (hi : i < s.size) (hs : s.size ≤ 1048576) (h1 : 245 ≤ (s[i]'hi).toNat) :
    Calls Tryf.prog 25 #[.string s, .int .i64 i] w fun e w' => e = .returned (.tuple #[.int .i32 (rAt s i), .int .i64 (wAt s i)]) ∧ ∃ xs d, w' = grow w xs d := by
  have i0 : (0 : Int) ≤ (i : Int) := by omega
  have i1 : (i : Int) < (s.size : Int) := by omega
  have a0 : ¬ (((s[i]'hi).toNat : Int) < 128) := by omega
  have a1 : ¬ (((s[i]'hi).toNat : Int) < 194) := by omega
  have a2 : ¬ (((s[i]'hi).toNat : Int) < 224) := by omega
  have a3 : ¬ (((s[i]'hi).toNat : Int) < 240) := by omega
  have a4 : ¬ (((s[i]'hi).toNat : Int) < 245) := by omega
  have hd := dec_hi (s := s) (i := i) (by rw [byt_of hi]; omega)
  rw [hd.1, hd.2]
  clear hd
  go_enter Tryf.func25, Tryf.ntmps25
  go_wp2_with fail
  go_ret2
  exact ⟨pair_eq (by first | rfl | rw [byt_of hi]) rfl, grow_of (by repeat (first | exact Below.refl _ _ | apply below_drew | apply below_drewN | apply below_alloc | apply below_grow))⟩

theorem zzDecode_any (s : ByteArray) (i : Nat) (w : World) (hi : i < s.size) (hs : s.size ≤ 1048576) :
    Calls Tryf.prog 25 #[.string s, .int .i64 i] w fun e w' => e = .returned (.tuple #[.int .i32 (rAt s i), .int .i64 (wAt s i)]) ∧ ∃ xs d, w' = grow w xs d := by
  by_cases h1 : (s[i]'hi).toNat < 128
  · exact zzDecode_one s i w hi hs h1
  by_cases h2 : (s[i]'hi).toNat < 194
  · exact zzDecode_lo s i w hi hs (by omega) h2
  by_cases h3 : (s[i]'hi).toNat < 224
  · exact zzDecode_two s i w hi hs (by omega) h3
  by_cases h4 : (s[i]'hi).toNat < 240
  · by_cases e1 : (s[i]'hi).toNat = 224
    · exact zzDecode_three224 s i w hi hs (by omega) h4 e1
    · by_cases e2 : (s[i]'hi).toNat = 237
      · exact zzDecode_three237 s i w hi hs (by omega) h4 e2
      · exact zzDecode_three s i w hi hs (by omega) h4 e1 e2
  by_cases h5 : (s[i]'hi).toNat < 245
  · by_cases e1 : (s[i]'hi).toNat = 240
    · exact zzDecode_four240 s i w hi hs (by omega) h5 e1
    · by_cases e2 : (s[i]'hi).toNat = 244
      · exact zzDecode_four244 s i w hi hs (by omega) h5 e2
      · exact zzDecode_four s i w hi hs (by omega) h5 e1 e2
  · exact zzDecode_hi s i w hi hs (by omega)

end Go.Proofs.YteicfaehbndlcaaFmt
