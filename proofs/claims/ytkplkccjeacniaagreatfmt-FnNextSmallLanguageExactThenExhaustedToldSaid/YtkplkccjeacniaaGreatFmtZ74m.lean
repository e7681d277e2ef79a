/-
  Walks of what the laws of n003_74 call: letters, signs, keywords, the small language (printed by gensmall.py).
-/
import Derived.Test.YtkplkccjeacniaaGreatFmtZ74h
import Derived.Test.YtkplkccjeacniaaGreatFmtP74
namespace Go.Proofs.YtkplkccjeacniaaGreatFmt
open Go Go.Lib Go.RowKit Go.Proofs
open Go.Extern.Stop Go.Stop Go.Extern

/-- A yes or no; the world has grown at most. -/
def SaysD (P : Bool → Prop) (w : World) (e : Ending) (w' : World) : Prop := ∃ b, e = .returned (.bool b) ∧ P b ∧ Below w.heap.size w w'
theorem saysD_ret {P : Bool → Prop} {w w' : World} {b : Bool} (h : P b) (hb : Below w.heap.size w w') : SaysD P w (.returned (.bool b)) w' := ⟨b, rfl, h, hb⟩

set_option maxHeartbeats 2000000 in
set_option maxRecDepth 100000 in
theorem zzIsLetter_any (n : Nat) (hn : n < 256) (w : World) : Calls Tryz.prog 33 #[.int .u8 (n : Nat)] w fun e w' => e = .returned (.bool (isLet n)) ∧ w = w' := by
  by_cases h1 : (97 : Int) ≤ (n : Int) <;> by_cases h2 : (n : Int) ≤ 122 <;> by_cases h3 : (65 : Int) ≤ (n : Int) <;> by_cases h4 : (n : Int) ≤ 90
  all_goals first
    | (exfalso; omega)
    | (have e : isLet n = true := by rw [let_iff]; omega
       rw [e]
       clear e
       go_enter Tryz.func33, Tryz.ntmps33
       go_wp2_with fail
       go_ret
       exact ⟨rfl, rfl⟩)
    | (have e : isLet n = false := by rw [← Bool.not_eq_true, let_iff]; omega
       rw [e]
       clear e
       go_enter Tryz.func33, Tryz.ntmps33
       go_wp2_with fail
       go_ret
       exact ⟨rfl, rfl⟩)

/-- What zzPunct answers. -/
def kindZ (n : Nat) : ByteArray := if isBra n then kBracket else if isSgn n then kOperator else ⟨#[]⟩
set_option maxHeartbeats 4000000 in
set_option maxRecDepth 100000 in
theorem zzPunct_any (n : Nat) (hn : n < 256) (w : World) : Calls Tryz.prog 34 #[.int .u8 (n : Nat)] w fun e w' => e = .returned (.tuple #[.string (kindZ n), .bool (isBra n || isSgn n)]) ∧ w = w' := by
  by_cases c40 : n = 40
  · subst c40
    go_enter Tryz.func34, Tryz.ntmps34
    go_wp2_with fail
    go_ret2
    exact ⟨rfl, rfl⟩
  by_cases c41 : n = 41
  · subst c41
    go_enter Tryz.func34, Tryz.ntmps34
    go_wp2_with fail
    go_ret2
    exact ⟨rfl, rfl⟩
  by_cases c91 : n = 91
  · subst c91
    go_enter Tryz.func34, Tryz.ntmps34
    go_wp2_with fail
    go_ret2
    exact ⟨rfl, rfl⟩
  by_cases c93 : n = 93
  · subst c93
    go_enter Tryz.func34, Tryz.ntmps34
    go_wp2_with fail
    go_ret2
    exact ⟨rfl, rfl⟩
  by_cases c123 : n = 123
  · subst c123
    go_enter Tryz.func34, Tryz.ntmps34
    go_wp2_with fail
    go_ret2
    exact ⟨rfl, rfl⟩
  by_cases c125 : n = 125
  · subst c125
    go_enter Tryz.func34, Tryz.ntmps34
    go_wp2_with fail
    go_ret2
    exact ⟨rfl, rfl⟩
  by_cases c44 : n = 44
  · subst c44
    go_enter Tryz.func34, Tryz.ntmps34
    go_wp2_with fail
    go_ret2
    exact ⟨rfl, rfl⟩
  by_cases c59 : n = 59
  · subst c59
    go_enter Tryz.func34, Tryz.ntmps34
    go_wp2_with fail
    go_ret2
    exact ⟨rfl, rfl⟩
  by_cases c37 : n = 37
  · subst c37
    go_enter Tryz.func34, Tryz.ntmps34
    go_wp2_with fail
    go_ret2
    exact ⟨rfl, rfl⟩
  by_cases c43 : n = 43
  · subst c43
    go_enter Tryz.func34, Tryz.ntmps34
    go_wp2_with fail
    go_ret2
    exact ⟨rfl, rfl⟩
  by_cases c45 : n = 45
  · subst c45
    go_enter Tryz.func34, Tryz.ntmps34
    go_wp2_with fail
    go_ret2
    exact ⟨rfl, rfl⟩
  by_cases c94 : n = 94
  · subst c94
    go_enter Tryz.func34, Tryz.ntmps34
    go_wp2_with fail
    go_ret2
    exact ⟨rfl, rfl⟩
  have e40 : ((n : Int) == 40) = false := by rw [beq_eq_false_iff_ne]; omega
  have e41 : ((n : Int) == 41) = false := by rw [beq_eq_false_iff_ne]; omega
  have e91 : ((n : Int) == 91) = false := by rw [beq_eq_false_iff_ne]; omega
  have e93 : ((n : Int) == 93) = false := by rw [beq_eq_false_iff_ne]; omega
  have e123 : ((n : Int) == 123) = false := by rw [beq_eq_false_iff_ne]; omega
  have e125 : ((n : Int) == 125) = false := by rw [beq_eq_false_iff_ne]; omega
  have e44 : ((n : Int) == 44) = false := by rw [beq_eq_false_iff_ne]; omega
  have e59 : ((n : Int) == 59) = false := by rw [beq_eq_false_iff_ne]; omega
  have e37 : ((n : Int) == 37) = false := by rw [beq_eq_false_iff_ne]; omega
  have e43 : ((n : Int) == 43) = false := by rw [beq_eq_false_iff_ne]; omega
  have e45 : ((n : Int) == 45) = false := by rw [beq_eq_false_iff_ne]; omega
  have e94 : ((n : Int) == 94) = false := by rw [beq_eq_false_iff_ne]; omega
  have b1 : isBra n = false := by rw [← Bool.not_eq_true, bra_iff]; omega
  have b2 : isSgn n = false := by rw [← Bool.not_eq_true, sgn_iff]; omega
  have e : kindZ n = ⟨#[]⟩ := by unfold kindZ; rw [b1, b2]; rfl
  rw [e, b1, b2]
  clear e b1 b2 c40 c41 c91 c93 c123 c125 c44 c59 c37 c43 c45 c94
  go_enter Tryz.func34, Tryz.ntmps34
  go_wp2_with fail
  go_ret2
  exact ⟨rfl, rfl⟩

set_option maxHeartbeats 4000000 in
set_option maxRecDepth 100000 in
theorem zzIsKeyword_any (v : ByteArray) (d : Bool) (w : World) : Calls Tryz.prog 35 #[.string v, .bool d] w fun e w' => e = .returned (.bool (isKw d v)) ∧ w = w' := by
  by_cases k0 : v = kwNot
  · have hkw : kwOf v = .kNot := by unfold kwOf; rw [if_pos k0]
    have hr : isKw d v = true := by unfold isKw; rw [hkw]
    rw [hr]
    have f0 := str_eq (l := [110, 111, 116]) k0
    clear hr hkw k0
    go_enter Tryz.func35, Tryz.ntmps35
    go_wp2_with fail
    go_ret
    exact ⟨rfl, rfl⟩
  by_cases k1 : v = kwIn
  · have hkw : kwOf v = .op := by unfold kwOf; rw [if_neg k0]; rw [if_pos k1]
    have hr : isKw d v = true := by unfold isKw; rw [hkw]
    rw [hr]
    have f0 := str_ne (l := [110, 111, 116]) k0
    have f1 := str_eq (l := [105, 110]) k1
    clear hr hkw k0 k1
    go_enter Tryz.func35, Tryz.ntmps35
    go_wp2_with fail
    go_ret
    exact ⟨rfl, rfl⟩
  by_cases k2 : v = kwOr
  · have hkw : kwOf v = .op := by unfold kwOf; rw [if_neg k0]; rw [if_neg k1]; rw [if_pos k2]
    have hr : isKw d v = true := by unfold isKw; rw [hkw]
    rw [hr]
    have f0 := str_ne (l := [110, 111, 116]) k0
    have f1 := str_ne (l := [105, 110]) k1
    have f2 := str_eq (l := [111, 114]) k2
    clear hr hkw k0 k1 k2
    go_enter Tryz.func35, Tryz.ntmps35
    go_wp2_with fail
    go_ret
    exact ⟨rfl, rfl⟩
  by_cases k3 : v = kwAnd
  · have hkw : kwOf v = .op := by unfold kwOf; rw [if_neg k0]; rw [if_neg k1]; rw [if_neg k2]; rw [if_pos k3]
    have hr : isKw d v = true := by unfold isKw; rw [hkw]
    rw [hr]
    have f0 := str_ne (l := [110, 111, 116]) k0
    have f1 := str_ne (l := [105, 110]) k1
    have f2 := str_ne (l := [111, 114]) k2
    have f3 := str_eq (l := [97, 110, 100]) k3
    clear hr hkw k0 k1 k2 k3
    go_enter Tryz.func35, Tryz.ntmps35
    go_wp2_with fail
    go_ret
    exact ⟨rfl, rfl⟩
  by_cases k4 : v = kwMatches
  · have hkw : kwOf v = .op := by unfold kwOf; rw [if_neg k0]; rw [if_neg k1]; rw [if_neg k2]; rw [if_neg k3]; rw [if_pos k4]
    have hr : isKw d v = true := by unfold isKw; rw [hkw]
    rw [hr]
    have f0 := str_ne (l := [110, 111, 116]) k0
    have f1 := str_ne (l := [105, 110]) k1
    have f2 := str_ne (l := [111, 114]) k2
    have f3 := str_ne (l := [97, 110, 100]) k3
    have f4 := str_eq (l := [109, 97, 116, 99, 104, 101, 115]) k4
    clear hr hkw k0 k1 k2 k3 k4
    go_enter Tryz.func35, Tryz.ntmps35
    go_wp2_with fail
    go_ret
    exact ⟨rfl, rfl⟩
  by_cases k5 : v = kwContains
  · have hkw : kwOf v = .op := by unfold kwOf; rw [if_neg k0]; rw [if_neg k1]; rw [if_neg k2]; rw [if_neg k3]; rw [if_neg k4]; rw [if_pos k5]
    have hr : isKw d v = true := by unfold isKw; rw [hkw]
    rw [hr]
    have f0 := str_ne (l := [110, 111, 116]) k0
    have f1 := str_ne (l := [105, 110]) k1
    have f2 := str_ne (l := [111, 114]) k2
    have f3 := str_ne (l := [97, 110, 100]) k3
    have f4 := str_ne (l := [109, 97, 116, 99, 104, 101, 115]) k4
    have f5 := str_eq (l := [99, 111, 110, 116, 97, 105, 110, 115]) k5
    clear hr hkw k0 k1 k2 k3 k4 k5
    go_enter Tryz.func35, Tryz.ntmps35
    go_wp2_with fail
    go_ret
    exact ⟨rfl, rfl⟩
  by_cases k6 : v = kwStartsWith
  · have hkw : kwOf v = .op := by unfold kwOf; rw [if_neg k0]; rw [if_neg k1]; rw [if_neg k2]; rw [if_neg k3]; rw [if_neg k4]; rw [if_neg k5]; rw [if_pos k6]
    have hr : isKw d v = true := by unfold isKw; rw [hkw]
    rw [hr]
    have f0 := str_ne (l := [110, 111, 116]) k0
    have f1 := str_ne (l := [105, 110]) k1
    have f2 := str_ne (l := [111, 114]) k2
    have f3 := str_ne (l := [97, 110, 100]) k3
    have f4 := str_ne (l := [109, 97, 116, 99, 104, 101, 115]) k4
    have f5 := str_ne (l := [99, 111, 110, 116, 97, 105, 110, 115]) k5
    have f6 := str_eq (l := [115, 116, 97, 114, 116, 115, 87, 105, 116, 104]) k6
    clear hr hkw k0 k1 k2 k3 k4 k5 k6
    go_enter Tryz.func35, Tryz.ntmps35
    go_wp2_with fail
    go_ret
    exact ⟨rfl, rfl⟩
  by_cases k7 : v = kwEndsWith
  · have hkw : kwOf v = .op := by unfold kwOf; rw [if_neg k0]; rw [if_neg k1]; rw [if_neg k2]; rw [if_neg k3]; rw [if_neg k4]; rw [if_neg k5]; rw [if_neg k6]; rw [if_pos k7]
    have hr : isKw d v = true := by unfold isKw; rw [hkw]
    rw [hr]
    have f0 := str_ne (l := [110, 111, 116]) k0
    have f1 := str_ne (l := [105, 110]) k1
    have f2 := str_ne (l := [111, 114]) k2
    have f3 := str_ne (l := [97, 110, 100]) k3
    have f4 := str_ne (l := [109, 97, 116, 99, 104, 101, 115]) k4
    have f5 := str_ne (l := [99, 111, 110, 116, 97, 105, 110, 115]) k5
    have f6 := str_ne (l := [115, 116, 97, 114, 116, 115, 87, 105, 116, 104]) k6
    have f7 := str_eq (l := [101, 110, 100, 115, 87, 105, 116, 104]) k7
    clear hr hkw k0 k1 k2 k3 k4 k5 k6 k7
    go_enter Tryz.func35, Tryz.ntmps35
    go_wp2_with fail
    go_ret
    exact ⟨rfl, rfl⟩
  by_cases k8 : v = kwLet
  · have hkw : kwOf v = .op := by unfold kwOf; rw [if_neg k0]; rw [if_neg k1]; rw [if_neg k2]; rw [if_neg k3]; rw [if_neg k4]; rw [if_neg k5]; rw [if_neg k6]; rw [if_neg k7]; rw [if_pos k8]
    have hr : isKw d v = true := by unfold isKw; rw [hkw]
    rw [hr]
    have f0 := str_ne (l := [110, 111, 116]) k0
    have f1 := str_ne (l := [105, 110]) k1
    have f2 := str_ne (l := [111, 114]) k2
    have f3 := str_ne (l := [97, 110, 100]) k3
    have f4 := str_ne (l := [109, 97, 116, 99, 104, 101, 115]) k4
    have f5 := str_ne (l := [99, 111, 110, 116, 97, 105, 110, 115]) k5
    have f6 := str_ne (l := [115, 116, 97, 114, 116, 115, 87, 105, 116, 104]) k6
    have f7 := str_ne (l := [101, 110, 100, 115, 87, 105, 116, 104]) k7
    have f8 := str_eq (l := [108, 101, 116]) k8
    clear hr hkw k0 k1 k2 k3 k4 k5 k6 k7 k8
    go_enter Tryz.func35, Tryz.ntmps35
    go_wp2_with fail
    go_ret
    exact ⟨rfl, rfl⟩
  by_cases k9 : v = kwIf
  · have hkw : kwOf v = .cond := by unfold kwOf; rw [if_neg k0]; rw [if_neg k1]; rw [if_neg k2]; rw [if_neg k3]; rw [if_neg k4]; rw [if_neg k5]; rw [if_neg k6]; rw [if_neg k7]; rw [if_neg k8]; rw [if_pos k9]
    have hr : isKw d v = (!d) := by unfold isKw; rw [hkw]
    rw [hr]
    have f0 := str_ne (l := [110, 111, 116]) k0
    have f1 := str_ne (l := [105, 110]) k1
    have f2 := str_ne (l := [111, 114]) k2
    have f3 := str_ne (l := [97, 110, 100]) k3
    have f4 := str_ne (l := [109, 97, 116, 99, 104, 101, 115]) k4
    have f5 := str_ne (l := [99, 111, 110, 116, 97, 105, 110, 115]) k5
    have f6 := str_ne (l := [115, 116, 97, 114, 116, 115, 87, 105, 116, 104]) k6
    have f7 := str_ne (l := [101, 110, 100, 115, 87, 105, 116, 104]) k7
    have f8 := str_ne (l := [108, 101, 116]) k8
    have f9 := str_eq (l := [105, 102]) k9
    clear hr hkw k0 k1 k2 k3 k4 k5 k6 k7 k8 k9
    go_enter Tryz.func35, Tryz.ntmps35
    go_wp2_with fail
    go_ret
    exact ⟨rfl, rfl⟩
  by_cases k10 : v = kwElse
  · have hkw : kwOf v = .cond := by unfold kwOf; rw [if_neg k0]; rw [if_neg k1]; rw [if_neg k2]; rw [if_neg k3]; rw [if_neg k4]; rw [if_neg k5]; rw [if_neg k6]; rw [if_neg k7]; rw [if_neg k8]; rw [if_neg k9]; rw [if_pos k10]
    have hr : isKw d v = (!d) := by unfold isKw; rw [hkw]
    rw [hr]
    have f0 := str_ne (l := [110, 111, 116]) k0
    have f1 := str_ne (l := [105, 110]) k1
    have f2 := str_ne (l := [111, 114]) k2
    have f3 := str_ne (l := [97, 110, 100]) k3
    have f4 := str_ne (l := [109, 97, 116, 99, 104, 101, 115]) k4
    have f5 := str_ne (l := [99, 111, 110, 116, 97, 105, 110, 115]) k5
    have f6 := str_ne (l := [115, 116, 97, 114, 116, 115, 87, 105, 116, 104]) k6
    have f7 := str_ne (l := [101, 110, 100, 115, 87, 105, 116, 104]) k7
    have f8 := str_ne (l := [108, 101, 116]) k8
    have f9 := str_ne (l := [105, 102]) k9
    have f10 := str_eq (l := [101, 108, 115, 101]) k10
    clear hr hkw k0 k1 k2 k3 k4 k5 k6 k7 k8 k9 k10
    go_enter Tryz.func35, Tryz.ntmps35
    go_wp2_with fail
    go_ret
    exact ⟨rfl, rfl⟩
  have hkw : kwOf v = .other := by unfold kwOf; rw [if_neg k0]; rw [if_neg k1]; rw [if_neg k2]; rw [if_neg k3]; rw [if_neg k4]; rw [if_neg k5]; rw [if_neg k6]; rw [if_neg k7]; rw [if_neg k8]; rw [if_neg k9]; rw [if_neg k10]
  have hr : isKw d v = false := by unfold isKw; rw [hkw]
  rw [hr]
  have f0 := str_ne (l := [110, 111, 116]) k0
  have f1 := str_ne (l := [105, 110]) k1
  have f2 := str_ne (l := [111, 114]) k2
  have f3 := str_ne (l := [97, 110, 100]) k3
  have f4 := str_ne (l := [109, 97, 116, 99, 104, 101, 115]) k4
  have f5 := str_ne (l := [99, 111, 110, 116, 97, 105, 110, 115]) k5
  have f6 := str_ne (l := [115, 116, 97, 114, 116, 115, 87, 105, 116, 104]) k6
  have f7 := str_ne (l := [101, 110, 100, 115, 87, 105, 116, 104]) k7
  have f8 := str_ne (l := [108, 101, 116]) k8
  have f9 := str_ne (l := [105, 102]) k9
  have f10 := str_ne (l := [101, 108, 115, 101]) k10
  clear hr hkw k0 k1 k2 k3 k4 k5 k6 k7 k8 k9 k10
  go_enter Tryz.func35, Tryz.ntmps35
  go_wp2_with fail
  go_ret
  exact ⟨rfl, rfl⟩

def smallAt (s : ByteArray) (x : Nat) : Prop := byt s x = 32 ∨ isLet (byt s x) = true ∨ isBra (byt s x) = true ∨ isSgn (byt s x) = true
theorem small_step {s : ByteArray} {i : Nat} (h : Hid (∀ x, x < i → smallAt s x)) (h1 : smallAt s i) : ∀ x, x < i + 1 → smallAt s x := fun x hx => by
  by_cases e : x = i
  · rw [e]; exact h1
  · exact h.out x (by omega)

set_option maxHeartbeats 4000000 in
set_option maxRecDepth 100000 in
theorem zzInSmall_any (s : ByteArray) (hs : s.size ≤ 1099511627776) (w : World) :
    Calls Tryz.prog 20 #[.string s] w (SaysD (fun b => b = true → Small s) w) := by
  go_enter Tryz.func20, Tryz.ntmps20
  go_wp2_with fail
  go_loopg [3] (s.size + 1) (fun g iv wr => ∃ i : Nat, iv = .int .i64 (i : Nat) ∧ Hid (Below w.heap.size w wr) ∧ Hid (∀ x, x < i → smallAt s x) ∧ i ≤ s.size ∧ s.size - i < g)
  case atStart => exact ⟨0, rfl, Lib.hid (Below.refl _ _), Lib.hid (fun x h => by omega), Nat.zero_le _, by omega⟩
  case round =>
    obtain ⟨i, rfl, hW, hn, hi', hg⟩ := hrel
    by_cases hin : i < s.size
    · have j0 : (0 : Int) ≤ (i : Int) := by omega
      have j1 : (i : Int) < (s.size : Int) := by omega
      have kb := byt_of hin
      have kl : (s[i]'hin).toNat < 256 := (s[i]'hin).toNat_lt
      by_cases h32 : byt s i = 32
      · have e32 : (((s[i]'hin).toNat : Int) == 32) = true := by rw [beq_iff_eq]; omega
        have Hs := Lib.hid (small_step hn (.inl h32))
        clear kb h32
        go_wp2_with fail
        go_roundg (s.size - i)
        case measure => omega
        case rel => exact ⟨i + 1, by go_num, Lib.hid (by repeat (first | exact hW.out | apply below_drew | apply below_drewN | apply below_alloc | apply below_grow)), Hs, by omega, by omega⟩
      have e32 : (((s[i]'hin).toNat : Int) == 32) = false := by rw [beq_eq_false_iff_ne]; omega
      cases hl : isLet (byt s i) with
      | true =>
        have hl2 : isLet (s[i]'hin).toNat = true := by rw [← kb]; exact hl
        have Hs := Lib.hid (small_step hn (.inr (.inl hl)))
        have Hl2 := Lib.hid hl2
        clear kb h32 hl hl2
        go_wp2_with fail
        refine (zzIsLetter_any _ kl _).mono ?_
        rintro e w' ⟨rfl, rfl⟩
        rw [Hl2.out]
        go_wp2_with fail
        go_roundg (s.size - i)
        case measure => omega
        case rel => exact ⟨i + 1, by go_num, Lib.hid (by repeat (first | exact hW.out | apply below_drew | apply below_drewN | apply below_alloc | apply below_grow)), Hs, by omega, by omega⟩
      | false =>
        have hl2 : isLet (s[i]'hin).toNat = false := by rw [← kb]; exact hl
        have Hl2 := Lib.hid hl2
        cases hp : (isBra (byt s i) || isSgn (byt s i)) with
        | true =>
          have hp2 : (isBra (s[i]'hin).toNat || isSgn (s[i]'hin).toNat) = true := by rw [← kb]; exact hp
          have Hp2 := Lib.hid hp2
          have hs3 : smallAt s i := by
            rw [Bool.or_eq_true] at hp
            exact .inr (.inr hp)
          have Hs := Lib.hid (small_step hn hs3)
          clear kb h32 hl hl2 hp hp2 hs3
          go_wp2_with fail
          refine (zzIsLetter_any _ kl _).mono ?_
          rintro e w' ⟨rfl, rfl⟩
          rw [Hl2.out]
          go_wp2_with fail
          refine (zzPunct_any _ kl _).mono ?_
          rintro e w' ⟨rfl, rfl⟩
          rw [Hp2.out]
          go_wp2_with fail
          go_roundg (s.size - i)
          case measure => omega
          case rel => exact ⟨i + 1, by go_num, Lib.hid (by repeat (first | exact hW.out | apply below_drew | apply below_drewN | apply below_alloc | apply below_grow)), Hs, by omega, by omega⟩
        | false =>
          have hp2 : (isBra (s[i]'hin).toNat || isSgn (s[i]'hin).toNat) = false := by rw [← kb]; exact hp
          have Hp2 := Lib.hid hp2
          clear kb h32 hl hl2 hp hp2
          go_wp2_with fail
          refine (zzIsLetter_any _ kl _).mono ?_
          rintro e w' ⟨rfl, rfl⟩
          rw [Hl2.out]
          go_wp2_with fail
          refine (zzPunct_any _ kl _).mono ?_
          rintro e w' ⟨rfl, rfl⟩
          rw [Hp2.out]
          go_wp2_with fail
          go_ret
          exact saysD_ret (fun h => by cases h) (by repeat (first | exact hW.out | apply below_drew | apply below_drewN | apply below_alloc | apply below_grow))
    · have j2 : ¬ (i : Int) < (s.size : Int) := by omega
      go_wp2_with fail
      go_ret
      exact saysD_ret (fun _ x hx => hn.out x (by omega)) (by repeat (first | exact hW.out | apply below_drew | apply below_drewN | apply below_alloc | apply below_grow))

end Go.Proofs.YtkplkccjeacniaaGreatFmt
