/-
  Walks of what the laws of n003_69 call: the length of an escape, the model of a string literal (printed by genesc.py).
-/
import Derived.Test.YtdpdgppjeekcmaaFmtZ69p
namespace Go.Proofs.YtdpdgppjeekcmaaFmt
open Go Go.Lib Go.RowKit Go.Proofs
open Go.Extern.Stop Go.Stop Go.Extern

def EscPost (n : Nat) (w : World) (e : Ending) (w' : World) : Prop := e = .returned (.int .i64 (n : Nat)) ∧ Below w.heap.size w w'
theorem esc_ret {n m : Nat} {w w' : World} (h : m = n) (hb : Below w.heap.size w w') : EscPost n w (.returned (.int .i64 (m : Nat))) w' := ⟨by rw [h], hb⟩
theorem esc_trans {a b c : World} (h : Below a.heap.size a b) (k : Below b.heap.size b c) : Below a.heap.size a c := h.trans (k.mono h.size)
/-- The braces' length. -/
def brVal (j : Nat) : Option Nat → Nat
  | none => 0
  | some k => k + 1 - j
theorem isOct_at (s : ByteArray) (k : Nat) (h : k < s.size) : isOct (s[k]'h).toNat = isOct (byt s k) := by rw [byt_of h]

set_option maxHeartbeats 4000000 in
set_option maxRecDepth 100000 in
theorem zzEscapeLen_out (s : ByteArray) (j q : Nat) (hs : s.size ≤ 1048576) (hj : ¬ j < s.size) (hj2 : j ≤ 1099511627776) (w : World) :
    Calls Tryf.prog 39 #[.string s, .int .i64 (j : Nat), .int .u8 (q : Nat)] w (EscPost (escLen s j q) w) := by
  have hlen : escLen s j q = 0 := by unfold escLen; rw [if_neg hj]
  have Hl := Lib.hid hlen
  have j2 : (s.size : Int) ≤ (j : Int) := by omega
  clear hlen
  go_enter Tryf.func39, Tryf.ntmps39
  go_wp2_with fail
  go_ret
  exact esc_ret Hl.out.symm (by repeat (first | exact Below.refl _ _ | apply below_drew | apply below_drewN | apply below_alloc | apply below_grow))

set_option maxHeartbeats 4000000 in
set_option maxRecDepth 100000 in
theorem zzEscapeLen_one (s : ByteArray) (j q : Nat) (hs : s.size ≤ 1048576) (hj : j < s.size) (h : byt s j = q ∨ isSimp (byt s j) = true) (w : World) :
    Calls Tryf.prog 39 #[.string s, .int .i64 (j : Nat), .int .u8 (q : Nat)] w (EscPost (escLen s j q) w) := by
  have hlen : escLen s j q = 1 := by unfold escLen; rw [if_pos hj, if_pos h]
  have Hl := Lib.hid hlen
  have kb := byt_of hj
  have j0 : (0 : Int) ≤ (j : Int) := by omega
  have j1 : (j : Int) < (s.size : Int) := by omega
  have j2 : ¬ (s.size : Int) ≤ (j : Int) := by omega
  by_cases hq : byt s j = q
  · have eq0 : (((s[j]'hj).toNat : Int) == (q : Int)) = true := by rw [beq_iff_eq]; omega
    clear hlen h hq kb
    go_enter Tryf.func39, Tryf.ntmps39
    go_wp2_with fail
    go_ret
    exact esc_ret Hl.out.symm (by repeat (first | exact Below.refl _ _ | apply below_drew | apply below_drewN | apply below_alloc | apply below_grow))
  · have hsi : isSimp (byt s j) = true := h.resolve_left hq
    have eq0 : (((s[j]'hj).toNat : Int) == (q : Int)) = false := by rw [beq_eq_false_iff_ne]; omega
    have hz := zzIn_any (s[j]'hj).toNat escSigns (by decide)
    rw [occurs_esc, ← kb, hsi] at hz
    have hz2 : ∀ w, Calls Tryf.prog 70 #[.int .u8 ((s[j]'hj).toNat : Nat), .string ⟨#[97, 98, 102, 110, 114, 116, 118, 92]⟩] w (Tells true w) := fun w => by have h := hz w; rw [kb] at h; exact h
    have Hz := Lib.hid hz2
    clear hz hz2 hlen h hq kb hsi
    go_enter Tryf.func39, Tryf.ntmps39
    go_wp2_with fail
    refine (Hz.out _).mono ?_
    rintro e w1 ⟨rfl, hb1⟩
    go_wp2_with fail
    go_ret
    exact esc_ret Hl.out.symm (by repeat (first | exact hb1 | apply below_drew | apply below_drewN | apply below_alloc | apply below_grow))

set_option maxHeartbeats 4000000 in
set_option maxRecDepth 100000 in
theorem zzEscapeLen_oct (s : ByteArray) (j q : Nat) (hs : s.size ≤ 1048576) (hj : j < s.size) (hq : byt s j ≠ q) (hsi : isSimp (byt s j) = false) (ho : isOct (byt s j) = true) (w : World) :
    Calls Tryf.prog 39 #[.string s, .int .i64 (j : Nat), .int .u8 (q : Nat)] w (EscPost (escLen s j q) w) := by
  have hlen : escLen s j q = (if j + 2 < s.size ∧ isOct (byt s (j + 1)) = true ∧ isOct (byt s (j + 2)) = true then 3 else 0) := by
    unfold escLen
    rw [if_pos hj, if_neg (fun h => h.elim hq (fun h2 => by rw [hsi] at h2; cases h2))]
    rw [if_pos ho]
  have kb := byt_of hj
  have j0 : (0 : Int) ≤ (j : Int) := by omega
  have j1 : (j : Int) < (s.size : Int) := by omega
  have j2 : ¬ (s.size : Int) ≤ (j : Int) := by omega
  have eq0 : (((s[j]'hj).toNat : Int) == (q : Int)) = false := by rw [beq_eq_false_iff_ne]; omega
  have hz := zzIn_any (s[j]'hj).toNat escSigns (by decide)
  rw [occurs_esc, ← kb, hsi] at hz
  have hz2 : ∀ w, Calls Tryf.prog 70 #[.int .u8 ((s[j]'hj).toNat : Nat), .string ⟨#[97, 98, 102, 110, 114, 116, 118, 92]⟩] w (Tells false w) := fun w => by have h := hz w; rw [kb] at h; exact h
  have Hz := Lib.hid hz2
  clear hz hz2
  have f1 : (j : Int) + 2 = ((j + 2 : Nat) : Int) := by omega
  have f2 : (j : Int) + 1 = ((j + 1 : Nat) : Int) := by omega
  by_cases h2 : j + 2 < s.size
  · have h1 : j + 1 < s.size := by omega
    have z1 : (0 : Int) ≤ (j : Int) + 1 := by omega
    have z2 : (j : Int) + 1 < (s.size : Int) := by omega
    have z3 : ((j : Int) + 1).toNat = j + 1 := by omega
    have z4 : IntKind.i64.wrap ((j : Int) + 1) = (j : Int) + 1 := by rw [IntKind.wrap_i64]; omega
    have y1 : (0 : Int) ≤ (j : Int) + 2 := by omega
    have y2 : (j : Int) + 2 < (s.size : Int) := by omega
    have y3 : ((j : Int) + 2).toNat = j + 2 := by omega
    have y4 : IntKind.i64.wrap ((j : Int) + 2) = (j : Int) + 2 := by rw [IntKind.wrap_i64]; omega
    have o0 := fun w => zzIsOct_any (s[j]'hj).toNat w
    have o1 := fun w => zzIsOct_any (s[j + 1]'h1).toNat w
    have o2 := fun w => zzIsOct_any (s[j + 2]'h2).toNat w
    simp only [isOct_at] at o0 o1 o2
    rw [ho] at o0
    have O0 := Lib.hid o0
    clear o0 f1 f2 hq hsi kb
    cases a1 : isOct (byt s (j + 1)) with
    | false =>
      rw [if_neg (fun h => by rw [a1] at h; cases h.2.1)] at hlen
      have Hl := Lib.hid hlen
      rw [a1] at o1
      have O1 := Lib.hid o1
      clear o1 o2 a1 hlen ho
      go_enter Tryf.func39, Tryf.ntmps39
      go_wp2_with fail
      refine (Hz.out _).mono ?_
      rintro e w1 ⟨rfl, hb1⟩
      go_wp2_with (go_at_call 71; refine Calls.mono (by first | (with_reducible exact O0.out _) | (with_reducible exact O1.out _)) ?_; rintro e w' ⟨rfl, rfl⟩)
      go_ret
      exact esc_ret Hl.out.symm (by repeat (first | exact hb1 | apply below_drew | apply below_drewN | apply below_alloc | apply below_grow))
    | true =>
      rw [a1] at o1
      have O1 := Lib.hid o1
      cases a2 : isOct (byt s (j + 2)) with
      | false =>
        rw [if_neg (fun h => by rw [a2] at h; cases h.2.2)] at hlen
        have Hl := Lib.hid hlen
        rw [a2] at o2
        have O2 := Lib.hid o2
        clear o1 o2 a1 a2 hlen ho
        go_enter Tryf.func39, Tryf.ntmps39
        go_wp2_with fail
        refine (Hz.out _).mono ?_
        rintro e w1 ⟨rfl, hb1⟩
        go_wp2_with (go_at_call 71; refine Calls.mono (by first | (with_reducible exact O0.out _) | (with_reducible exact O1.out _) | (with_reducible exact O2.out _)) ?_; rintro e w' ⟨rfl, rfl⟩)
        go_ret
        exact esc_ret Hl.out.symm (by repeat (first | exact hb1 | apply below_drew | apply below_drewN | apply below_alloc | apply below_grow))
      | true =>
        rw [if_pos ⟨h2, a1, a2⟩] at hlen
        have Hl := Lib.hid hlen
        rw [a2] at o2
        have O2 := Lib.hid o2
        clear o1 o2 a1 a2 hlen ho
        go_enter Tryf.func39, Tryf.ntmps39
        go_wp2_with fail
        refine (Hz.out _).mono ?_
        rintro e w1 ⟨rfl, hb1⟩
        go_wp2_with (go_at_call 71; refine Calls.mono (by first | (with_reducible exact O0.out _) | (with_reducible exact O1.out _) | (with_reducible exact O2.out _)) ?_; rintro e w' ⟨rfl, rfl⟩)
        go_ret
        exact esc_ret Hl.out.symm (by repeat (first | exact hb1 | apply below_drew | apply below_drewN | apply below_alloc | apply below_grow))
  · have y2 : ¬ (j : Int) + 2 < (s.size : Int) := by omega
    have y4 : IntKind.i64.wrap ((j : Int) + 2) = (j : Int) + 2 := by rw [IntKind.wrap_i64]; omega
    rw [if_neg (fun h => h2 h.1)] at hlen
    have Hl := Lib.hid hlen
    have o0 := fun w => zzIsOct_any (s[j]'hj).toNat w
    simp only [isOct_at] at o0
    rw [ho] at o0
    have O0 := Lib.hid o0
    clear o0 f1 f2 hq hsi kb hlen ho
    go_enter Tryf.func39, Tryf.ntmps39
    go_wp2_with fail
    refine (Hz.out _).mono ?_
    rintro e w1 ⟨rfl, hb1⟩
    go_wp2_with fail
    refine (O0.out _).mono ?_
    rintro e w' ⟨rfl, rfl⟩
    go_wp2_with fail
    go_ret
    exact esc_ret Hl.out.symm (by repeat (first | exact hb1 | apply below_drew | apply below_drewN | apply below_alloc | apply below_grow))

set_option maxHeartbeats 4000000 in
set_option maxRecDepth 100000 in
theorem zzEscapeLen_x (s : ByteArray) (j q : Nat) (hs : s.size ≤ 1048576) (hj : j < s.size) (hq : byt s j ≠ q) (hsi : isSimp (byt s j) = false) (hc : byt s j = 120) (w : World) :
    Calls Tryf.prog 39 #[.string s, .int .i64 (j : Nat), .int .u8 (q : Nat)] w (EscPost (escLen s j q) w) := by
  have hlen : escLen s j q = (if hexAll s (j + 1) 2 then 3 else 0) := by
    unfold escLen
    rw [if_pos hj, if_neg (fun h => h.elim hq (fun h2 => by rw [hsi] at h2; cases h2))]
    have ho : isOct (byt s j) = false := by rw [hc]; decide
    rw [if_neg (by rw [ho]; decide)]
    rw [if_pos hc]
  have kb := byt_of hj
  have j0 : (0 : Int) ≤ (j : Int) := by omega
  have j1 : (j : Int) < (s.size : Int) := by omega
  have j2 : ¬ (s.size : Int) ≤ (j : Int) := by omega
  have eq0 : (((s[j]'hj).toNat : Int) == (q : Int)) = false := by rw [beq_eq_false_iff_ne]; omega
  have hz := zzIn_any (s[j]'hj).toNat escSigns (by decide)
  rw [occurs_esc, ← kb, hsi] at hz
  have hz2 : ∀ w, Calls Tryf.prog 70 #[.int .u8 ((s[j]'hj).toNat : Nat), .string ⟨#[97, 98, 102, 110, 114, 116, 118, 92]⟩] w (Tells false w) := fun w => by have h := hz w; rw [kb] at h; exact h
  have Hz := Lib.hid hz2
  clear hz hz2
  have ho : isOct (byt s j) = false := by rw [hc]; decide
  have o0 := fun w => zzIsOct_any (s[j]'hj).toNat w
  simp only [isOct_at] at o0
  rw [ho] at o0
  have O0 := Lib.hid o0
  have e120 : (((s[j]'hj).toNat : Int) == 120) = true := by rw [beq_iff_eq]; omega
  have e85 : (((s[j]'hj).toNat : Int) == 85) = false := by rw [beq_eq_false_iff_ne]; omega
  obtain ⟨r, hr⟩ : ∃ r, r = j + 1 := ⟨_, rfl⟩
  have r0 : (j : Int) + 1 = (r : Int) := by omega
  have r1 : IntKind.i64.wrap ((j : Int) + 1) = (r : Int) := by rw [IntKind.wrap_i64]; omega
  rw [← hr] at hlen
  have hx := zzHexN_any s r 2 hs (by omega) (by decide)
  have Hx := Lib.hid hx
  clear hx o0 hq hsi kb ho hr hc
  cases hh : hexAll s r 2 with
  | true =>
    rw [hh] at Hx
    rw [hh, if_pos rfl] at hlen
    have Hl := Lib.hid hlen
    clear hh hlen
    go_enter Tryf.func39, Tryf.ntmps39
    go_wp2_with fail
    refine (Hz.out _).mono ?_
    rintro e w1 ⟨rfl, hb1⟩
    go_wp2_with fail
    refine (O0.out _).mono ?_
    rintro e w' ⟨rfl, rfl⟩
    go_wp2_with fail
    refine (Hx.out _).mono ?_
    rintro e w2 ⟨rfl, hb2⟩
    have hb3 : Below w.heap.size w w2 := esc_trans hb1 (Below.trans (by repeat (first | exact Below.refl _ _ | apply below_drew | apply below_drewN | apply below_alloc | apply below_grow)) hb2)
    clear hb1 hb2
    go_wp2_with fail
    go_ret
    exact esc_ret Hl.out.symm (by repeat (first | exact hb3 | apply below_drew | apply below_drewN | apply below_alloc | apply below_grow))
  | false =>
    rw [hh] at Hx
    rw [hh, if_neg (by decide)] at hlen
    have Hl := Lib.hid hlen
    clear hh hlen
    go_enter Tryf.func39, Tryf.ntmps39
    go_wp2_with fail
    refine (Hz.out _).mono ?_
    rintro e w1 ⟨rfl, hb1⟩
    go_wp2_with fail
    refine (O0.out _).mono ?_
    rintro e w' ⟨rfl, rfl⟩
    go_wp2_with fail
    refine (Hx.out _).mono ?_
    rintro e w2 ⟨rfl, hb2⟩
    have hb3 : Below w.heap.size w w2 := esc_trans hb1 (Below.trans (by repeat (first | exact Below.refl _ _ | apply below_drew | apply below_drewN | apply below_alloc | apply below_grow)) hb2)
    clear hb1 hb2
    go_wp2_with fail
    go_ret
    exact esc_ret Hl.out.symm (by repeat (first | exact hb3 | apply below_drew | apply below_drewN | apply below_alloc | apply below_grow))

set_option maxHeartbeats 4000000 in
set_option maxRecDepth 100000 in
theorem zzEscapeLen_U (s : ByteArray) (j q : Nat) (hs : s.size ≤ 1048576) (hj : j < s.size) (hq : byt s j ≠ q) (hsi : isSimp (byt s j) = false) (hc : byt s j = 85) (w : World) :
    Calls Tryf.prog 39 #[.string s, .int .i64 (j : Nat), .int .u8 (q : Nat)] w (EscPost (escLen s j q) w) := by
  have hlen : escLen s j q = (if hexAll s (j + 1) 8 then 9 else 0) := by
    unfold escLen
    rw [if_pos hj, if_neg (fun h => h.elim hq (fun h2 => by rw [hsi] at h2; cases h2))]
    have ho : isOct (byt s j) = false := by rw [hc]; decide
    rw [if_neg (by rw [ho]; decide)]
    rw [if_neg (by rw [hc]; decide)]
    rw [if_pos hc]
  have kb := byt_of hj
  have j0 : (0 : Int) ≤ (j : Int) := by omega
  have j1 : (j : Int) < (s.size : Int) := by omega
  have j2 : ¬ (s.size : Int) ≤ (j : Int) := by omega
  have eq0 : (((s[j]'hj).toNat : Int) == (q : Int)) = false := by rw [beq_eq_false_iff_ne]; omega
  have hz := zzIn_any (s[j]'hj).toNat escSigns (by decide)
  rw [occurs_esc, ← kb, hsi] at hz
  have hz2 : ∀ w, Calls Tryf.prog 70 #[.int .u8 ((s[j]'hj).toNat : Nat), .string ⟨#[97, 98, 102, 110, 114, 116, 118, 92]⟩] w (Tells false w) := fun w => by have h := hz w; rw [kb] at h; exact h
  have Hz := Lib.hid hz2
  clear hz hz2
  have ho : isOct (byt s j) = false := by rw [hc]; decide
  have o0 := fun w => zzIsOct_any (s[j]'hj).toNat w
  simp only [isOct_at] at o0
  rw [ho] at o0
  have O0 := Lib.hid o0
  have e120 : (((s[j]'hj).toNat : Int) == 120) = false := by rw [beq_eq_false_iff_ne]; omega
  have e85 : (((s[j]'hj).toNat : Int) == 85) = true := by rw [beq_iff_eq]; omega
  obtain ⟨r, hr⟩ : ∃ r, r = j + 1 := ⟨_, rfl⟩
  have r0 : (j : Int) + 1 = (r : Int) := by omega
  have r1 : IntKind.i64.wrap ((j : Int) + 1) = (r : Int) := by rw [IntKind.wrap_i64]; omega
  rw [← hr] at hlen
  have hx := zzHexN_any s r 8 hs (by omega) (by decide)
  have Hx := Lib.hid hx
  clear hx o0 hq hsi kb ho hr hc
  cases hh : hexAll s r 8 with
  | true =>
    rw [hh] at Hx
    rw [hh, if_pos rfl] at hlen
    have Hl := Lib.hid hlen
    clear hh hlen
    go_enter Tryf.func39, Tryf.ntmps39
    go_wp2_with fail
    refine (Hz.out _).mono ?_
    rintro e w1 ⟨rfl, hb1⟩
    go_wp2_with fail
    refine (O0.out _).mono ?_
    rintro e w' ⟨rfl, rfl⟩
    go_wp2_with fail
    refine (Hx.out _).mono ?_
    rintro e w2 ⟨rfl, hb2⟩
    have hb3 : Below w.heap.size w w2 := esc_trans hb1 (Below.trans (by repeat (first | exact Below.refl _ _ | apply below_drew | apply below_drewN | apply below_alloc | apply below_grow)) hb2)
    clear hb1 hb2
    go_wp2_with fail
    go_ret
    exact esc_ret Hl.out.symm (by repeat (first | exact hb3 | apply below_drew | apply below_drewN | apply below_alloc | apply below_grow))
  | false =>
    rw [hh] at Hx
    rw [hh, if_neg (by decide)] at hlen
    have Hl := Lib.hid hlen
    clear hh hlen
    go_enter Tryf.func39, Tryf.ntmps39
    go_wp2_with fail
    refine (Hz.out _).mono ?_
    rintro e w1 ⟨rfl, hb1⟩
    go_wp2_with fail
    refine (O0.out _).mono ?_
    rintro e w' ⟨rfl, rfl⟩
    go_wp2_with fail
    refine (Hx.out _).mono ?_
    rintro e w2 ⟨rfl, hb2⟩
    have hb3 : Below w.heap.size w w2 := esc_trans hb1 (Below.trans (by repeat (first | exact Below.refl _ _ | apply below_drew | apply below_drewN | apply below_alloc | apply below_grow)) hb2)
    clear hb1 hb2
    go_wp2_with fail
    go_ret
    exact esc_ret Hl.out.symm (by repeat (first | exact hb3 | apply below_drew | apply below_drewN | apply below_alloc | apply below_grow))

set_option maxHeartbeats 4000000 in
set_option maxRecDepth 100000 in
theorem zzEscapeLen_u4 (s : ByteArray) (j q : Nat) (hs : s.size ≤ 1048576) (hj : j < s.size) (hq : byt s j ≠ q) (hsi : isSimp (byt s j) = false) (hc : byt s j = 117) (hn : ¬ (j + 1 < s.size ∧ byt s (j + 1) = 123)) (w : World) :
    Calls Tryf.prog 39 #[.string s, .int .i64 (j : Nat), .int .u8 (q : Nat)] w (EscPost (escLen s j q) w) := by
  have hlen : escLen s j q = (if hexAll s (j + 1) 4 then 5 else 0) := by
    unfold escLen
    rw [if_pos hj, if_neg (fun h => h.elim hq (fun h2 => by rw [hsi] at h2; cases h2))]
    have ho : isOct (byt s j) = false := by rw [hc]; decide
    rw [if_neg (by rw [ho]; decide), if_neg (by rw [hc]; decide), if_neg (by rw [hc]; decide), if_pos hc, if_neg hn]
  have kb := byt_of hj
  have j0 : (0 : Int) ≤ (j : Int) := by omega
  have j1 : (j : Int) < (s.size : Int) := by omega
  have j2 : ¬ (s.size : Int) ≤ (j : Int) := by omega
  have eq0 : (((s[j]'hj).toNat : Int) == (q : Int)) = false := by rw [beq_eq_false_iff_ne]; omega
  have hz := zzIn_any (s[j]'hj).toNat escSigns (by decide)
  rw [occurs_esc, ← kb, hsi] at hz
  have hz2 : ∀ w, Calls Tryf.prog 70 #[.int .u8 ((s[j]'hj).toNat : Nat), .string ⟨#[97, 98, 102, 110, 114, 116, 118, 92]⟩] w (Tells false w) := fun w => by have h := hz w; rw [kb] at h; exact h
  have Hz := Lib.hid hz2
  clear hz hz2
  have ho : isOct (byt s j) = false := by rw [hc]; decide
  have o0 := fun w => zzIsOct_any (s[j]'hj).toNat w
  simp only [isOct_at] at o0
  rw [ho] at o0
  have O0 := Lib.hid o0
  have e120 : (((s[j]'hj).toNat : Int) == 120) = false := by rw [beq_eq_false_iff_ne]; omega
  have e85 : (((s[j]'hj).toNat : Int) == 85) = false := by rw [beq_eq_false_iff_ne]; omega
  have e117 : (((s[j]'hj).toNat : Int) == 117) = true := by rw [beq_iff_eq]; omega
  obtain ⟨r, hr⟩ : ∃ r, r = j + 1 := ⟨_, rfl⟩
  have r0 : (j : Int) + 1 = (r : Int) := by omega
  have r1 : IntKind.i64.wrap ((j : Int) + 1) = (r : Int) := by rw [IntKind.wrap_i64]; omega
  rw [← hr] at hlen
  have hx := zzHexN_any s r 4 hs (by omega) (by decide)
  have Hx := Lib.hid hx
  by_cases hrn : r < s.size
  · have n0 : (0 : Int) ≤ (r : Int) := by omega
    have n1 : (r : Int) < (s.size : Int) := by omega
    have e123 : (((s[r]'hrn).toNat : Int) == 123) = false := by
      rw [beq_eq_false_iff_ne]
      have kr := byt_of hrn
      intro h
      exact hn ⟨by omega, by rw [← hr]; omega⟩
    clear hx o0 hq hsi kb ho hr hc hn
    cases hh : hexAll s r 4 with
    | true =>
      rw [hh] at Hx
      rw [hh, if_pos rfl] at hlen
      have Hl := Lib.hid hlen
      clear hh hlen
      go_enter Tryf.func39, Tryf.ntmps39
      go_wp2_with fail
      refine (Hz.out _).mono ?_
      rintro e w1 ⟨rfl, hb1⟩
      go_wp2_with fail
      refine (O0.out _).mono ?_
      rintro e w' ⟨rfl, rfl⟩
      go_wp2_with fail
      refine (Hx.out _).mono ?_
      rintro e w2 ⟨rfl, hb2⟩
      have hb3 : Below w.heap.size w w2 := esc_trans hb1 (Below.trans (by repeat (first | exact Below.refl _ _ | apply below_drew | apply below_drewN | apply below_alloc | apply below_grow)) hb2)
      clear hb1 hb2
      go_wp2_with fail
      go_ret
      exact esc_ret Hl.out.symm (by repeat (first | exact hb3 | apply below_drew | apply below_drewN | apply below_alloc | apply below_grow))
    | false =>
      rw [hh] at Hx
      rw [hh, if_neg (by decide)] at hlen
      have Hl := Lib.hid hlen
      clear hh hlen
      go_enter Tryf.func39, Tryf.ntmps39
      go_wp2_with fail
      refine (Hz.out _).mono ?_
      rintro e w1 ⟨rfl, hb1⟩
      go_wp2_with fail
      refine (O0.out _).mono ?_
      rintro e w' ⟨rfl, rfl⟩
      go_wp2_with fail
      refine (Hx.out _).mono ?_
      rintro e w2 ⟨rfl, hb2⟩
      have hb3 : Below w.heap.size w w2 := esc_trans hb1 (Below.trans (by repeat (first | exact Below.refl _ _ | apply below_drew | apply below_drewN | apply below_alloc | apply below_grow)) hb2)
      clear hb1 hb2
      go_wp2_with fail
      go_ret
      exact esc_ret Hl.out.symm (by repeat (first | exact hb3 | apply below_drew | apply below_drewN | apply below_alloc | apply below_grow))
  · have n1 : ¬ (r : Int) < (s.size : Int) := by omega
    clear hx o0 hq hsi kb ho hr hc hn
    cases hh : hexAll s r 4 with
    | true =>
      rw [hh] at Hx
      rw [hh, if_pos rfl] at hlen
      have Hl := Lib.hid hlen
      clear hh hlen
      go_enter Tryf.func39, Tryf.ntmps39
      go_wp2_with fail
      refine (Hz.out _).mono ?_
      rintro e w1 ⟨rfl, hb1⟩
      go_wp2_with fail
      refine (O0.out _).mono ?_
      rintro e w' ⟨rfl, rfl⟩
      go_wp2_with fail
      refine (Hx.out _).mono ?_
      rintro e w2 ⟨rfl, hb2⟩
      have hb3 : Below w.heap.size w w2 := esc_trans hb1 (Below.trans (by repeat (first | exact Below.refl _ _ | apply below_drew | apply below_drewN | apply below_alloc | apply below_grow)) hb2)
      clear hb1 hb2
      go_wp2_with fail
      go_ret
      exact esc_ret Hl.out.symm (by repeat (first | exact hb3 | apply below_drew | apply below_drewN | apply below_alloc | apply below_grow))
    | false =>
      rw [hh] at Hx
      rw [hh, if_neg (by decide)] at hlen
      have Hl := Lib.hid hlen
      clear hh hlen
      go_enter Tryf.func39, Tryf.ntmps39
      go_wp2_with fail
      refine (Hz.out _).mono ?_
      rintro e w1 ⟨rfl, hb1⟩
      go_wp2_with fail
      refine (O0.out _).mono ?_
      rintro e w' ⟨rfl, rfl⟩
      go_wp2_with fail
      refine (Hx.out _).mono ?_
      rintro e w2 ⟨rfl, hb2⟩
      have hb3 : Below w.heap.size w w2 := esc_trans hb1 (Below.trans (by repeat (first | exact Below.refl _ _ | apply below_drew | apply below_drewN | apply below_alloc | apply below_grow)) hb2)
      clear hb1 hb2
      go_wp2_with fail
      go_ret
      exact esc_ret Hl.out.symm (by repeat (first | exact hb3 | apply below_drew | apply below_drewN | apply below_alloc | apply below_grow))

set_option maxHeartbeats 4000000 in
set_option maxRecDepth 100000 in
theorem zzEscapeLen_u6 (s : ByteArray) (j q : Nat) (hs : s.size ≤ 1048576) (hj : j < s.size) (hq : byt s j ≠ q) (hsi : isSimp (byt s j) = false) (hc : byt s j = 117) (hn : j + 1 < s.size ∧ byt s (j + 1) = 123) (w : World) :
    Calls Tryf.prog 39 #[.string s, .int .i64 (j : Nat), .int .u8 (q : Nat)] w (EscPost (escLen s j q) w) := by
  have hlen : escLen s j q = brVal j (brEndAt s 8 (j + 2) 0) := by
    unfold escLen
    rw [if_pos hj, if_neg (fun h => h.elim hq (fun h2 => by rw [hsi] at h2; cases h2))]
    have ho : isOct (byt s j) = false := by rw [hc]; decide
    rw [if_neg (by rw [ho]; decide), if_neg (by rw [hc]; decide), if_neg (by rw [hc]; decide), if_pos hc, if_pos hn]
    cases brEndAt s 8 (j + 2) 0 <;> rfl
  have kb := byt_of hj
  have j0 : (0 : Int) ≤ (j : Int) := by omega
  have j1 : (j : Int) < (s.size : Int) := by omega
  have j2 : ¬ (s.size : Int) ≤ (j : Int) := by omega
  have eq0 : (((s[j]'hj).toNat : Int) == (q : Int)) = false := by rw [beq_eq_false_iff_ne]; omega
  have hz := zzIn_any (s[j]'hj).toNat escSigns (by decide)
  rw [occurs_esc, ← kb, hsi] at hz
  have hz2 : ∀ w, Calls Tryf.prog 70 #[.int .u8 ((s[j]'hj).toNat : Nat), .string ⟨#[97, 98, 102, 110, 114, 116, 118, 92]⟩] w (Tells false w) := fun w => by have h := hz w; rw [kb] at h; exact h
  have Hz := Lib.hid hz2
  clear hz hz2
  have ho : isOct (byt s j) = false := by rw [hc]; decide
  have o0 := fun w => zzIsOct_any (s[j]'hj).toNat w
  simp only [isOct_at] at o0
  rw [ho] at o0
  have O0 := Lib.hid o0
  have e120 : (((s[j]'hj).toNat : Int) == 120) = false := by rw [beq_eq_false_iff_ne]; omega
  have e85 : (((s[j]'hj).toNat : Int) == 85) = false := by rw [beq_eq_false_iff_ne]; omega
  have e117 : (((s[j]'hj).toNat : Int) == 117) = true := by rw [beq_iff_eq]; omega
  obtain ⟨r, hr⟩ : ∃ r, r = j + 1 := ⟨_, rfl⟩
  have r0 : (j : Int) + 1 = (r : Int) := by omega
  have r1 : IntKind.i64.wrap ((j : Int) + 1) = (r : Int) := by rw [IntKind.wrap_i64]; omega
  obtain ⟨p, hp⟩ : ∃ p, p = j + 2 := ⟨_, rfl⟩
  have p0 : (j : Int) + 2 = (p : Int) := by omega
  have p1 : IntKind.i64.wrap ((j : Int) + 2) = (p : Int) := by rw [IntKind.wrap_i64]; omega
  have hrn : r < s.size := by omega
  have n0 : (0 : Int) ≤ (r : Int) := by omega
  have n1 : (r : Int) < (s.size : Int) := by omega
  have e123 : (((s[r]'hrn).toNat : Int) == 123) = true := by
    rw [beq_iff_eq, ← byt_of hrn, hr]
    omega
  rw [← hp] at hlen
  have hps : p ≤ s.size := by omega
  have hjp : j + 2 ≤ p := by omega
  have Hl := Lib.hid hlen
  clear hlen o0 hq hsi kb ho hr hc hn hp
  go_enter Tryf.func39, Tryf.ntmps39
  go_wp2_with fail
  refine (Hz.out _).mono ?_
  rintro e w1 ⟨rfl, hb1⟩
  go_wp2_with fail
  refine (O0.out _).mono ?_
  rintro e w' ⟨rfl, rfl⟩
  go_wp2_with fail
  go_loopg [8, 9] 9 (fun g kv dv wr => ∃ k d f : Nat, kv = .int .i64 (k : Nat) ∧ dv = .int .i64 (d : Nat) ∧ Hid (Below w.heap.size w wr) ∧ Hid (brEndAt s f k d = brEndAt s 8 p 0) ∧ p ≤ k ∧ k ≤ s.size ∧ f + d = 8 ∧ d ≤ 6 ∧ 8 - d < g)
  case atStart => exact ⟨p, 0, 8, rfl, rfl, Lib.hid (by repeat (first | exact hb1 | apply below_drew | apply below_drewN | apply below_alloc | apply below_grow)), Lib.hid rfl, Nat.le_refl _, hps, rfl, by decide, by decide⟩
  case round =>
    obtain ⟨k, d, f, rfl, rfl, hb, hm, hpk, hk, hfd, hd6, hg⟩ := hrel
    obtain ⟨f', rfl⟩ : ∃ f', f = f' + 1 := ⟨f - 1, by omega⟩
    have ht := hm.out
    rw [brEndAt] at ht
    have m0 : (k : Int) + 1 - (j : Int) = ((k + 1 - j : Nat) : Int) := by omega
    have m1 : IntKind.i64.wrap ((k : Int) + 1 - (j : Int)) = ((k + 1 - j : Nat) : Int) := by rw [IntKind.wrap_i64]; omega
    by_cases hkn : k < s.size
    · have k0 : (0 : Int) ≤ (k : Int) := by omega
      have k1 : (k : Int) < (s.size : Int) := by omega
      have k2 : ¬ (s.size : Int) ≤ (k : Int) := by omega
      have kk := byt_of hkn
      by_cases h125 : byt s k = 125
      · have e125 : (((s[k]'hkn).toNat : Int) != 125) = false := by rw [bne_eq_false_iff_eq]; omega
        have e125' : (((s[k]'hkn).toNat : Int) == 125) = true := by rw [beq_iff_eq]; omega
        rw [if_neg (fun h => h.2 h125)] at ht
        by_cases hd0 : d = 0
        · have d0 : ((d : Int) == 0) = true := by rw [beq_iff_eq]; omega
          rw [if_pos (.inr hd0)] at ht
          have hl2 := Hl.out
          rw [← ht] at hl2
          have Hl2 := Lib.hid hl2
          clear hl2 ht hm hd0 kk h125
          go_wp2_with fail
          go_ret
          exact esc_ret Hl2.out.symm (by repeat (first | exact hb.out | apply below_drew | apply below_drewN | apply below_alloc | apply below_grow))
        · have d0 : ((d : Int) == 0) = false := by rw [beq_eq_false_iff_ne]; omega
          rw [if_neg (fun h => h.elim (fun h => h hkn) hd0)] at ht
          have hl2 := Hl.out
          rw [← ht] at hl2
          have Hl2 := Lib.hid hl2
          clear hl2 ht hm hd0 kk h125
          go_wp2_with fail
          go_ret
          exact esc_ret Hl2.out.symm (by repeat (first | exact hb.out | apply below_drew | apply below_drewN | apply below_alloc | apply below_grow))
      · have e125 : (((s[k]'hkn).toNat : Int) != 125) = true := by rw [bne_iff_ne]; omega
        have e125' : (((s[k]'hkn).toNat : Int) == 125) = false := by rw [beq_eq_false_iff_ne]; omega
        rw [if_pos ⟨hkn, h125⟩] at ht
        have hx := fun w => zzIsHex_any (s[k]'hkn).toNat w
        cases hu : unhexB' (byt s k) with
        | false =>
          rw [if_pos (.inl hu)] at ht
          rw [show unhexB' (s[k]'hkn).toNat = false by rw [← kk]; exact hu] at hx
          have hl2 := Hl.out
          rw [← ht] at hl2
          have Hl2 := Lib.hid hl2
          have Hx := Lib.hid hx
          clear hl2 ht hm hx hu kk h125
          go_wp2_with fail
          refine (Hx.out _).mono ?_
          rintro e w2 ⟨rfl, hb2⟩
          have hb3 : Below w.heap.size w w2 := Below.trans (by repeat (first | exact hb.out | apply below_drew | apply below_drewN | apply below_alloc | apply below_grow)) (hb2.mono (by have := hb.out.size; first | exact this | (simp; omega)))
          have Hb3 := Lib.hid hb3
          clear hb2 hb3
          go_wp2_with fail
          go_ret
          exact esc_ret Hl2.out.symm (by repeat (first | exact Hb3.out | apply below_drew | apply below_drewN | apply below_alloc | apply below_grow))
        | true =>
          rw [show unhexB' (s[k]'hkn).toNat = true by rw [← kk]; exact hu] at hx
          have Hx := Lib.hid hx
          by_cases hd7 : d = 6
          · have d6 : (6 : Int) ≤ (d : Int) := by omega
            rw [if_pos (.inr (by omega))] at ht
            have hl2 := Hl.out
            rw [← ht] at hl2
            have Hl2 := Lib.hid hl2
            clear hl2 ht hm hx hu kk h125 hd7
            go_wp2_with fail
            refine (Hx.out _).mono ?_
            rintro e w2 ⟨rfl, hb2⟩
            have hb3 : Below w.heap.size w w2 := Below.trans (by repeat (first | exact hb.out | apply below_drew | apply below_drewN | apply below_alloc | apply below_grow)) (hb2.mono (by have := hb.out.size; first | exact this | (simp; omega)))
            have Hb3 := Lib.hid hb3
            clear hb2 hb3
            go_wp2_with fail
            go_ret
            exact esc_ret Hl2.out.symm (by repeat (first | exact Hb3.out | apply below_drew | apply below_drewN | apply below_alloc | apply below_grow))
          · have d6 : ¬ (6 : Int) ≤ (d : Int) := by omega
            rw [if_neg (fun h => h.elim (fun h => by rw [hu] at h; cases h) (by omega))] at ht
            have Ht := Lib.hid ht
            clear ht hm hx hu kk h125
            go_wp2_with fail
            refine (Hx.out _).mono ?_
            rintro e w2 ⟨rfl, hb2⟩
            have hb3 : Below w.heap.size w w2 := Below.trans (by repeat (first | exact hb.out | apply below_drew | apply below_drewN | apply below_alloc | apply below_grow)) (hb2.mono (by have := hb.out.size; first | exact this | (simp; omega)))
            have Hb3 := Lib.hid hb3
            clear hb2 hb3
            go_wp2_with fail
            go_roundg (8 - d)
            case measure => omega
            case rel => exact ⟨k + 1, d + 1, f', by go_num, by go_num, Lib.hid (by repeat (first | exact Hb3.out | apply below_drew | apply below_drewN | apply below_alloc | apply below_grow)), Ht, by omega, by omega, by omega, by omega, by omega⟩
    · have k1 : ¬ (k : Int) < (s.size : Int) := by omega
      have k2 : (s.size : Int) ≤ (k : Int) := by omega
      rw [if_neg (fun h => hkn h.1), if_pos (.inl hkn)] at ht
      have hl2 := Hl.out
      rw [← ht] at hl2
      have Hl2 := Lib.hid hl2
      clear hl2 ht hm
      go_wp2_with fail
      go_ret
      exact esc_ret Hl2.out.symm (by repeat (first | exact hb.out | apply below_drew | apply below_drewN | apply below_alloc | apply below_grow))

set_option maxHeartbeats 4000000 in
set_option maxRecDepth 100000 in
theorem zzEscapeLen_no (s : ByteArray) (j q : Nat) (hs : s.size ≤ 1048576) (hj : j < s.size) (hq : byt s j ≠ q) (hsi : isSimp (byt s j) = false) (ho : isOct (byt s j) = false) (hx1 : byt s j ≠ 120) (hx2 : byt s j ≠ 85) (hx3 : byt s j ≠ 117) (w : World) :
    Calls Tryf.prog 39 #[.string s, .int .i64 (j : Nat), .int .u8 (q : Nat)] w (EscPost (escLen s j q) w) := by
  have hlen : escLen s j q = 0 := by
    unfold escLen
    rw [if_pos hj, if_neg (fun h => h.elim hq (fun h2 => by rw [hsi] at h2; cases h2))]
    rw [if_neg (by rw [ho]; decide), if_neg hx1, if_neg hx2, if_neg hx3]
  have kb := byt_of hj
  have j0 : (0 : Int) ≤ (j : Int) := by omega
  have j1 : (j : Int) < (s.size : Int) := by omega
  have j2 : ¬ (s.size : Int) ≤ (j : Int) := by omega
  have eq0 : (((s[j]'hj).toNat : Int) == (q : Int)) = false := by rw [beq_eq_false_iff_ne]; omega
  have hz := zzIn_any (s[j]'hj).toNat escSigns (by decide)
  rw [occurs_esc, ← kb, hsi] at hz
  have hz2 : ∀ w, Calls Tryf.prog 70 #[.int .u8 ((s[j]'hj).toNat : Nat), .string ⟨#[97, 98, 102, 110, 114, 116, 118, 92]⟩] w (Tells false w) := fun w => by have h := hz w; rw [kb] at h; exact h
  have Hz := Lib.hid hz2
  clear hz hz2
  have o0 := fun w => zzIsOct_any (s[j]'hj).toNat w
  simp only [isOct_at] at o0
  rw [ho] at o0
  have O0 := Lib.hid o0
  have e120 : (((s[j]'hj).toNat : Int) == 120) = false := by rw [beq_eq_false_iff_ne]; omega
  have e85 : (((s[j]'hj).toNat : Int) == 85) = false := by rw [beq_eq_false_iff_ne]; omega
  have e117 : (((s[j]'hj).toNat : Int) == 117) = false := by rw [beq_eq_false_iff_ne]; omega
  have Hl := Lib.hid hlen
  clear hlen o0 hq hsi kb ho hx1 hx2 hx3
  go_enter Tryf.func39, Tryf.ntmps39
  go_wp2_with fail
  refine (Hz.out _).mono ?_
  rintro e w1 ⟨rfl, hb1⟩
  go_wp2_with fail
  refine (O0.out _).mono ?_
  rintro e w' ⟨rfl, rfl⟩
  go_wp2_with fail
  go_ret
  exact esc_ret Hl.out.symm (by repeat (first | exact hb1 | apply below_drew | apply below_drewN | apply below_alloc | apply below_grow))

theorem zzEscapeLen_any (s : ByteArray) (j q : Nat) (hs : s.size ≤ 1048576) (hj2 : j ≤ 1099511627776) (w : World) :
    Calls Tryf.prog 39 #[.string s, .int .i64 (j : Nat), .int .u8 (q : Nat)] w (EscPost (escLen s j q) w) := by
  by_cases hj : j < s.size
  · by_cases h1 : byt s j = q ∨ isSimp (byt s j) = true
    · exact zzEscapeLen_one s j q hs hj h1 w
    · have hq : byt s j ≠ q := fun h => h1 (.inl h)
      have hsi : isSimp (byt s j) = false := by
        cases h : isSimp (byt s j) with
        | true => exact absurd (.inr h) h1
        | false => rfl
      cases ho : isOct (byt s j) with
      | true => exact zzEscapeLen_oct s j q hs hj hq hsi ho w
      | false =>
        by_cases hx1 : byt s j = 120
        · exact zzEscapeLen_x s j q hs hj hq hsi hx1 w
        by_cases hx2 : byt s j = 85
        · exact zzEscapeLen_U s j q hs hj hq hsi hx2 w
        by_cases hx3 : byt s j = 117
        · by_cases hn : j + 1 < s.size ∧ byt s (j + 1) = 123
          · exact zzEscapeLen_u6 s j q hs hj hq hsi hx3 hn w
          · exact zzEscapeLen_u4 s j q hs hj hq hsi hx3 hn w
        · exact zzEscapeLen_no s j q hs hj hq hsi ho hx1 hx2 hx3 w
  · exact zzEscapeLen_out s j q hs hj hj2 w

theorem escLen_le (s : ByteArray) (j q : Nat) (hj : j ≤ s.size) : j + escLen s j q ≤ s.size + 9 := by
  have key : ∀ (f k d k' : Nat), brEndAt s f k d = some k' → k' < s.size := by
    intro f
    induction f with
    | zero => intro k d k' h; cases h
    | succ f ih =>
      intro k d k' h
      rw [brEndAt] at h
      split at h
      · split at h
        · cases h
        · exact ih _ _ _ h
      · split at h
        · cases h
        · rename_i h2
          cases h
          omega
  unfold escLen
  split
  · repeat' split
    all_goals first
      | omega
      | (rename_i h; have := key _ _ _ _ h; omega)
  · omega

/-- What zzModelScanString answers. -/
def modVal : Option (Nat × Nat) → Value
  | some (n, e) => .tuple #[.bool true, .int .i64 n, .int .i64 e]
  | none => .tuple #[.bool false, .int .i64 0, .int .i64 0]

set_option maxHeartbeats 8000000 in
set_option maxRecDepth 100000 in
theorem zzModelScanString_any (s : ByteArray) (q : Nat) (hs : s.size ≤ 1048576) (w : World) :
    Calls Tryf.prog 27 #[.string s, .int .u8 (q : Nat)] w fun e w' => e = .returned (modVal (modelStr s q (s.size + 1) 0 0)) ∧ Below w.heap.size w w' := by
  go_enter Tryf.func27, Tryf.ntmps27
  go_wp2_with fail
  go_loopg [7, 8] (s.size + 11) (fun g iv nv wr => ∃ i n f : Nat, iv = .int .i64 (i : Nat) ∧ nv = .int .i64 (n : Nat) ∧ Hid (Below w.heap.size w wr) ∧ Hid (modelStr s q f i n = modelStr s q (s.size + 1) 0 0) ∧ s.size < i + f ∧ n ≤ i ∧ i ≤ s.size + 9 ∧ s.size + 10 - i < g)
  case atStart => exact ⟨0, 0, s.size + 1, rfl, rfl, Lib.hid (by repeat (first | exact Below.refl _ _ | apply below_drew | apply below_drewN | apply below_alloc | apply below_grow)), Lib.hid rfl, by omega, Nat.le_refl _, by omega, by omega⟩
  case round =>
    obtain ⟨i, n, f, rfl, rfl, hb, hm, hf, hni, hi', hg⟩ := hrel
    by_cases hin : i < s.size
    · have i0 : (0 : Int) ≤ (i : Int) := by omega
      have i1 : (i : Int) < (s.size : Int) := by omega
      have kb := byt_of hin
      obtain ⟨f', rfl⟩ : ∃ f', f = f' + 1 := ⟨f - 1, by omega⟩
      have ht := hm.out
      rw [modelStr, if_pos hin] at ht
      clear hm
      by_cases hq : byt s i = q
      · have e0 : (((s[i]'hin).toNat : Int) == (q : Int)) = true := by rw [beq_iff_eq]; omega
        rw [if_pos hq] at ht
        have Ht := Lib.hid ht
        clear ht hq kb
        go_wp2_with fail
        refine bodyPost_ret (v := modVal (modelStr s q (s.size + 1) 0 0)) ?_ rfl ⟨rfl, (by repeat (first | exact hb.out | apply below_drew | apply below_drewN | apply below_alloc | apply below_grow))⟩
        · rw [← Ht.out]
          simp [results, Tryf.results27, go_sem, modVal]
      have e0 : (((s[i]'hin).toNat : Int) == (q : Int)) = false := by rw [beq_eq_false_iff_ne]; omega
      rw [if_neg hq] at ht
      by_cases h10 : byt s i = 10
      · have e10 : (((s[i]'hin).toNat : Int) == 10) = true := by rw [beq_iff_eq]; omega
        rw [if_pos h10] at ht
        have Ht := Lib.hid ht
        clear ht hq kb h10
        go_wp2_with fail
        refine bodyPost_ret (v := modVal (modelStr s q (s.size + 1) 0 0)) ?_ rfl ⟨rfl, (by repeat (first | exact hb.out | apply below_drew | apply below_drewN | apply below_alloc | apply below_grow))⟩
        · rw [← Ht.out]
          simp [results, Tryf.results27, go_sem, modVal]
      have e10 : (((s[i]'hin).toNat : Int) == 10) = false := by rw [beq_eq_false_iff_ne]; omega
      rw [if_neg h10] at ht
      by_cases h92 : byt s i = 92
      · have e92 : (((s[i]'hin).toNat : Int) == 92) = true := by rw [beq_iff_eq]; omega
        rw [if_pos h92] at ht
        obtain ⟨r, hr⟩ : ∃ r, r = i + 1 := ⟨_, rfl⟩
        have r0 : (i : Int) + 1 = (r : Int) := by omega
        have r1 : IntKind.i64.wrap ((i : Int) + 1) = (r : Int) := by rw [IntKind.wrap_i64]; omega
        have hx := zzEscapeLen_any s r q hs (by omega)
        have hle := escLen_le s r q (by omega)
        rw [← hr] at ht
        obtain ⟨k, hk⟩ : ∃ k, escLen s r q = k := ⟨_, rfl⟩
        rw [hk] at hx hle ht
        have Hx := Lib.hid hx
        clear hr
        by_cases hk0 : k = 0
        · have k0 : ((k : Int) == 0) = true := by rw [beq_iff_eq]; omega
          rw [if_pos hk0] at ht
          have Ht := Lib.hid ht
          clear ht hq kb h10 h92 hx hk hk0
          go_wp2_with fail
          refine (Hx.out _).mono ?_
          rintro e w2 ⟨rfl, hb2⟩
          have hb3 : Below w.heap.size w w2 := Below.trans (by repeat (first | exact hb.out | apply below_drew | apply below_drewN | apply below_alloc | apply below_grow)) (hb2.mono (by have := hb.out.size; first | exact this | (simp; omega)))
          have Hb3 := Lib.hid hb3
          clear hb2 hb3
          go_wp2_with fail
          refine bodyPost_ret (v := modVal (modelStr s q (s.size + 1) 0 0)) ?_ rfl ⟨rfl, (by repeat (first | exact Hb3.out | apply below_drew | apply below_drewN | apply below_alloc | apply below_grow))⟩
          · rw [← Ht.out]
            simp [results, Tryf.results27, go_sem, modVal]
        · have k0 : ((k : Int) == 0) = false := by rw [beq_eq_false_iff_ne]; omega
          have d1 : IntKind.i64.wrap ((i : Int) + (1 + (k : Int))) = (i : Int) + (1 + (k : Int)) := by rw [IntKind.wrap_i64]; omega
          rw [if_neg hk0] at ht
          have Ht := Lib.hid ht
          clear ht hq kb h10 h92 hx hk
          go_wp2_with fail
          refine (Hx.out _).mono ?_
          rintro e w2 ⟨rfl, hb2⟩
          have hb3 : Below w.heap.size w w2 := Below.trans (by repeat (first | exact hb.out | apply below_drew | apply below_drewN | apply below_alloc | apply below_grow)) (hb2.mono (by have := hb.out.size; first | exact this | (simp; omega)))
          have Hb3 := Lib.hid hb3
          clear hb2 hb3
          go_wp2_with fail
          go_roundg (s.size + 10 - i)
          case measure => omega
          case rel => exact ⟨r + k, n + 1, f', by go_num, by go_num, Lib.hid (by repeat (first | exact Hb3.out | apply below_drew | apply below_drewN | apply below_alloc | apply below_grow)), Ht, by omega, by omega, by omega, by omega⟩
      · have e92 : (((s[i]'hin).toNat : Int) == 92) = false := by rw [beq_eq_false_iff_ne]; omega
        rw [if_neg h92] at ht
        have hx := zzSize_any s i
        have hle := wAt_le s i hin
        have hpos := wAt_pos s i hin
        obtain ⟨d, hd⟩ : ∃ d, wAt s i = d := ⟨_, rfl⟩
        rw [hd] at hx hle hpos ht
        have d1 : IntKind.i64.wrap ((i : Int) + (d : Int)) = (i : Int) + (d : Int) := by rw [IntKind.wrap_i64]; omega
        have Hx := Lib.hid hx
        have Ht := Lib.hid ht
        clear hx ht hd hq kb h10 h92
        go_wp2_with fail
        refine (Hx.out _ hin hs).mono ?_
        rintro e w2 ⟨rfl, hb2⟩
        have hb3 : Below w.heap.size w w2 := Below.trans (by repeat (first | exact hb.out | apply below_drew | apply below_drewN | apply below_alloc | apply below_grow)) (hb2.mono (by have := hb.out.size; first | exact this | (simp; omega)))
        have Hb3 := Lib.hid hb3
        clear hb2 hb3
        go_wp2_with fail
        go_roundg (s.size + 10 - i)
        case measure => omega
        case rel => exact ⟨i + d, n + 1, f', by go_num, by go_num, Lib.hid (by repeat (first | exact Hb3.out | apply below_drew | apply below_drewN | apply below_alloc | apply below_grow)), Ht, by omega, by omega, by omega, by omega⟩
    · have i1 : ¬ (i : Int) < (s.size : Int) := by omega
      have ht := hm.out
      have hno : modelStr s q f i n = none := by
        cases f with
        | zero => rfl
        | succ f => rw [modelStr, if_neg hin]
      rw [hno] at ht
      have Ht := Lib.hid ht
      clear ht hno hm
      go_wp2_with fail
      refine bodyPost_ret (v := modVal (modelStr s q (s.size + 1) 0 0)) ?_ rfl ⟨rfl, (by repeat (first | exact hb.out | apply below_drew | apply below_drewN | apply below_alloc | apply below_grow))⟩
      · rw [← Ht.out]
        simp [results, Tryf.results27, go_sem, modVal]

end Go.Proofs.YtdpdgppjeekcmaaFmt
