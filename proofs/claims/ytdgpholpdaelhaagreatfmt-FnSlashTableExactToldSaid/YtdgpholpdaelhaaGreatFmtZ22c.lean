/-
  Walks of what the laws of n003_22 call: runes counted, bytes looked for.
-/
import Derived.Test.YtdgpholpdaelhaaGreatFmtRuneLen
import Derived.Test.YtdgpholpdaelhaaGreatFmtJC
namespace Go.Proofs.YtdgpholpdaelhaaGreatFmt
open Go Go.Lib Go.RowKit Go.Proofs
open Go.Extern.Stop Go.Stop Go.Extern

set_option maxHeartbeats 2000000 in
set_option maxRecDepth 100000 in
theorem zzRunes_any (s : ByteArray) (hs : s.size ≤ 1099511627776) (w : World) :
    Calls Tryz.prog 16 #[.string s] w fun e w' => ∃ N : Nat, e = .returned (.int .i64 N) ∧ Bd s s.size N ∧ Below w.heap.size w w' := by
  go_enter Tryz.func16, Tryz.ntmps16
  go_wp2_with fail
  go_loopg [3, 4] (s.size + 1) (fun g nv iv wr => ∃ i n : Nat, nv = .int .i64 n ∧ iv = .int .i64 i ∧ Hid (Below w.heap.size w wr) ∧ Hid (Bd s i n) ∧ i ≤ s.size ∧ n ≤ i ∧ s.size - i < g)
  case atStart => exact ⟨0, 0, rfl, rfl, Lib.hid (by repeat (first | exact Below.refl _ _ | apply below_drew | apply below_drewN | apply below_alloc | apply below_grow)), Lib.hid .zero, Nat.zero_le _, Nat.zero_le _, by omega⟩
  case round =>
    obtain ⟨i, n, rfl, rfl, hb, hbd, hi', hni, hg⟩ := hrel
    by_cases hin : i < s.size
    · have i1 : (i : Int) < (s.size : Int) := by omega
      have hw := zzRuneLen_any s i
      have Hw := Lib.hid hw
      have hbn := hbd.out.step hin
      have hle := hbn.le
      have hpos := wAt_pos s i hin
      have Hbn := Lib.hid hbn
      clear hw hbn hbd
      obtain ⟨d, hd⟩ : ∃ d, wAt s i = d := ⟨_, rfl⟩
      rw [hd] at Hw Hbn hle hpos
      clear hd
      go_wp2_with fail
      refine (Hw.out _ hin hs).mono ?_
      rintro e w2 ⟨rfl, hb2⟩
      have hb3 : Below w.heap.size w w2 := Below.trans (by repeat (first | exact hb.out | apply below_drew | apply below_drewN | apply below_alloc | apply below_grow)) (hb2.mono (by have := hb.out.size; first | exact this | (simp; omega)))
      have Hb3 := Lib.hid hb3
      clear hb2 hb3
      have d1 : IntKind.i64.wrap ((i : Int) + (d : Int)) = (i : Int) + (d : Int) := by rw [IntKind.wrap_i64]; omega
      go_wp2_with fail
      go_roundg (s.size - i)
      case measure => omega
      case rel => exact ⟨i + d, n + 1, by go_num, by go_num, Lib.hid (by repeat (first | exact Hb3.out | apply below_drew | apply below_drewN | apply below_alloc | apply below_grow)), Hbn, hle, by omega, by omega⟩
    · have i1 : ¬ (i : Int) < (s.size : Int) := by omega
      obtain rfl : i = s.size := by omega
      go_wp2_with fail
      go_ret
      exact ⟨n, rfl, hbd.out, (by repeat (first | exact hb.out | apply below_drew | apply below_drewN | apply below_alloc | apply below_grow))⟩

set_option maxHeartbeats 2000000 in
set_option maxRecDepth 100000 in
theorem zzHasByte_any (s : ByteArray) (b : Nat) (hs : s.size ≤ 1099511627776) (w : World) :
    Calls Tryz.prog 18 #[.string s, .int .u8 b] w (Says (fun r => r = false → ∀ x, x < s.size → byt s x ≠ b) w) := by
  go_enter Tryz.func18, Tryz.ntmps18
  go_wp2_with fail
  go_loopg [5] (s.size + 1) (fun g iv wr => ∃ i : Nat, iv = .int .i64 (i : Nat) ∧ wr = w ∧ Hid (∀ x, x < i → byt s x ≠ b) ∧ i ≤ s.size ∧ s.size - i < g)
  case atStart => exact ⟨0, rfl, rfl, Lib.hid (fun x h => by omega), Nat.zero_le _, by omega⟩
  case round =>
    obtain ⟨i, rfl, rfl, hn, hi', hg⟩ := hrel
    by_cases hin : i < s.size
    · have j0 : (0 : Int) ≤ (i : Int) := by omega
      have j1 : (i : Int) < (s.size : Int) := by omega
      have kb := byt_of hin
      by_cases hb : byt s i = b
      · have e : (((s[i]'hin).toNat : Int) == (b : Int)) = true := by rw [beq_iff_eq]; omega
        clear kb hb
        go_wp2_with fail
        go_ret
        exact says_ret (fun h => by cases h)
      · have e : (((s[i]'hin).toNat : Int) == (b : Int)) = false := by rw [beq_eq_false_iff_ne]; omega
        clear kb
        go_wp2_with fail
        go_roundg (s.size - i)
        case measure => omega
        case rel => exact ⟨i + 1, by go_num, rfl, Lib.hid (fun x hx => by
          by_cases e : x = i
          · subst e; exact hb
          · exact hn.out x (by omega)), by omega, by omega⟩
    · have j2 : ¬ (i : Int) < (s.size : Int) := by omega
      go_wp2_with fail
      go_ret
      exact says_ret (fun _ x hx => hn.out x (by omega))

end Go.Proofs.YtdgpholpdaelhaaGreatFmt
