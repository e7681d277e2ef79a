/-
  Walks of what the laws of n003_69 call: runes counted, valid texts, bytes counted, doubled backticks.
-/
import Derived.Test.YtdpdgppjeekcmaaFmtSize69
import Derived.Test.YtdpdgppjeekcmaaFmtBytes
import Derived.Test.YtdpdgppjeekcmaaFmtP69D
import Derived.WalkKit
namespace Go.Proofs.YtdpdgppjeekcmaaFmt
open Go Go.Lib Go.RowKit Go.Proofs
open Go.Extern.Stop Go.Stop Go.Extern

/-- A yes or no; the world has grown at most. -/
def SaysD (P : Bool → Prop) (w : World) (e : Ending) (w' : World) : Prop := ∃ b, e = .returned (.bool b) ∧ P b ∧ Below w.heap.size w w'
theorem saysD_ret {P : Bool → Prop} {w w' : World} {b : Bool} (h : P b) (hb : Below w.heap.size w w') : SaysD P w (.returned (.bool b)) w' := ⟨b, rfl, h, hb⟩

set_option maxHeartbeats 2000000 in
set_option maxRecDepth 100000 in
theorem zzRuneCount_any (s : ByteArray) (hs : s.size ≤ 1048576) (w : World) :
    Calls Tryf.prog 16 #[.string s] w fun e w' => ∃ N : Nat, e = .returned (.int .i64 N) ∧ Bd s s.size N ∧ Below w.heap.size w w' := by
  go_enter Tryf.func16, Tryf.ntmps16
  go_wp2_with fail
  go_loopg [3, 4] (s.size + 1) (fun g nv iv wr => ∃ i n : Nat, nv = .int .i64 n ∧ iv = .int .i64 i ∧ Hid (Below w.heap.size w wr) ∧ Hid (Bd s i n) ∧ i ≤ s.size ∧ n ≤ i ∧ s.size - i < g)
  case atStart => exact ⟨0, 0, rfl, rfl, Lib.hid (by repeat (first | exact Below.refl _ _ | apply below_drew | apply below_drewN | apply below_alloc | apply below_grow)), Lib.hid .zero, Nat.zero_le _, Nat.zero_le _, by omega⟩
  case round =>
    obtain ⟨i, n, rfl, rfl, hb, hbd, hi', hni, hg⟩ := hrel
    by_cases hin : i < s.size
    · have i1 : (i : Int) < (s.size : Int) := by omega
      have hw := zzSize_any s i
      have Hw := Lib.hid hw
      have hbn := hbd.out.step hin
      have hle := hbn.le
      have hpos := wAt_pos s i hin
      have Hbn := Lib.hid hbn
      clear hw hbn hbd
      obtain ⟨d, hd⟩ : ∃ d, wAt s i = d := ⟨_, rfl⟩
      rw [hd] at Hw Hbn hle hpos
      clear hd
      go_wp2_with fail
      refine (Hw.out _ hin hs).mono ?_
      rintro e w2 ⟨rfl, hb2⟩
      have hb3 : Below w.heap.size w w2 := Below.trans (by repeat (first | exact hb.out | apply below_drew | apply below_drewN | apply below_alloc | apply below_grow)) (hb2.mono (by have := hb.out.size; first | exact this | (simp; omega)))
      have Hb3 := Lib.hid hb3
      clear hb2 hb3
      have d1 : IntKind.i64.wrap ((i : Int) + (d : Int)) = (i : Int) + (d : Int) := by rw [IntKind.wrap_i64]; omega
      go_wp2_with fail
      go_roundg (s.size - i)
      case measure => omega
      case rel => exact ⟨i + d, n + 1, by go_num, by go_num, Lib.hid (by repeat (first | exact Hb3.out | apply below_drew | apply below_drewN | apply below_alloc | apply below_grow)), Hbn, hle, by omega, by omega⟩
    · have i1 : ¬ (i : Int) < (s.size : Int) := by omega
      obtain rfl : i = s.size := by omega
      go_wp2_with fail
      go_ret
      exact ⟨n, rfl, hbd.out, (by repeat (first | exact hb.out | apply below_drew | apply below_drewN | apply below_alloc | apply below_grow))⟩

/-- Valid up to a place. -/
def ValidTo (s : ByteArray) (i : Nat) : Prop := ∀ j m, Bd s j m → j < i → 128 ≤ byt s j → 2 ≤ wAt s j
theorem validTo_step {s : ByteArray} {i n : Nat} (h : Hid (ValidTo s i)) (hb : Hid (Bd s i n)) (hi : i < s.size) (h1 : 128 ≤ byt s i → 2 ≤ wAt s i) : ValidTo s (i + wAt s i) := fun j m hj hlt h8 => by
  by_cases hji : j < i
  · exact h.out j m hj hji h8
  · rcases hj.out hb.out with h2 | h2 | h2
    · have : j = i := by omega
      subst this
      exact h1 h8
    · omega
    · omega

set_option maxHeartbeats 4000000 in
set_option maxRecDepth 100000 in
theorem zzValidUTF8_any (s : ByteArray) (hs : s.size ≤ 1048576) (w : World) :
    Calls Tryf.prog 18 #[.string s] w (SaysD (fun b => b = true → ValidU s) w) := by
  go_enter Tryf.func18, Tryf.ntmps18
  go_wp2_with fail
  go_loopg [3] (s.size + 1) (fun g iv wr => ∃ i n : Nat, iv = .int .i64 i ∧ Hid (Below w.heap.size w wr) ∧ Hid (Bd s i n) ∧ Hid (ValidTo s i) ∧ i ≤ s.size ∧ s.size - i < g)
  case atStart => exact ⟨0, 0, rfl, Lib.hid (by repeat (first | exact Below.refl _ _ | apply below_drew | apply below_drewN | apply below_alloc | apply below_grow)), Lib.hid .zero, Lib.hid (fun j m hj h => absurd h (Nat.not_lt_zero _)), Nat.zero_le _, by omega⟩
  case round =>
    obtain ⟨i, n, rfl, hb, hbd, hv, hi', hg⟩ := hrel
    by_cases hin : i < s.size
    · have i0 : (0 : Int) ≤ (i : Int) := by omega
      have i1 : (i : Int) < (s.size : Int) := by omega
      have kb := byt_of hin
      have hw := zzSize_any s i
      have Hw := Lib.hid hw
      have hbn := hbd.out.step hin
      have hle := hbn.le
      have hpos := wAt_pos s i hin
      have hvs := fun h1 => validTo_step hv hbd hin h1
      obtain ⟨d, hd⟩ : ∃ d, wAt s i = d := ⟨_, rfl⟩
      rw [hd] at Hw hbn hle hpos hvs
      have d1 : IntKind.i64.wrap ((i : Int) + (d : Int)) = (i : Int) + (d : Int) := by rw [IntKind.wrap_i64]; omega
      have Hbn := Lib.hid hbn
      have Hd := Lib.hid hd
      clear hw hbn hbd hd
      by_cases h8 : 128 ≤ byt s i
      · have c0 : (128 : Int) ≤ ((s[i]'hin).toNat : Int) := by omega
        by_cases hd1 : d = 1
        · have c1 : ((d : Int) == 1) = true := by rw [beq_iff_eq]; omega
          clear hvs kb h8
          go_wp2_with fail
          refine (Hw.out _ hin hs).mono ?_
          rintro e w2 ⟨rfl, hb2⟩
          have hb3 : Below w.heap.size w w2 := Below.trans (by repeat (first | exact hb.out | apply below_drew | apply below_drewN | apply below_alloc | apply below_grow)) (hb2.mono (by have := hb.out.size; first | exact this | (simp; omega)))
          have Hb3 := Lib.hid hb3
          clear hb2 hb3 hd1
          go_wp2_with fail
          go_ret
          exact saysD_ret (fun h => by cases h) (by repeat (first | exact Hb3.out | apply below_drew | apply below_drewN | apply below_alloc | apply below_grow))
        · have c1 : ((d : Int) == 1) = false := by rw [beq_eq_false_iff_ne]; omega
          have Hvs := Lib.hid (hvs (fun _ => by omega))
          clear hvs kb h8
          go_wp2_with fail
          refine (Hw.out _ hin hs).mono ?_
          rintro e w2 ⟨rfl, hb2⟩
          have hb3 : Below w.heap.size w w2 := Below.trans (by repeat (first | exact hb.out | apply below_drew | apply below_drewN | apply below_alloc | apply below_grow)) (hb2.mono (by have := hb.out.size; first | exact this | (simp; omega)))
          have Hb3 := Lib.hid hb3
          clear hb2 hb3
          go_wp2_with fail
          go_roundg (s.size - i)
          case measure => omega
          case rel => exact ⟨i + d, n + 1, by go_num, Lib.hid (by repeat (first | exact Hb3.out | apply below_drew | apply below_drewN | apply below_alloc | apply below_grow)), Hbn, Hvs, hle, by omega⟩
      · have c0 : ¬ (128 : Int) ≤ ((s[i]'hin).toNat : Int) := by omega
        have Hvs := Lib.hid (hvs (fun h => absurd h h8))
        clear hvs kb h8
        go_wp2_with fail
        refine (Hw.out _ hin hs).mono ?_
        rintro e w2 ⟨rfl, hb2⟩
        have hb3 : Below w.heap.size w w2 := Below.trans (by repeat (first | exact hb.out | apply below_drew | apply below_drewN | apply below_alloc | apply below_grow)) (hb2.mono (by have := hb.out.size; first | exact this | (simp; omega)))
        have Hb3 := Lib.hid hb3
        clear hb2 hb3
        go_wp2_with fail
        go_roundg (s.size - i)
        case measure => omega
        case rel => exact ⟨i + d, n + 1, by go_num, Lib.hid (by repeat (first | exact Hb3.out | apply below_drew | apply below_drewN | apply below_alloc | apply below_grow)), Hbn, Hvs, hle, by omega⟩
    · have i1 : ¬ (i : Int) < (s.size : Int) := by omega
      obtain rfl : i = s.size := by omega
      go_wp2_with fail
      go_ret
      exact saysD_ret (fun _ j m hj hlt h8 => hv.out j m hj hlt h8) (by repeat (first | exact hb.out | apply below_drew | apply below_drewN | apply below_alloc | apply below_grow))

theorem take_snoc {s : ByteArray} {i : Nat} (h : i < s.size) : s.data.toList.take (i + 1) = s.data.toList.take i ++ [s[i]'h] := by
  have hl : i < s.data.toList.length := by have := Lib.size_eq s; omega
  rw [List.take_succ_eq_append_getElem hl]
  rfl

/-- How often a byte stands in a text. -/
def cntB (s : ByteArray) (b : UInt8) : Nat := s.data.toList.count b

set_option maxHeartbeats 2000000 in
set_option maxRecDepth 100000 in
theorem zzCountByte_any (s : ByteArray) (b : UInt8) (hs : s.size ≤ 1048576) (w : World) :
    Calls Tryf.prog 21 #[.string s, .int .u8 b.toNat] w fun e w' => e = .returned (.int .i64 (cntB s b : Nat)) ∧ Below w.heap.size w w' := by
  go_enter Tryf.func21, Tryf.ntmps21
  go_wp2_with fail
  go_loopg [5, 6] (s.size + 1) (fun g nv iv wr => ∃ i n : Nat, nv = .int .i64 n ∧ iv = .int .i64 i ∧ Hid (Below w.heap.size w wr) ∧ Hid ((s.data.toList.take i).count b = n) ∧ i ≤ s.size ∧ n ≤ i ∧ s.size - i < g)
  case atStart => exact ⟨0, 0, rfl, rfl, Lib.hid (by repeat (first | exact Below.refl _ _ | apply below_drew | apply below_drewN | apply below_alloc | apply below_grow)), Lib.hid rfl, Nat.zero_le _, Nat.zero_le _, by omega⟩
  case round =>
    obtain ⟨i, n, rfl, rfl, hb, hc, hi', hni, hg⟩ := hrel
    by_cases hin : i < s.size
    · have i0 : (0 : Int) ≤ (i : Int) := by omega
      have i1 : (i : Int) < (s.size : Int) := by omega
      have ht := take_snoc hin
      have hcc := congrArg (List.count b) ht
      rw [List.count_append, hc.out] at hcc
      by_cases hq : s[i]'hin = b
      · have e : (((s[i]'hin).toNat : Int) == (b.toNat : Int)) = true := by rw [hq]; simp
        rw [hq, List.count_singleton_self] at hcc
        have Hcc := Lib.hid hcc
        clear ht hcc hc hq
        go_wp2_with fail
        go_roundg (s.size - i)
        case measure => omega
        case rel => exact ⟨i + 1, n + 1, by go_num, by go_num, Lib.hid (by repeat (first | exact hb.out | apply below_drew | apply below_drewN | apply below_alloc | apply below_grow)), Hcc, by omega, by omega, by omega⟩
      · have e : (((s[i]'hin).toNat : Int) == (b.toNat : Int)) = false := by
          rw [beq_eq_false_iff_ne]
          intro h
          exact hq (UInt8.toNat_inj.1 (by omega))
        have h0 : List.count b [s[i]'hin] = 0 := List.count_eq_zero.2 (fun h => hq (List.mem_singleton.1 h).symm)
        rw [h0, Nat.add_zero] at hcc
        have Hcc := Lib.hid hcc
        clear ht hcc hc hq h0
        go_wp2_with fail
        go_roundg (s.size - i)
        case measure => omega
        case rel => exact ⟨i + 1, n, by go_num, rfl, Lib.hid (by repeat (first | exact hb.out | apply below_drew | apply below_drewN | apply below_alloc | apply below_grow)), Hcc, by omega, by omega, by omega⟩
    · have i1 : ¬ (i : Int) < (s.size : Int) := by omega
      obtain rfl : i = s.size := by omega
      have hcc := hc.out
      rw [List.take_of_length_le (by have := Lib.size_eq s; omega)] at hcc
      have Hcc := Lib.hid hcc
      clear hcc hc
      go_wp2_with fail
      go_ret
      exact ⟨by rw [show cntB s b = n from Hcc.out]; rfl, (by repeat (first | exact hb.out | apply below_drew | apply below_drewN | apply below_alloc | apply below_grow))⟩

theorem zzHasByte_any (s : ByteArray) (b : UInt8) (hs : s.size ≤ 1048576) (w : World) :
    Calls Tryf.prog 13 #[.string s, .int .u8 b.toNat] w (SaysD (fun r => r = false → ∀ x, x < s.size → byt s x ≠ b.toNat) w) := by
  have hc := zzCountByte_any s b hs w
  have hle : cntB s b ≤ s.size := by unfold cntB; have := List.count_le_length (a := b) (l := s.data.toList); have := Lib.size_eq s; omega
  have hno : cntB s b = 0 → ∀ x, x < s.size → byt s x ≠ b.toNat := fun h x hx e => by
    unfold cntB at h
    rw [List.count_eq_zero] at h
    rw [byt_of hx] at e
    exact h (by rw [← UInt8.toNat_inj.1 e]; exact List.getElem_mem (l := s.data.toList) (n := x) (by have := Lib.size_eq s; omega))
  obtain ⟨n, hn⟩ : ∃ n, cntB s b = n := ⟨_, rfl⟩
  rw [hn] at hc hle hno
  have Hc := Lib.hid hc
  have Hno := Lib.hid hno
  clear hc hno hn
  by_cases h0 : n = 0
  · have n0 : ¬ (0 : Int) < (n : Int) := by omega
    go_enter Tryf.func13, Tryf.ntmps13
    go_wp2_with fail
    refine Hc.out.mono ?_
    rintro e w' ⟨rfl, hb⟩
    go_wp2_with fail
    go_ret
    exact saysD_ret (fun _ => Hno.out h0) hb
  · have n0 : (0 : Int) < (n : Int) := by omega
    go_enter Tryf.func13, Tryf.ntmps13
    go_wp2_with fail
    refine Hc.out.mono ?_
    rintro e w' ⟨rfl, hb⟩
    go_wp2_with fail
    go_ret
    exact saysD_ret (fun h => by exfalso; revert h; simp; omega) hb

end Go.Proofs.YtdpdgppjeekcmaaFmt
