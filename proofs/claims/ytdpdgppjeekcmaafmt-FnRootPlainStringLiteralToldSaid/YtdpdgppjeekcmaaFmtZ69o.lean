/-
  Walks of what the laws of n003_69 call: pairs undone, the normal form, the model of a raw string (printed by genunp.py).
-/
import Derived.Test.YtdpdgppjeekcmaaFmtZ69n
namespace Go.Proofs.YtdpdgppjeekcmaaFmt
open Go Go.Lib Go.RowKit Go.Proofs
open Go.Extern.Stop Go.Stop Go.Extern

set_option maxHeartbeats 8000000 in
set_option maxRecDepth 100000 in
/-- zzUnpair: of two backticks one. -/
theorem zzUnpair_any (s : ByteArray) (hs : s.size ≤ 1048576) (w : World) :
    Calls Tryf.prog 37 #[.string s] w fun e w' => e = .returned (.string ⟨(unpGo s 0).toArray⟩) ∧ Below w.heap.size w w' := by
  obtain ⟨i0, hi0, hzr0, hzr1, hzr2⟩ := info_parts infoU8
  have hu : Tryf.prog.underlying 46 = some (.slice 5) := by kernel_rfl
  have hus : Tryf.prog.underlying 9 = some .string := by kernel_rfl
  have Hi := Lib.hid hi0
  have Hz0 := Lib.hid hzr0
  have Hz1 := Lib.hid hzr1
  have Hz2 := Lib.hid hzr2
  have Hu := Lib.hid hu
  have Hus := Lib.hid hus
  clear hi0 hzr0 hzr1 hzr2 hu hus
  go_enter Tryf.func37, Tryf.ntmps37
  go_wp2_with fail
  go_loopg [3, 4] (s.size + 2) (fun g ov iv wr => ∃ (i : Nat) (l : List UInt8), iv = .int .i64 i ∧ Hid (Row8 w wr ov l) ∧ Hid (l ++ unpGo s i = unpGo s 0) ∧ l.length ≤ 3 * i ∧ i ≤ s.size + 1 ∧ s.size + 1 - i < g)
  case atStart => exact ⟨0, [], rfl, Lib.hid (row_nil w), Lib.hid rfl, Nat.le_refl _, Nat.zero_le _, by omega⟩
  case round =>
    obtain ⟨i, l, rfl, hr, hl, hll, hi', hg⟩ := hrel
    have hrs := hr.out.2.size
    by_cases hin : i < s.size
    · have p0 : (0 : Int) ≤ (i : Int) := by omega
      have p1 : (i : Int) < (s.size : Int) := by omega
      have kb := byt_of hin
      by_cases hq : byt s i = 96
      · have e : (((s[i]'hin).toNat : Int) == 96) = true := by rw [beq_iff_eq]; omega
        have ht := hl.out
        rw [unpGo_q hin hq] at ht
        have Ht := Lib.hid ht
        clear ht hl hq kb
        go_wp2_with (first | (at_builtin; refine wpList_append_own _ rfl _ _ 46 rfl w.heap.size 5 i0 _ 1 1 Hu.out Hi.out Hz0.out Hz1.out Hz2.out rfl (by decide) _ _ _ rfl (hr.out.1.alloc _) ⟨wr.heap.size, 0, none⟩ 1 1 (byteCells [96]) rfl rfl ?c1 ?c2 ?c3 ?c4 ?c5 ?_))
        case c1 =>
          intro j u hj
          match j, hj with
          | 0, hj => simp [byteCells] at hj; subst hj; simp [Addr.add]
          | j + 1, hj => simp [byteCells] at hj
        case c2 => intro u hu; simp [byteCells] at hu; subst hu; rfl
        case c3 => unfold maxLen; simp; omega
        case c4 => simp; omega
        case c5 => first | omega | (simp; omega)
        intro v1 w1 hown1 hgr1 _
        have r1 := row_grown [96] hr.out (by simp) hown1 hgr1
        have R1 := Lib.hid r1
        have s1 := r1.2.size
        clear r1 hown1 hgr1
        clear hr
        go_wp2_with fail
        go_roundg (s.size + 1 - i)
        case measure => omega
        case rel => exact ⟨i + 2, _, by go_num, R1, Lib.hid (by rw [← Ht.out, List.append_assoc]; rfl), by simp; omega, by omega, by omega⟩
      · have e : (((s[i]'hin).toNat : Int) == 96) = false := by rw [beq_eq_false_iff_ne]; omega
        have ht := hl.out
        rw [unpGo_step hin hq] at ht
        have hw := zzSize_any s i
        have Hw := Lib.hid hw
        have hle := wAt_le s i hin
        have hpos := wAt_pos s i hin
        unfold oneOut at ht
        obtain ⟨d, hd⟩ : ∃ d, wAt s i = d := ⟨_, rfl⟩
        rw [hd] at Hw hle hpos ht
        have d1 : IntKind.i64.wrap ((i : Int) + (d : Int)) = (i : Int) + (d : Int) := by rw [IntKind.wrap_i64]; omega
        clear hw hl hd hq
        by_cases h8 : 128 ≤ byt s i ∧ d = 1
        · rw [if_pos h8] at ht
          have c0 : (128 : Int) ≤ ((s[i]'hin).toNat : Int) := by omega
          have hd1 : d = 1 := h8.2
          subst hd1
          have Ht := Lib.hid ht
          clear ht h8 kb
          go_wp2_with fail
          refine (Hw.out _ hin hs).mono ?_
          rintro e w2 ⟨rfl, hb2⟩
          have r2 := row_below hr.out hb2
          have R2 := Lib.hid r2
          have s2 := r2.2.size
          clear hb2 r2 hr
          go_wp2_with (first | (at_builtin; refine wpList_append_own _ rfl _ _ 46 rfl w.heap.size 5 i0 _ 1 1 Hu.out Hi.out Hz0.out Hz1.out Hz2.out rfl (by decide) _ _ _ rfl (R2.out.1.alloc _) ⟨w2.heap.size, 0, none⟩ 3 3 (byteCells [239, 191, 189]) rfl rfl ?c1 ?c2 ?c3 ?c4 ?c5 ?_))
          case c1 =>
            intro j u hj
            match j, hj with
            | 0, hj => simp [byteCells] at hj; subst hj; simp [Addr.add]
            | 1, hj => simp [byteCells] at hj; subst hj; simp [Addr.add]
            | 2, hj => simp [byteCells] at hj; subst hj; simp [Addr.add]
            | j + 3, hj => simp [byteCells] at hj
          case c2 => intro u hu; simp [byteCells] at hu; rcases hu with rfl | rfl | rfl <;> rfl
          case c3 => unfold maxLen; simp; omega
          case c4 => simp; omega
          case c5 => first | omega | (simp; omega)
          intro v1 w1 hown1 hgr1 _
          have r1 := row_grown [239, 191, 189] R2.out (by simp) hown1 hgr1
          have R1 := Lib.hid r1
          have s1 := r1.2.size
          clear r1 hown1 hgr1
          clear R2
          go_wp2_with fail
          go_roundg (s.size + 1 - i)
          case measure => omega
          case rel => exact ⟨i + 1, _, by go_num, R1, Lib.hid (by rw [← Ht.out, List.append_assoc]), by simp; omega, by omega, by omega⟩
        · rw [if_neg h8] at ht
          obtain ⟨p, hp⟩ : ∃ p, p = i + d := ⟨_, rfl⟩
          have p0 : (i : Int) + (d : Int) = (p : Int) := by omega
          have p1 : IntKind.i64.wrap (p : Int) = (p : Int) := by rw [IntKind.wrap_i64]; omega
          have p2 : (i : Int) ≤ (p : Int) := by omega
          have p3 : (p : Int) ≤ (s.size : Int) := by omega
          rw [← hp] at ht hle
          have hx : (s.extract i p).size = p - i := by rw [ByteArray.size_extract]; omega
          have Hx := Lib.hid hx
          have Ht := Lib.hid ht
          have Hp := Lib.hid hp
          clear ht hx
          by_cases h9 : 128 ≤ byt s i
          · have c0 : (128 : Int) ≤ ((s[i]'hin).toNat : Int) := by omega
            have c1 : ((d : Int) == 1) = false := by rw [beq_eq_false_iff_ne]; omega
            clear h8 h9 kb hp
            go_wp2_with fail
            refine (Hw.out _ hin hs).mono ?_
            rintro e w2 ⟨rfl, hb2⟩
            have r2 := row_below hr.out hb2
            have R2 := Lib.hid r2
            have s2 := r2.2.size
            clear hb2 r2 hr
            go_wp2_with (first | (at_builtin; refine Lib.wpList_append_own_string _ rfl _ _ 46 9 rfl w.heap.size 5 i0 Hu.out Hus.out Hi.out Hz0.out Hz1.out Hz2.out _ _ _ rfl R2.out.1 _ rfl ?c1 ?c2 ?c3 ?_))
            case c1 => first | (rw [Hx.out]; unfold maxLen; omega) | (unfold maxLen; omega)
            case c2 => first | (rw [Hx.out]; omega) | omega
            try (case c3 => omega)
            intro v1 w1 hown1 hgr1 _
            have r1 := row_text R2.out (by rw [Hx.out]) hown1 hgr1
            have R1 := Lib.hid r1
            clear r1 hown1 hgr1 R2
            go_wp2_with fail
            go_roundg (s.size + 1 - i)
            case measure => omega
            case rel => exact ⟨i + d, _, by go_num, R1, Lib.hid (by rw [← Ht.out, ← Hp.out, List.append_assoc]), by rw [List.length_append, ← Lib.size_eq, Hx.out]; omega, by omega, by omega⟩
          · have c0 : ¬ (128 : Int) ≤ ((s[i]'hin).toNat : Int) := by omega
            clear h8 h9 kb hp
            go_wp2_with fail
            refine (Hw.out _ hin hs).mono ?_
            rintro e w2 ⟨rfl, hb2⟩
            have r2 := row_below hr.out hb2
            have R2 := Lib.hid r2
            have s2 := r2.2.size
            clear hb2 r2 hr
            go_wp2_with (first | (at_builtin; refine Lib.wpList_append_own_string _ rfl _ _ 46 9 rfl w.heap.size 5 i0 Hu.out Hus.out Hi.out Hz0.out Hz1.out Hz2.out _ _ _ rfl R2.out.1 _ rfl ?c1 ?c2 ?c3 ?_))
            case c1 => first | (rw [Hx.out]; unfold maxLen; omega) | (unfold maxLen; omega)
            case c2 => first | (rw [Hx.out]; omega) | omega
            try (case c3 => omega)
            intro v1 w1 hown1 hgr1 _
            have r1 := row_text R2.out (by rw [Hx.out]) hown1 hgr1
            have R1 := Lib.hid r1
            clear r1 hown1 hgr1 R2
            go_wp2_with fail
            go_roundg (s.size + 1 - i)
            case measure => omega
            case rel => exact ⟨i + d, _, by go_num, R1, Lib.hid (by rw [← Ht.out, ← Hp.out, List.append_assoc]), by rw [List.length_append, ← Lib.size_eq, Hx.out]; omega, by omega, by omega⟩
    · have p1 : ¬ (i : Int) < (s.size : Int) := by omega
      have hcv := conv_own hr.out.1
      have ht := hl.out
      rw [unpGo_end hin, List.append_nil] at ht
      have Ht := Lib.hid ht
      clear ht hl
      go_wp2_with fail
      go_ret
      exact ⟨by rw [← Ht.out]; rfl, hr.out.2⟩

set_option maxHeartbeats 8000000 in
set_option maxRecDepth 100000 in
/-- zzNormalize: CR as LF. -/
theorem zzNormalize_any (s : ByteArray) (hs : s.size ≤ 1048576) (w : World) :
    Calls Tryf.prog 15 #[.string s] w fun e w' => e = .returned (.string ⟨(normGo s 0).toArray⟩) ∧ Below w.heap.size w w' := by
  obtain ⟨i0, hi0, hzr0, hzr1, hzr2⟩ := info_parts infoU8
  have hu : Tryf.prog.underlying 46 = some (.slice 5) := by kernel_rfl
  have hus : Tryf.prog.underlying 9 = some .string := by kernel_rfl
  have Hi := Lib.hid hi0
  have Hz0 := Lib.hid hzr0
  have Hz1 := Lib.hid hzr1
  have Hz2 := Lib.hid hzr2
  have Hu := Lib.hid hu
  have Hus := Lib.hid hus
  clear hi0 hzr0 hzr1 hzr2 hu hus
  go_enter Tryf.func15, Tryf.ntmps15
  go_wp2_with fail
  go_loopg [3, 4] (s.size + 2) (fun g ov iv wr => ∃ (i : Nat) (l : List UInt8), iv = .int .i64 i ∧ Hid (Row8 w wr ov l) ∧ Hid (l ++ normGo s i = normGo s 0) ∧ l.length ≤ 3 * i ∧ i ≤ s.size + 1 ∧ s.size + 1 - i < g)
  case atStart => exact ⟨0, [], rfl, Lib.hid (row_nil w), Lib.hid rfl, Nat.le_refl _, Nat.zero_le _, by omega⟩
  case round =>
    obtain ⟨i, l, rfl, hr, hl, hll, hi', hg⟩ := hrel
    have hrs := hr.out.2.size
    by_cases hin : i < s.size
    · have p0 : (0 : Int) ≤ (i : Int) := by omega
      have p1 : (i : Int) < (s.size : Int) := by omega
      have kb := byt_of hin
      by_cases hq : byt s i = 13
      · have e : (((s[i]'hin).toNat : Int) == 13) = true := by rw [beq_iff_eq]; omega
        have ht := hl.out
        rw [normGo_cr hin hq] at ht
        have Ht := Lib.hid ht
        clear ht hl hq kb
        go_wp2_with (first | (at_builtin; refine wpList_append_own _ rfl _ _ 46 rfl w.heap.size 5 i0 _ 1 1 Hu.out Hi.out Hz0.out Hz1.out Hz2.out rfl (by decide) _ _ _ rfl (hr.out.1.alloc _) ⟨wr.heap.size, 0, none⟩ 1 1 (byteCells [10]) rfl rfl ?c1 ?c2 ?c3 ?c4 ?c5 ?_))
        case c1 =>
          intro j u hj
          match j, hj with
          | 0, hj => simp [byteCells] at hj; subst hj; simp [Addr.add]
          | j + 1, hj => simp [byteCells] at hj
        case c2 => intro u hu; simp [byteCells] at hu; subst hu; rfl
        case c3 => unfold maxLen; simp; omega
        case c4 => simp; omega
        case c5 => first | omega | (simp; omega)
        intro v1 w1 hown1 hgr1 _
        have r1 := row_grown [10] hr.out (by simp) hown1 hgr1
        have R1 := Lib.hid r1
        have s1 := r1.2.size
        clear r1 hown1 hgr1
        clear hr
        go_wp2_with fail
        go_roundg (s.size + 1 - i)
        case measure => omega
        case rel => exact ⟨i + 1, _, by go_num, R1, Lib.hid (by rw [← Ht.out, List.append_assoc]; rfl), by simp; omega, by omega, by omega⟩
      · have e : (((s[i]'hin).toNat : Int) == 13) = false := by rw [beq_eq_false_iff_ne]; omega
        have ht := hl.out
        rw [normGo_step hin hq] at ht
        have hw := zzSize_any s i
        have Hw := Lib.hid hw
        have hle := wAt_le s i hin
        have hpos := wAt_pos s i hin
        unfold oneOut at ht
        obtain ⟨d, hd⟩ : ∃ d, wAt s i = d := ⟨_, rfl⟩
        rw [hd] at Hw hle hpos ht
        have d1 : IntKind.i64.wrap ((i : Int) + (d : Int)) = (i : Int) + (d : Int) := by rw [IntKind.wrap_i64]; omega
        clear hw hl hd hq
        by_cases h8 : 128 ≤ byt s i ∧ d = 1
        · rw [if_pos h8] at ht
          have c0 : (128 : Int) ≤ ((s[i]'hin).toNat : Int) := by omega
          have hd1 : d = 1 := h8.2
          subst hd1
          have Ht := Lib.hid ht
          clear ht h8 kb
          go_wp2_with fail
          refine (Hw.out _ hin hs).mono ?_
          rintro e w2 ⟨rfl, hb2⟩
          have r2 := row_below hr.out hb2
          have R2 := Lib.hid r2
          have s2 := r2.2.size
          clear hb2 r2 hr
          go_wp2_with (first | (at_builtin; refine wpList_append_own _ rfl _ _ 46 rfl w.heap.size 5 i0 _ 1 1 Hu.out Hi.out Hz0.out Hz1.out Hz2.out rfl (by decide) _ _ _ rfl (R2.out.1.alloc _) ⟨w2.heap.size, 0, none⟩ 3 3 (byteCells [239, 191, 189]) rfl rfl ?c1 ?c2 ?c3 ?c4 ?c5 ?_))
          case c1 =>
            intro j u hj
            match j, hj with
            | 0, hj => simp [byteCells] at hj; subst hj; simp [Addr.add]
            | 1, hj => simp [byteCells] at hj; subst hj; simp [Addr.add]
            | 2, hj => simp [byteCells] at hj; subst hj; simp [Addr.add]
            | j + 3, hj => simp [byteCells] at hj
          case c2 => intro u hu; simp [byteCells] at hu; rcases hu with rfl | rfl | rfl <;> rfl
          case c3 => unfold maxLen; simp; omega
          case c4 => simp; omega
          case c5 => first | omega | (simp; omega)
          intro v1 w1 hown1 hgr1 _
          have r1 := row_grown [239, 191, 189] R2.out (by simp) hown1 hgr1
          have R1 := Lib.hid r1
          have s1 := r1.2.size
          clear r1 hown1 hgr1
          clear R2
          go_wp2_with fail
          go_roundg (s.size + 1 - i)
          case measure => omega
          case rel => exact ⟨i + 1, _, by go_num, R1, Lib.hid (by rw [← Ht.out, List.append_assoc]), by simp; omega, by omega, by omega⟩
        · rw [if_neg h8] at ht
          obtain ⟨p, hp⟩ : ∃ p, p = i + d := ⟨_, rfl⟩
          have p0 : (i : Int) + (d : Int) = (p : Int) := by omega
          have p1 : IntKind.i64.wrap (p : Int) = (p : Int) := by rw [IntKind.wrap_i64]; omega
          have p2 : (i : Int) ≤ (p : Int) := by omega
          have p3 : (p : Int) ≤ (s.size : Int) := by omega
          rw [← hp] at ht hle
          have hx : (s.extract i p).size = p - i := by rw [ByteArray.size_extract]; omega
          have Hx := Lib.hid hx
          have Ht := Lib.hid ht
          have Hp := Lib.hid hp
          clear ht hx
          by_cases h9 : 128 ≤ byt s i
          · have c0 : (128 : Int) ≤ ((s[i]'hin).toNat : Int) := by omega
            have c1 : ((d : Int) == 1) = false := by rw [beq_eq_false_iff_ne]; omega
            clear h8 h9 kb hp
            go_wp2_with fail
            refine (Hw.out _ hin hs).mono ?_
            rintro e w2 ⟨rfl, hb2⟩
            have r2 := row_below hr.out hb2
            have R2 := Lib.hid r2
            have s2 := r2.2.size
            clear hb2 r2 hr
            go_wp2_with (first | (at_builtin; refine Lib.wpList_append_own_string _ rfl _ _ 46 9 rfl w.heap.size 5 i0 Hu.out Hus.out Hi.out Hz0.out Hz1.out Hz2.out _ _ _ rfl R2.out.1 _ rfl ?c1 ?c2 ?c3 ?_))
            case c1 => first | (rw [Hx.out]; unfold maxLen; omega) | (unfold maxLen; omega)
            case c2 => first | (rw [Hx.out]; omega) | omega
            try (case c3 => omega)
            intro v1 w1 hown1 hgr1 _
            have r1 := row_text R2.out (by rw [Hx.out]) hown1 hgr1
            have R1 := Lib.hid r1
            clear r1 hown1 hgr1 R2
            go_wp2_with fail
            go_roundg (s.size + 1 - i)
            case measure => omega
            case rel => exact ⟨i + d, _, by go_num, R1, Lib.hid (by rw [← Ht.out, ← Hp.out, List.append_assoc]), by rw [List.length_append, ← Lib.size_eq, Hx.out]; omega, by omega, by omega⟩
          · have c0 : ¬ (128 : Int) ≤ ((s[i]'hin).toNat : Int) := by omega
            clear h8 h9 kb hp
            go_wp2_with fail
            refine (Hw.out _ hin hs).mono ?_
            rintro e w2 ⟨rfl, hb2⟩
            have r2 := row_below hr.out hb2
            have R2 := Lib.hid r2
            have s2 := r2.2.size
            clear hb2 r2 hr
            go_wp2_with (first | (at_builtin; refine Lib.wpList_append_own_string _ rfl _ _ 46 9 rfl w.heap.size 5 i0 Hu.out Hus.out Hi.out Hz0.out Hz1.out Hz2.out _ _ _ rfl R2.out.1 _ rfl ?c1 ?c2 ?c3 ?_))
            case c1 => first | (rw [Hx.out]; unfold maxLen; omega) | (unfold maxLen; omega)
            case c2 => first | (rw [Hx.out]; omega) | omega
            try (case c3 => omega)
            intro v1 w1 hown1 hgr1 _
            have r1 := row_text R2.out (by rw [Hx.out]) hown1 hgr1
            have R1 := Lib.hid r1
            clear r1 hown1 hgr1 R2
            go_wp2_with fail
            go_roundg (s.size + 1 - i)
            case measure => omega
            case rel => exact ⟨i + d, _, by go_num, R1, Lib.hid (by rw [← Ht.out, ← Hp.out, List.append_assoc]), by rw [List.length_append, ← Lib.size_eq, Hx.out]; omega, by omega, by omega⟩
    · have p1 : ¬ (i : Int) < (s.size : Int) := by omega
      have hcv := conv_own hr.out.1
      have ht := hl.out
      rw [normGo_end hin, List.append_nil] at ht
      have Ht := Lib.hid ht
      clear ht hl
      go_wp2_with fail
      go_ret
      exact ⟨by rw [← Ht.out]; rfl, hr.out.2⟩

theorem results_four {fn : Func} {t u v x : Tmp} (h : fn.results = #[.tmp t, .tmp u, .tmp v, .tmp x]) (tmps : Array Value) (P : Program) (w : World) :
    Sem.run P (results fn tmps) w = .ok (.tuple #[tmps.getD t undef, tmps.getD u undef, tmps.getD v undef, tmps.getD x undef]) w := by
  simp [results, h]
/-- What zzModelRaw answers. -/
def rawVal (s : ByteArray) : Bool × Nat × Nat × Nat → Value
  | (true, n, j, p) => .tuple #[.bool true, .int .i64 n, .int .i64 (j + 2 : Nat), .string (if p = 0 then s.extract 0 j else ⟨(unpGo (s.extract 0 j) 0).toArray⟩)]
  | (false, _, _, _) => .tuple #[.bool false, .int .i64 0, .int .i64 0, .string ⟨#[]⟩]

set_option maxHeartbeats 8000000 in
set_option maxRecDepth 100000 in
theorem zzModelRaw_any (s : ByteArray) (hs : s.size ≤ 1048576) (w : World) :
    Calls Tryf.prog 23 #[.string s] w fun e w' => e = .returned (rawVal s (rawM s 0 0 0)) ∧ Below w.heap.size w w' := by
  go_enter Tryf.func23, Tryf.ntmps23
  go_wp2_with fail
  go_loopg [6, 7, 8] (s.size + 1) (fun g iv nv pv wr => ∃ (i n p : Nat), iv = .int .i64 i ∧ nv = .int .i64 n ∧ pv = .int .i64 p ∧ Hid (Below w.heap.size w wr) ∧ Hid (rawM s i n p = rawM s 0 0 0) ∧ n ≤ i ∧ p ≤ i ∧ i ≤ s.size ∧ s.size - i < g)
  case atStart => exact ⟨0, 0, 0, rfl, rfl, rfl, Lib.hid (Below.refl _ _), Lib.hid rfl, Nat.le_refl _, Nat.le_refl _, Nat.zero_le _, by omega⟩
  case round =>
    obtain ⟨i, n, p, rfl, rfl, rfl, hb, hm, hni, hpi, hi', hg⟩ := hrel
    by_cases hin : i < s.size
    · have p0 : (0 : Int) ≤ (i : Int) := by omega
      have p1 : (i : Int) < (s.size : Int) := by omega
      have kb := byt_of hin
      by_cases hq : byt s i = 96
      · have e : (((s[i]'hin).toNat : Int) == 96) = true := by rw [beq_iff_eq]; omega
        obtain ⟨r, hr⟩ : ∃ r, r = i + 1 := ⟨_, rfl⟩
        have r0 : (i : Int) + 1 = (r : Int) := by omega
        have r1 : IntKind.i64.wrap (r : Int) = (r : Int) := by rw [IntKind.wrap_i64]; omega
        by_cases hn : r < s.size
        · have n0 : (0 : Int) ≤ (r : Int) := by omega
          have n1 : (r : Int) < (s.size : Int) := by omega
          have kn := byt_of hn
          by_cases hq2 : byt s r = 96
          · have e2 : (((s[r]'hn).toNat : Int) == 96) = true := by rw [beq_iff_eq]; omega
            have ht := hm.out
            rw [rawM_pair (by omega) hq (by rw [← hr]; exact hq2)] at ht
            have Ht := Lib.hid ht
            clear ht hm hq hq2 kb kn hr
            go_wp2_with fail
            go_roundg (s.size - i)
            case measure => omega
            case rel => exact ⟨i + 2, n, p + 1, by go_num, rfl, by go_num, Lib.hid (by repeat (first | exact hb.out | apply below_drew | apply below_drewN | apply below_alloc | apply below_grow)), Ht, by omega, by omega, by omega, by omega⟩
          · have e2 : (((s[r]'hn).toNat : Int) == 96) = false := by rw [beq_eq_false_iff_ne]; omega
            have ht := hm.out
            rw [rawM_stop hin hq (fun h => hq2 (by rw [hr]; exact h.2))] at ht
            have Ht := Lib.hid ht
            clear ht hm hq hq2 kb kn hr
            have j1 : (i : Int) ≤ (s.size : Int) := by omega
            have hx : (s.extract 0 i).size ≤ 1048576 := by rw [ByteArray.size_extract]; omega
            obtain ⟨x, hxx⟩ : ∃ x, s.extract 0 i = x := ⟨_, rfl⟩
            by_cases hp : p = 0
            · have p0 : ((p : Int) == 0) = true := by rw [beq_iff_eq]; omega
              have Hxx := Lib.hid hxx
              have Hp := Lib.hid hp
              clear hxx hp
              go_wp2_with fail
              go_quiet (fail)
              go_wp2_with fail
              refine bodyPost_ret (results_four rfl _ _ _) rfl ?_
              exact ⟨by rw [← Ht.out]; simp only [rawVal, if_pos Hp.out]; rfl, (by repeat (first | exact hb.out | apply below_drew | apply below_drewN | apply below_alloc | apply below_grow))⟩
            · have p0 : ((p : Int) == 0) = false := by rw [beq_eq_false_iff_ne]; omega
              have p0' : ¬ (p : Int) = 0 := by omega
              have hun := zzUnpair_any (s.extract 0 i) hx
              have Hun := Lib.hid hun
              have Hp := Lib.hid hp
              clear hun hxx hp
              go_wp2_with fail
              refine (Hun.out _).mono ?_
              rintro e w2 ⟨rfl, hb2⟩
              have hb3 : Below w.heap.size w w2 := Below.trans (by repeat (first | exact hb.out | apply below_drew | apply below_drewN | apply below_alloc | apply below_grow)) (hb2.mono (by have := hb.out.size; first | exact this | (simp; omega)))
              have Hb3 := Lib.hid hb3
              clear hb2 hb3
              go_wp2_with fail
              refine bodyPost_ret (results_four rfl _ _ _) rfl ?_
              exact ⟨by rw [← Ht.out]; simp only [rawVal, if_neg Hp.out]; rfl, Hb3.out⟩
        · have n1 : ¬ (r : Int) < (s.size : Int) := by omega
          have ht := hm.out
          rw [rawM_stop hin hq (fun h => hn (by rw [hr]; exact h.1))] at ht
          have Ht := Lib.hid ht
          clear ht hm hq kb hr
          have j1 : (i : Int) ≤ (s.size : Int) := by omega
          have hx : (s.extract 0 i).size ≤ 1048576 := by rw [ByteArray.size_extract]; omega
          obtain ⟨x, hxx⟩ : ∃ x, s.extract 0 i = x := ⟨_, rfl⟩
          by_cases hp : p = 0
          · have p0 : ((p : Int) == 0) = true := by rw [beq_iff_eq]; omega
            have Hxx := Lib.hid hxx
            have Hp := Lib.hid hp
            clear hxx hp
            go_wp2_with fail
            go_quiet (fail)
            go_wp2_with fail
            refine bodyPost_ret (results_four rfl _ _ _) rfl ?_
            exact ⟨by rw [← Ht.out]; simp only [rawVal, if_pos Hp.out]; rfl, (by repeat (first | exact hb.out | apply below_drew | apply below_drewN | apply below_alloc | apply below_grow))⟩
          · have p0 : ((p : Int) == 0) = false := by rw [beq_eq_false_iff_ne]; omega
            have p0' : ¬ (p : Int) = 0 := by omega
            have hun := zzUnpair_any (s.extract 0 i) hx
            have Hun := Lib.hid hun
            have Hp := Lib.hid hp
            clear hun hxx hp
            go_wp2_with fail
            refine (Hun.out _).mono ?_
            rintro e w2 ⟨rfl, hb2⟩
            have hb3 : Below w.heap.size w w2 := Below.trans (by repeat (first | exact hb.out | apply below_drew | apply below_drewN | apply below_alloc | apply below_grow)) (hb2.mono (by have := hb.out.size; first | exact this | (simp; omega)))
            have Hb3 := Lib.hid hb3
            clear hb2 hb3
            go_wp2_with fail
            refine bodyPost_ret (results_four rfl _ _ _) rfl ?_
            exact ⟨by rw [← Ht.out]; simp only [rawVal, if_neg Hp.out]; rfl, Hb3.out⟩
      · have e : (((s[i]'hin).toNat : Int) == 96) = false := by rw [beq_eq_false_iff_ne]; omega
        have ht := hm.out
        rw [rawM_step hin hq] at ht
        have hw := zzSize_any s i
        have Hw := Lib.hid hw
        have hle := wAt_le s i hin
        have hpos := wAt_pos s i hin
        obtain ⟨d, hd⟩ : ∃ d, wAt s i = d := ⟨_, rfl⟩
        rw [hd] at Hw hle hpos ht
        have d1 : IntKind.i64.wrap ((i : Int) + (d : Int)) = (i : Int) + (d : Int) := by rw [IntKind.wrap_i64]; omega
        have Ht := Lib.hid ht
        clear hw hm hd hq kb ht
        go_wp2_with fail
        refine (Hw.out _ hin hs).mono ?_
        rintro e w2 ⟨rfl, hb2⟩
        have hb3 : Below w.heap.size w w2 := Below.trans (by repeat (first | exact hb.out | apply below_drew | apply below_drewN | apply below_alloc | apply below_grow)) (hb2.mono (by have := hb.out.size; first | exact this | (simp; omega)))
        have Hb3 := Lib.hid hb3
        clear hb2 hb3
        go_wp2_with fail
        go_roundg (s.size - i)
        case measure => omega
        case rel => exact ⟨i + d, n + 1, p, by go_num, by go_num, rfl, Lib.hid (by repeat (first | exact Hb3.out | apply below_drew | apply below_drewN | apply below_alloc | apply below_grow)), Ht, by omega, by omega, hle, by omega⟩
    · have p1 : ¬ (i : Int) < (s.size : Int) := by omega
      have ht := hm.out
      rw [rawM_end hin] at ht
      have Ht := Lib.hid ht
      clear ht hm
      go_wp2_with fail
      refine bodyPost_ret (results_four rfl _ _ _) rfl ?_
      exact ⟨by rw [← Ht.out]; rfl, (by repeat (first | exact hb.out | apply below_drew | apply below_drewN | apply below_alloc | apply below_grow))⟩

end Go.Proofs.YtdpdgppjeekcmaaFmt
