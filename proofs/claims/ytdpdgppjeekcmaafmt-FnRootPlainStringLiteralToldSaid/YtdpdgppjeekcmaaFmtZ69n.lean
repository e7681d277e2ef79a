/-
  Walks of what the laws of n003_69 call: texts built byte by byte: doubled backticks, pairs undone, the normal form.
-/
import Derived.Test.YtdpdgppjeekcmaaFmtZ69m
import Derived.Test.YtdpdgppjeekcmaaFmtP69
import Derived.Test.YtdpdgppjeekcmaaFmtP69R
import Derived.Lib.AppendStr
namespace Go.Proofs.YtdpdgppjeekcmaaFmt
open Go Go.Lib Go.RowKit Go.Proofs
open Go.Extern.Stop Go.Stop Go.Extern

theorem bytes_strCells (l : List UInt8) (v : ByteArray) : byteCells l ++ Lib.strCells v = byteCells (l ++ v.data.toList) := by simp [byteCells, Lib.strCells]
/-- A row of bytes that grows. -/
def Row8 (w0 w : World) (v : Value) (l : List UInt8) : Prop := w.ownsRow w0.heap.size 5 1 v l.length (byteCells l) ∧ Below w0.heap.size w0 w
theorem row_nil (w : World) : Row8 w w (.slice none 0 0) [] := ⟨World.ownsRow_nil _ _ _ _, Below.refl _ _⟩
theorem row_below {w0 w w' : World} {v : Value} {l : List UInt8} (h : Row8 w0 w v l) (hb : Below w.heap.size w w') : Row8 w0 w' v l := by
  refine ⟨?_, h.2.trans (hb.mono h.2.size)⟩
  obtain ⟨h1, h2⟩ := h.1
  refine ⟨h1, ?_⟩
  rcases h2 with h2 | ⟨g, cap, cur, rfl, hg, hh, r⟩
  · exact .inl h2
  · exact .inr ⟨g, cap, cur, rfl, hg, (hb.block g ((h.1.lt g rfl).2)).trans hh, r⟩
theorem row_grown {w0 wr w1 : World} {v v' : Value} {l : List UInt8} (x : List UInt8) (h : Row8 w0 wr v l) {o : Obj} {n : Nat} (hn : n = l.length + x.length)
    (hown' : w1.ownsRow w0.heap.size 5 1 v' n (byteCells l ++ byteCells x)) (hg : (wr.alloc o).grownBy w1 v.ownBlock) : Row8 w0 w1 v' (l ++ x) := by
  refine ⟨?_, ?_⟩
  · have e : byteCells (l ++ x) = byteCells l ++ byteCells x := by simp [byteCells]
    rw [e, List.length_append, ← hn]
    exact hown'
  · refine (h.2.alloc h.2.size o).grown hg (by simp; have := h.2.size; omega) (fun g hgg => (h.1.lt g hgg).1)
theorem row_text {w0 wr w1 : World} {v v' : Value} {l : List UInt8} {x : ByteArray} (h : Row8 w0 wr v l) {n : Nat} (hn : n = l.length + x.size)
    (hown' : w1.ownsRow w0.heap.size 5 1 v' n (byteCells l ++ Lib.strCells x)) (hg : wr.grownBy w1 v.ownBlock) : Row8 w0 w1 v' (l ++ x.data.toList) := by
  refine ⟨?_, h.2.grown hg h.2.size (fun g hgg => (h.1.lt g hgg).1)⟩
  rw [← bytes_strCells, List.length_append, ← Lib.size_eq, ← hn]
  exact hown'

theorem dbl_snoc (l : List UInt8) (b : UInt8) : dbl (l ++ [b]) = dbl l ++ (if b = 96 then [96, 96] else [b]) := by
  rw [dbl_append]
  congr 1
theorem dbl_le (l : List UInt8) : (dbl l).length ≤ 2 * l.length := by
  induction l with
  | nil => exact Nat.le_refl _
  | cons b l ih =>
    rw [dbl]
    split <;> simp only [List.length_cons] <;> omega

set_option maxHeartbeats 4000000 in
set_option maxRecDepth 100000 in
theorem zzDouble_any (s : ByteArray) (hs : s.size ≤ 1048576) (w : World) :
    Calls Tryf.prog 19 #[.string s] w fun e w' => e = .returned (.string ⟨(dbl s.data.toList).toArray⟩) ∧ Below w.heap.size w w' := by
  obtain ⟨i0, hi0, hzr0, hzr1, hzr2⟩ := info_parts infoU8
  have hu : Tryf.prog.underlying 46 = some (.slice 5) := by kernel_rfl
  have hus : Tryf.prog.underlying 9 = some .string := by kernel_rfl
  have Hi := Lib.hid hi0
  have Hz0 := Lib.hid hzr0
  have Hz1 := Lib.hid hzr1
  have Hz2 := Lib.hid hzr2
  have Hu := Lib.hid hu
  have Hus := Lib.hid hus
  clear hi0 hzr0 hzr1 hzr2 hu hus
  go_enter Tryf.func19, Tryf.ntmps19
  go_wp2_with fail
  go_loopg [3, 4] (s.size + 1) (fun g ov iv wr => ∃ (i : Nat) (l : List UInt8), iv = .int .i64 i ∧ Hid (Row8 w wr ov l) ∧ Hid (l = dbl (s.data.toList.take i)) ∧ l.length ≤ 2 * i ∧ i ≤ s.size ∧ s.size - i < g)
  case atStart => exact ⟨0, [], rfl, Lib.hid (row_nil w), Lib.hid rfl, Nat.le_refl _, Nat.zero_le _, by omega⟩
  case round =>
    obtain ⟨i, l, rfl, hr, hl, hll, hi', hg⟩ := hrel
    have hrs := hr.out.2.size
    by_cases hin : i < s.size
    · have p0 : (0 : Int) ≤ (i : Int) := by omega
      have p1 : (i : Int) < (s.size : Int) := by omega
      have ht := congrArg dbl (take_snoc hin)
      rw [dbl_snoc, ← hl.out] at ht
      obtain ⟨c, hc⟩ : ∃ c, c = s[i]'hin := ⟨_, rfl⟩
      by_cases hq : s[i]'hin = 96
      · have e : (((s[i]'hin).toNat : Int) == 96) = true := by rw [hq]; rfl
        rw [if_pos hq] at ht
        have Ht := Lib.hid ht
        have Hq := Lib.hid hq
        clear ht hl hq hc
        go_wp2_with (first | (at_builtin; refine wpList_append_own _ rfl _ _ 46 rfl w.heap.size 5 i0 _ 1 1 Hu.out Hi.out Hz0.out Hz1.out Hz2.out rfl (by decide) _ _ _ rfl (hr.out.1.alloc _) ⟨wr.heap.size, 0, none⟩ 1 1 (byteCells [s[i]'hin]) rfl rfl ?c1 ?c2 ?c3 ?c4 ?c5 ?_))
        case c1 =>
          intro j u hj
          match j, hj with
          | 0, hj => simp [byteCells] at hj; subst hj; simp [Addr.add]
          | j + 1, hj => simp [byteCells] at hj
        case c2 => intro u hu; simp [byteCells] at hu; subst hu; rfl
        case c3 => unfold maxLen; simp; omega
        case c4 => simp; omega
        case c5 => first | omega | (simp; omega)
        intro v1 w1 hown1 hgr1 _
        have r1 := row_grown [s[i]'hin] hr.out (by simp) hown1 hgr1
        have R1 := Lib.hid r1
        have s1 := r1.2.size
        clear r1 hown1 hgr1
        go_wp2_with (first | (at_builtin; refine wpList_append_own _ rfl _ _ 46 rfl w.heap.size 5 i0 _ 1 1 Hu.out Hi.out Hz0.out Hz1.out Hz2.out rfl (by decide) _ _ _ rfl (R1.out.1.alloc _) ⟨w1.heap.size, 0, none⟩ 1 1 (byteCells [96]) rfl rfl ?d1 ?d2 ?d3 ?d4 ?d5 ?_))
        case d1 =>
          intro j u hj
          match j, hj with
          | 0, hj => simp [byteCells] at hj; subst hj; simp [Addr.add]
          | j + 1, hj => simp [byteCells] at hj
        case d2 => intro u hu; simp [byteCells] at hu; subst hu; rfl
        case d3 => unfold maxLen; simp; omega
        case d4 => simp; omega
        case d5 => first | omega | (simp; omega)
        intro v2 w2 hown2 hgr2 _
        have r2 := row_grown [96] R1.out (by simp) hown2 hgr2
        have R2 := Lib.hid r2
        clear r2 hown2 hgr2
        go_wp2_with fail
        go_roundg (s.size - i)
        case measure => omega
        case rel => exact ⟨i + 1, _, by go_num, R2, Lib.hid (by rw [Ht.out, Hq.out, List.append_assoc]; rfl), by simp; omega, by omega, by omega⟩
      · have e : (((s[i]'hin).toNat : Int) == 96) = false := by
          rw [beq_eq_false_iff_ne]
          intro h
          exact hq (UInt8.toNat_inj.1 (by show _ = 96; omega))
        rw [if_neg hq] at ht
        have Ht := Lib.hid ht
        clear ht hl hq hc
        go_wp2_with (first | (at_builtin; refine wpList_append_own _ rfl _ _ 46 rfl w.heap.size 5 i0 _ 1 1 Hu.out Hi.out Hz0.out Hz1.out Hz2.out rfl (by decide) _ _ _ rfl (hr.out.1.alloc _) ⟨wr.heap.size, 0, none⟩ 1 1 (byteCells [s[i]'hin]) rfl rfl ?c1 ?c2 ?c3 ?c4 ?c5 ?_))
        case c1 =>
          intro j u hj
          match j, hj with
          | 0, hj => simp [byteCells] at hj; subst hj; simp [Addr.add]
          | j + 1, hj => simp [byteCells] at hj
        case c2 => intro u hu; simp [byteCells] at hu; subst hu; rfl
        case c3 => unfold maxLen; simp; omega
        case c4 => simp; omega
        case c5 => first | omega | (simp; omega)
        intro v1 w1 hown1 hgr1 _
        have r1 := row_grown [s[i]'hin] hr.out (by simp) hown1 hgr1
        have R1 := Lib.hid r1
        have s1 := r1.2.size
        clear r1 hown1 hgr1
        go_wp2_with fail
        go_roundg (s.size - i)
        case measure => omega
        case rel => exact ⟨i + 1, _, by go_num, R1, Lib.hid (by rw [Ht.out]), by simp; omega, by omega, by omega⟩
    · have p1 : ¬ (i : Int) < (s.size : Int) := by omega
      obtain rfl : i = s.size := by omega
      have hcv := conv_own hr.out.1
      have hle := hl.out
      rw [List.take_of_length_le (by have := Lib.size_eq s; omega)] at hle
      have Hle := Lib.hid hle
      clear hle hl
      go_wp2_with fail
      go_ret
      exact ⟨by rw [← Hle.out]; rfl, hr.out.2⟩

end Go.Proofs.YtdpdgppjeekcmaaFmt
