/-
  Walk: zzNewlines.
-/
import Derived.Test.YtdpdgppjeekcmaaFmtBytes
import Derived.Test.YtdpdgppjeekcmaaFmtJA
import Derived.WalkKit
namespace Go.Proofs.YtdpdgppjeekcmaaFmt
open Go Go.Lib Go.RowKit Go.Proofs

theorem byteCells_snoc (l : List UInt8) (b : UInt8) : byteCells l ++ [.int .u8 (b.toNat : Nat)] = byteCells (l ++ [b]) := by simp [byteCells]
theorem get_at {s : ByteArray} {i : Nat} (h : i < s.size) : s.get! i = s[i]'h := by
  have h' : i < s.data.size := h
  simp only [ByteArray.get!, ByteArray.getElem_eq_getElem_data, Array.getElem!_eq_getD, Array.getD]
  rw [dif_pos h']
  rfl
/-- One byte appended: what the loop's limbs become. -/
theorem own_push {w0 wr w1 : World} {v v' : Value} {l : List UInt8} {x : Int} {b : UInt8} (hx : x = (b.toNat : Nat)) (hb : Below w0.heap.size w0 wr) (hown : wr.ownsRow w0.heap.size 5 1 v l.length (byteCells l)) (o : Obj)
    (hown' : w1.ownsRow w0.heap.size 5 1 v' (l.length + 1) (byteCells l ++ [.int .u8 x])) (hg : (wr.alloc o).grownBy w1 v.ownBlock) :
    w1.ownsRow w0.heap.size 5 1 v' (l ++ [b]).length (byteCells (l ++ [b])) ∧ Below w0.heap.size w0 w1 := by
  refine ⟨?_, ?_⟩
  · rw [← byteCells_snoc, List.length_append, ← hx]
    exact hown'
  · refine (hb.alloc hb.size o).grown hg (by simp; have := hb.size; omega) (fun g hgg => ?_)
    obtain ⟨h0, ⟨rfl, _⟩ | ⟨g', cap, cur, rfl, hB, _⟩⟩ := hown
    · simp [Value.ownBlock] at hgg
    · simp [Value.ownBlock] at hgg
      omega

set_option maxHeartbeats 4000000 in
set_option maxRecDepth 100000 in
theorem newlines_any (s : ByteArray) (hs : s.size ≤ 1099511627776) (w : World) :
    Calls Tryf.prog 81 #[.string s] w fun e w' => e = .returned (.string (newlines s)) ∧ Below w.heap.size w w' := by
  obtain ⟨i0, hi, hz0, hz1, hz2⟩ := info_parts infoU8
  have hu : Tryf.prog.underlying 46 = some (.slice 5) := by kernel_rfl
  have Hi := Lib.hid hi
  have Hz0 := Lib.hid hz0
  have Hz1 := Lib.hid hz1
  have Hz2 := Lib.hid hz2
  have Hu := Lib.hid hu
  clear hi hz0 hz1 hz2 hu
  go_enter Tryf.func81, Tryf.ntmps81
  go_wp2_with fail
  go_loopg [3, 4] (s.size + 1) (fun g bv iv wr => ∃ (i f : Nat) (l : List UInt8), iv = .int .i64 (i : Nat) ∧ wr.ownsRow w.heap.size 5 1 bv l.length (byteCells l) ∧ Below w.heap.size w wr ∧ Hid (l ++ newl s f i = newl s s.size 0) ∧ l.length ≤ i ∧ i ≤ s.size ∧ s.size ≤ i + f ∧ s.size - i < g)
  case atStart => exact ⟨0, s.size, [], rfl, World.ownsRow_nil _ _ _ _, Below.refl _ _, Lib.hid rfl, Nat.zero_le _, Nat.zero_le _, by omega, by omega⟩
  case round =>
    obtain ⟨i, f, l, rfl, hown, hb, heq, hl, hi', hf, hg⟩ := hrel
    have hbs := hb.size
    by_cases hin : i < s.size
    · have j0 : (0 : Int) ≤ (i : Int) := by omega
      have j1 : (i : Int) < (s.size : Int) := by omega
      obtain ⟨f', rfl⟩ : ∃ f', f = f' + 1 := ⟨f - 1, by omega⟩
      have hst := heq.out
      rw [newl, if_pos hin] at hst
      clear heq
      have kb := byt_of hin
      have kg := get_at hin
      by_cases h13 : byt s i = 13
      · rw [if_pos h13] at hst
        have e13 : (((s[i]'hin).toNat : Int) == 13) = true := by rw [beq_iff_eq]; omega
        have Hst := Lib.hid hst
        clear hst kb kg h13
        go_wp2_with (first | (at_builtin; refine wpList_append_own _ rfl _ _ 46 rfl w.heap.size 5 i0 (.int .u8 0) 1 1 Hu.out Hi.out Hz0.out Hz1.out Hz2.out rfl (by decide) _ _ _ rfl (hown.alloc _) ⟨wr.heap.size, 0, none⟩ 1 1 [.int .u8 10] rfl rfl ?c1 ?c2 ?c3 ?c4 ?c5 ?_))
        case c1 =>
          intro j u hj
          match j, hj with
          | 0, hj => simp at hj; subst hj; simp [Addr.add]
        case c2 => intro u hu; simp at hu; subst hu; rfl
        case c3 => unfold maxLen; omega
        case c4 => omega
        case c5 => simp; omega
        intro v' w1 hown' hgrow _
        have R := own_push (b := 10) rfl hb hown _ hown' hgrow
        clear hown' hgrow hown hb
        have R1 := R.1
        have R2 := R.2
        clear R
        by_cases hn : i + 1 < s.size
        · have n0 : (0 : Int) ≤ (i : Int) + 1 := by omega
          have n1 : (i : Int) + 1 < (s.size : Int) := by omega
          have n2 : ((i : Int) + 1).toNat = i + 1 := by omega
          have kn := byt_of hn
          by_cases h10 : byt s (i + 1) = 10
          · have e10 : (((s[i + 1]'hn).toNat : Int) == 10) = true := by rw [beq_iff_eq]; omega
            have hst := Hst.out
            rw [if_pos ⟨hn, h10⟩] at hst
            have Hs2 := Lib.hid hst
            clear hst Hst kn h10
            go_wp2_with fail
            go_roundg (s.size - i)
            case measure => omega
            case rel => exact ⟨i + 2, f', l ++ [10], by go_num, R1, R2, Lib.hid (by rw [← Hs2.out]; simp), by simp; omega, by omega, by omega, by omega⟩
          · have e10 : (((s[i + 1]'hn).toNat : Int) == 10) = false := by rw [beq_eq_false_iff_ne]; omega
            have hst := Hst.out
            rw [if_neg (fun e => h10 e.2)] at hst
            have Hs2 := Lib.hid hst
            clear hst Hst kn h10
            go_wp2_with fail
            go_roundg (s.size - i)
            case measure => omega
            case rel => exact ⟨i + 1, f', l ++ [10], by go_num, R1, R2, Lib.hid (by rw [← Hs2.out]; simp), by simp; omega, by omega, by omega, by omega⟩
        · have n1 : ¬ (i : Int) + 1 < (s.size : Int) := by omega
          have hst := Hst.out
          rw [if_neg (fun e => hn e.1)] at hst
          have Hs2 := Lib.hid hst
          clear hst Hst
          go_wp2_with fail
          go_roundg (s.size - i)
          case measure => omega
          case rel => exact ⟨i + 1, f', l ++ [10], by go_num, R1, R2, Lib.hid (by rw [← Hs2.out]; simp), by simp; omega, by omega, by omega, by omega⟩
      · rw [if_neg h13] at hst
        have e13 : (((s[i]'hin).toNat : Int) == 13) = false := by rw [beq_eq_false_iff_ne]; omega
        rw [kg] at hst
        have Hst := Lib.hid hst
        clear hst kb kg h13
        go_wp2_with (first | (at_builtin; refine wpList_append_own _ rfl _ _ 46 rfl w.heap.size 5 i0 (.int .u8 0) 1 1 Hu.out Hi.out Hz0.out Hz1.out Hz2.out rfl (by decide) _ _ _ rfl (hown.alloc _) ⟨wr.heap.size, 0, none⟩ 1 1 [.int .u8 ((s[i]'hin).toNat : Nat)] rfl rfl ?d1 ?d2 ?d3 ?d4 ?d5 ?_))
        case d1 =>
          intro j u hj
          match j, hj with
          | 0, hj => simp at hj; subst hj; simp [Addr.add]
        case d2 => intro u hu; simp at hu; subst hu; rfl
        case d3 => unfold maxLen; omega
        case d4 => omega
        case d5 => simp; omega
        intro v' w1 hown' hgrow _
        have R := own_push (b := s[i]'hin) rfl hb hown _ hown' hgrow
        clear hown' hgrow hown hb
        have R1 := R.1
        have R2 := R.2
        clear R
        go_wp2_with fail
        go_roundg (s.size - i)
        case measure => omega
        case rel => exact ⟨i + 1, f', l ++ [s[i]'hin], by go_num, R1, R2, Lib.hid (by rw [← Hst.out]; simp), by simp; omega, by omega, by omega, by omega⟩
    · have j1 : ¬ (i : Int) < (s.size : Int) := by omega
      have hfin : newlines s = ⟨l.toArray⟩ := by
        unfold newlines bs
        rw [← heq.out]
        cases f with
        | zero => simp [newl]
        | succ f => rw [newl, if_neg hin]; simp
      have hcv := conv_own hown
      have Hf := Lib.hid hfin
      clear hfin heq
      go_wp2_with fail
      go_ret
      rw [Hf.out]
      exact ⟨rfl, hb⟩

end Go.Proofs.YtdpdgppjeekcmaaFmt
