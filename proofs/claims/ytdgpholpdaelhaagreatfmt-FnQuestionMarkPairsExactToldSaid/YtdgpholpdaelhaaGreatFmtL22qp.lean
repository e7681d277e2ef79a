/-
  Walk of a law of n003_22: question marks, dots and spaces.
-/
import Derived.Test.YtdgpholpdaelhaaGreatFmtZ22d
namespace Go.Proofs.YtdgpholpdaelhaaGreatFmt
open Go Go.Lib Go.RowKit Go.Proofs
open Go.Extern.Stop Go.Stop Go.Extern

set_option maxRecDepth 100000 in
theorem zzBytes_QP (c : ByteArray) (w : World) (wc : c.size ≤ maxLen) : Calls Tryz.prog 19 #[.string c] w (Says (fun _ => True) w) := by
  unfold maxLen at wc
  by_cases z0 : (1048576 : Int) < (c.size : Int)
  · go_enter Tryz.func19, Tryz.ntmps19
    go_wp2_with fail
    go_ret
    exact says_ret trivial
  · go_enter Tryz.func19, Tryz.ntmps19
    go_wp2_with fail
    go_ret
    exact says_ret trivial

theorem quest_alpha {s : ByteArray} (h : ∀ x, x < s.size → ∃ j, j < (⟨#[63, 46, 32]⟩ : ByteArray).size ∧ byt ⟨#[63, 46, 32]⟩ j = byt s x) : ∀ k, k < s.size → byt s k = 63 ∨ byt s k = 46 ∨ byt s k = 32 := by
  intro k hk
  obtain ⟨j, hj, he⟩ := h k hk
  have hj3 : j < 3 := hj
  have : j = 0 ∨ j = 1 ∨ j = 2 := by omega
  rcases this with rfl | rfl | rfl
  · exact .inl he.symm
  · exact .inr (.inl he.symm)
  · exact .inr (.inr he.symm)

set_option maxHeartbeats 8000000 in
set_option maxRecDepth 100000 in
theorem QP_walk {W : World} (hT : Tabs W) (F : Stop.Interp) (hF : F.answers W.tape) (s : ByteArray) (wc : s.size ≤ maxLen) :
    Calls Tryz.prog 6 #[.string s] W fun e w' => e = .returned (.bool true) ∧ Below W.heap.size W w' := by
  have hz := zzBytes_QP s W wc
  have Hz := Lib.hid hz
  clear hz
  by_cases z0 : (65536 : Int) < (s.size : Int)
  · go_enter Tryz.func6, Tryz.ntmps6
    go_wp2_with fail
    refine Hz.out.mono ?_
    rintro e w' ⟨b, rfl, _, rfl⟩
    cases b
    · go_wp2_with fail
      go_ret
      exact ⟨rfl, Below.refl _ _⟩
    · go_wp2_with fail
      go_ret
      exact ⟨rfl, Below.refl _ _⟩
  have hh := zzOnly_any s ⟨#[63, 46, 32]⟩ (by omega) (by decide) W
  have Hh := Lib.hid hh
  clear hh
  have q0 : ∀ wr, Sem.run Tryz.prog (binOp BinOp.eql 30 Value.nilIface Value.nilIface) wr = .ok (.bool true) wr := fun _ => by kernel_rfl
  obtain ⟨i0, hi, hz0, hz1, hz2⟩ := info_parts infoWant
  have hu : Tryz.prog.underlying 24 = some (.slice 26) := by kernel_rfl
  have Hi := Lib.hid hi
  have Hz0 := Lib.hid hz0
  have Hz1 := Lib.hid hz1
  have Hz2 := Lib.hid hz2
  have Hu := Lib.hid hu
  clear hi hz0 hz1 hz2 hu
  go_enter Tryz.func6, Tryz.ntmps6
  go_wp2_with fail
  refine Hz.out.mono ?_
  rintro e w' ⟨b, rfl, _, rfl⟩
  cases b
  · go_wp2_with fail
    go_ret
    exact ⟨rfl, Below.refl _ _⟩
  · go_wp2_with fail
    refine Hh.out.mono ?_
    rintro e wa ⟨b, rfl, hno, hba⟩
    cases b
    · go_wp2_with fail
      go_ret
      exact ⟨rfl, hba⟩
    · have hall := quest_alpha (hno rfl)
      have Hall := Lib.hid hall
      have Hba := Lib.hid hba
      clear hno hall hba
      go_wp2_with fail
      go_loopg [3, 4] (s.size + 1) (fun g bv iv wr => ∃ (i f : Nat) (l : List Tok), iv = .int .i64 (i : Nat) ∧ Hid (wr.ownsRow W.heap.size 26 4 bv l.length (l.flatMap wantCells)) ∧ Hid (Below W.heap.size W wr) ∧ Hid (l ++ questGo s f i = questGo s s.size 0) ∧ l.length ≤ i ∧ i ≤ s.size ∧ s.size ≤ i + f ∧ s.size - i < g)
      case atStart => exact ⟨0, s.size, [], rfl, Lib.hid (World.ownsRow_nil _ _ _ _), Hba, Lib.hid rfl, Nat.zero_le _, Nat.zero_le _, by omega, by omega⟩
      case round =>
        obtain ⟨i, f, l, rfl, hown, hb, heq, hl, hi', hf, hg⟩ := hrel
        have hbs := hb.out.size
        by_cases hin : i < s.size
        · have j0 : (0 : Int) ≤ (i : Int) := by omega
          have j1 : (i : Int) < (s.size : Int) := by omega
          obtain ⟨f', rfl⟩ : ∃ f', f = f' + 1 := ⟨f - 1, by omega⟩
          have hst := heq.out
          rw [questGo, if_pos hin] at hst
          clear heq
          have kb := byt_of hin
          by_cases h32 : byt s i = 32
          · rw [if_pos h32] at hst
            have e32 : (((s[i]'hin).toNat : Int) == 32) = true := by rw [beq_iff_eq]; omega
            have Hst := Lib.hid hst
            clear hst kb h32
            go_wp2_with fail
            go_roundg (s.size - i)
            case measure => omega
            case rel => exact ⟨i + 1, f', l, by go_num, hown, hb, Hst, by omega, by omega, by omega, by omega⟩
          · rw [if_neg h32] at hst
            have e32 : (((s[i]'hin).toNat : Int) == 32) = false := by rw [beq_eq_false_iff_ne]; omega
            have hc3 := Hall.out i hin
            obtain ⟨r, hr⟩ : ∃ r : Nat, r = i + 1 := ⟨_, rfl⟩
            have r0 : (i : Int) + 1 = (r : Int) := by omega
            obtain ⟨p, hp⟩ : ∃ p : Nat, p = i + 2 := ⟨_, rfl⟩
            have p0 : (i : Int) + 2 = (p : Int) := by omega
            by_cases hn : i + 1 < s.size
            · have n0 : (0 : Int) ≤ (r : Int) := by omega
              have n1 : (r : Int) < (s.size : Int) := by omega
              have hn' : r < s.size := by omega
              have kn := byt_of hn'
              have hd3 := Hall.out r hn'
              by_cases h63 : byt s i = 63
              · have e63 : (((s[i]'hin).toNat : Int) == 63) = true := by rw [beq_iff_eq]; omega
                have e46 : (((s[i]'hin).toNat : Int) == 46) = false := by rw [beq_eq_false_iff_ne]; omega
                by_cases d63 : byt s r = 63
                · have g63 : (((s[r]'hn').toNat : Int) == 63) = true := by rw [beq_iff_eq]; omega
                  have g46 : (((s[r]'hn').toNat : Int) == 46) = false := by rw [beq_eq_false_iff_ne]; omega
                  have d63' : byt s (i + 1) = 63 := by rw [← hr]; exact d63
                  clear kn hr
                  rw [if_pos ⟨hn, .inl ⟨h63, .inl d63'⟩⟩] at hst
                  rw [← hp] at hst
                  have p1 : (p : Int) ≤ (s.size : Int) := by omega
                  have p2 : (i : Int) ≤ (p : Int) := by omega
                  have p3 : i ≤ p := by omega
                  have p4 : p ≤ s.size := by omega
                  have p5 : i < p := by omega
                  have Hst := Lib.hid hst
                  have Hp := Lib.hid hp
                  have p6 : s.size ≤ p + f' := by omega
                  clear hst kb hp
                  go_wp2_with (first | (at_builtin; go_loud (refine wpList_append_own _ rfl _ _ 24 rfl W.heap.size 26 i0 (.agg #[.string ⟨#[]⟩, .string ⟨#[]⟩, .int .i64 0, .int .i64 0]) 4 48 Hu.out Hi.out Hz0.out Hz1.out Hz2.out rfl (by decide) _ _ _ rfl (hown.out.alloc _) ⟨wr.heap.size, 0, none⟩ 1 1 (wantCells (⟨i, p, kOperator, s.extract i p⟩ : Tok)) rfl rfl ?c1 ?c2 ?c3 ?c4 ?c5 ?_)))
                  case c1 => first | exact want_cells (⟨i, p, kOperator, s.extract i p⟩ : Tok) (heap_alloc_at rfl) | exact fun _ _ h => h
                  case c2 => exact wantCells_one (⟨i, p, kOperator, s.extract i p⟩ : Tok)
                  case c3 => unfold maxLen; omega
                  case c4 => omega
                  case c5 => first | omega | (simp; omega)
                  intro v' w1 hown' hgrow _
                  have R := want_push (k := (⟨i, p, kOperator, s.extract i p⟩ : Tok)) hb.out hown.out _ hown' hgrow
                  have R1 := Lib.hid R.1
                  have R2 := Lib.hid R.2
                  clear R hown' hgrow
                  clear hown hb
                  go_wp2_with fail
                  go_roundg (s.size - i)
                  case measure => omega
                  case rel => exact ⟨p, f', l ++ [(⟨i, p, kOperator, s.extract i p⟩ : Tok)], by go_num, R1, R2, Lib.hid (by rw [← Hst.out]; simp), by simp; omega, p4, p6, by omega⟩
                · have g63 : (((s[r]'hn').toNat : Int) == 63) = false := by rw [beq_eq_false_iff_ne]; omega
                  by_cases d46 : byt s r = 46
                  · have g46 : (((s[r]'hn').toNat : Int) == 46) = true := by rw [beq_iff_eq]; omega
                    have d46' : byt s (i + 1) = 46 := by rw [← hr]; exact d46
                    clear kn hr
                    rw [if_pos ⟨hn, .inl ⟨h63, .inr d46'⟩⟩] at hst
                    rw [← hp] at hst
                    have p1 : (p : Int) ≤ (s.size : Int) := by omega
                    have p2 : (i : Int) ≤ (p : Int) := by omega
                    have p3 : i ≤ p := by omega
                    have p4 : p ≤ s.size := by omega
                    have p5 : i < p := by omega
                    have Hst := Lib.hid hst
                    have Hp := Lib.hid hp
                    have p6 : s.size ≤ p + f' := by omega
                    clear hst kb hp
                    go_wp2_with (first | (at_builtin; go_loud (refine wpList_append_own _ rfl _ _ 24 rfl W.heap.size 26 i0 (.agg #[.string ⟨#[]⟩, .string ⟨#[]⟩, .int .i64 0, .int .i64 0]) 4 48 Hu.out Hi.out Hz0.out Hz1.out Hz2.out rfl (by decide) _ _ _ rfl (hown.out.alloc _) ⟨wr.heap.size, 0, none⟩ 1 1 (wantCells (⟨i, p, kOperator, s.extract i p⟩ : Tok)) rfl rfl ?c1 ?c2 ?c3 ?c4 ?c5 ?_)))
                    case c1 => first | exact want_cells (⟨i, p, kOperator, s.extract i p⟩ : Tok) (heap_alloc_at rfl) | exact fun _ _ h => h
                    case c2 => exact wantCells_one (⟨i, p, kOperator, s.extract i p⟩ : Tok)
                    case c3 => unfold maxLen; omega
                    case c4 => omega
                    case c5 => first | omega | (simp; omega)
                    intro v' w1 hown' hgrow _
                    have R := want_push (k := (⟨i, p, kOperator, s.extract i p⟩ : Tok)) hb.out hown.out _ hown' hgrow
                    have R1 := Lib.hid R.1
                    have R2 := Lib.hid R.2
                    clear R hown' hgrow
                    clear hown hb
                    go_wp2_with fail
                    go_roundg (s.size - i)
                    case measure => omega
                    case rel => exact ⟨p, f', l ++ [(⟨i, p, kOperator, s.extract i p⟩ : Tok)], by go_num, R1, R2, Lib.hid (by rw [← Hst.out]; simp), by simp; omega, p4, p6, by omega⟩
                  · have g46 : (((s[r]'hn').toNat : Int) == 46) = false := by rw [beq_eq_false_iff_ne]; omega
                    have d63' : ¬ byt s (i + 1) = 63 := by rw [← hr]; exact d63
                    have d46' : ¬ byt s (i + 1) = 46 := by rw [← hr]; exact d46
                    clear kn hp p0
                    rw [if_neg (fun h => by omega)] at hst
                    rw [← hr] at hst
                    have p1 : (r : Int) ≤ (s.size : Int) := by omega
                    have p2 : (i : Int) ≤ (r : Int) := by omega
                    have p3 : i ≤ r := by omega
                    have p4 : r ≤ s.size := by omega
                    have p5 : i < r := by omega
                    have Hst := Lib.hid hst
                    have Hp := Lib.hid hr
                    have p6 : s.size ≤ r + f' := by omega
                    clear hst kb hr
                    go_wp2_with (first | (at_builtin; go_loud (refine wpList_append_own _ rfl _ _ 24 rfl W.heap.size 26 i0 (.agg #[.string ⟨#[]⟩, .string ⟨#[]⟩, .int .i64 0, .int .i64 0]) 4 48 Hu.out Hi.out Hz0.out Hz1.out Hz2.out rfl (by decide) _ _ _ rfl (hown.out.alloc _) ⟨wr.heap.size, 0, none⟩ 1 1 (wantCells (⟨i, r, kOperator, s.extract i r⟩ : Tok)) rfl rfl ?c1 ?c2 ?c3 ?c4 ?c5 ?_)))
                    case c1 => first | exact want_cells (⟨i, r, kOperator, s.extract i r⟩ : Tok) (heap_alloc_at rfl) | exact fun _ _ h => h
                    case c2 => exact wantCells_one (⟨i, r, kOperator, s.extract i r⟩ : Tok)
                    case c3 => unfold maxLen; omega
                    case c4 => omega
                    case c5 => first | omega | (simp; omega)
                    intro v' w1 hown' hgrow _
                    have R := want_push (k := (⟨i, r, kOperator, s.extract i r⟩ : Tok)) hb.out hown.out _ hown' hgrow
                    have R1 := Lib.hid R.1
                    have R2 := Lib.hid R.2
                    clear R hown' hgrow
                    clear hown hb
                    go_wp2_with fail
                    go_roundg (s.size - i)
                    case measure => omega
                    case rel => exact ⟨r, f', l ++ [(⟨i, r, kOperator, s.extract i r⟩ : Tok)], by go_num, R1, R2, Lib.hid (by rw [← Hst.out]; simp), by simp; omega, p4, p6, by omega⟩
              · have e63 : (((s[i]'hin).toNat : Int) == 63) = false := by rw [beq_eq_false_iff_ne]; omega
                have e46 : (((s[i]'hin).toNat : Int) == 46) = true := by rw [beq_iff_eq]; omega
                by_cases d46 : byt s r = 46
                · have g46 : (((s[r]'hn').toNat : Int) == 46) = true := by rw [beq_iff_eq]; omega
                  have d46' : byt s (i + 1) = 46 := by rw [← hr]; exact d46
                  clear kn hr
                  rw [if_pos ⟨hn, .inr ⟨by omega, d46'⟩⟩] at hst
                  rw [← hp] at hst
                  have p1 : (p : Int) ≤ (s.size : Int) := by omega
                  have p2 : (i : Int) ≤ (p : Int) := by omega
                  have p3 : i ≤ p := by omega
                  have p4 : p ≤ s.size := by omega
                  have p5 : i < p := by omega
                  have Hst := Lib.hid hst
                  have Hp := Lib.hid hp
                  have p6 : s.size ≤ p + f' := by omega
                  clear hst kb hp
                  go_wp2_with (first | (at_builtin; go_loud (refine wpList_append_own _ rfl _ _ 24 rfl W.heap.size 26 i0 (.agg #[.string ⟨#[]⟩, .string ⟨#[]⟩, .int .i64 0, .int .i64 0]) 4 48 Hu.out Hi.out Hz0.out Hz1.out Hz2.out rfl (by decide) _ _ _ rfl (hown.out.alloc _) ⟨wr.heap.size, 0, none⟩ 1 1 (wantCells (⟨i, p, kOperator, s.extract i p⟩ : Tok)) rfl rfl ?c1 ?c2 ?c3 ?c4 ?c5 ?_)))
                  case c1 => first | exact want_cells (⟨i, p, kOperator, s.extract i p⟩ : Tok) (heap_alloc_at rfl) | exact fun _ _ h => h
                  case c2 => exact wantCells_one (⟨i, p, kOperator, s.extract i p⟩ : Tok)
                  case c3 => unfold maxLen; omega
                  case c4 => omega
                  case c5 => first | omega | (simp; omega)
                  intro v' w1 hown' hgrow _
                  have R := want_push (k := (⟨i, p, kOperator, s.extract i p⟩ : Tok)) hb.out hown.out _ hown' hgrow
                  have R1 := Lib.hid R.1
                  have R2 := Lib.hid R.2
                  clear R hown' hgrow
                  clear hown hb
                  go_wp2_with fail
                  go_roundg (s.size - i)
                  case measure => omega
                  case rel => exact ⟨p, f', l ++ [(⟨i, p, kOperator, s.extract i p⟩ : Tok)], by go_num, R1, R2, Lib.hid (by rw [← Hst.out]; simp), by simp; omega, p4, p6, by omega⟩
                · have g46 : (((s[r]'hn').toNat : Int) == 46) = false := by rw [beq_eq_false_iff_ne]; omega
                  have d46' : ¬ byt s (i + 1) = 46 := by rw [← hr]; exact d46
                  clear kn hp p0
                  rw [if_neg (fun h => by omega)] at hst
                  rw [← hr] at hst
                  have p1 : (r : Int) ≤ (s.size : Int) := by omega
                  have p2 : (i : Int) ≤ (r : Int) := by omega
                  have p3 : i ≤ r := by omega
                  have p4 : r ≤ s.size := by omega
                  have p5 : i < r := by omega
                  have Hst := Lib.hid hst
                  have Hp := Lib.hid hr
                  have p6 : s.size ≤ r + f' := by omega
                  clear hst kb hr
                  go_wp2_with (first | (at_builtin; go_loud (refine wpList_append_own _ rfl _ _ 24 rfl W.heap.size 26 i0 (.agg #[.string ⟨#[]⟩, .string ⟨#[]⟩, .int .i64 0, .int .i64 0]) 4 48 Hu.out Hi.out Hz0.out Hz1.out Hz2.out rfl (by decide) _ _ _ rfl (hown.out.alloc _) ⟨wr.heap.size, 0, none⟩ 1 1 (wantCells (⟨i, r, kOperator, s.extract i r⟩ : Tok)) rfl rfl ?c1 ?c2 ?c3 ?c4 ?c5 ?_)))
                  case c1 => first | exact want_cells (⟨i, r, kOperator, s.extract i r⟩ : Tok) (heap_alloc_at rfl) | exact fun _ _ h => h
                  case c2 => exact wantCells_one (⟨i, r, kOperator, s.extract i r⟩ : Tok)
                  case c3 => unfold maxLen; omega
                  case c4 => omega
                  case c5 => first | omega | (simp; omega)
                  intro v' w1 hown' hgrow _
                  have R := want_push (k := (⟨i, r, kOperator, s.extract i r⟩ : Tok)) hb.out hown.out _ hown' hgrow
                  have R1 := Lib.hid R.1
                  have R2 := Lib.hid R.2
                  clear R hown' hgrow
                  clear hown hb
                  go_wp2_with fail
                  go_roundg (s.size - i)
                  case measure => omega
                  case rel => exact ⟨r, f', l ++ [(⟨i, r, kOperator, s.extract i r⟩ : Tok)], by go_num, R1, R2, Lib.hid (by rw [← Hst.out]; simp), by simp; omega, p4, p6, by omega⟩
            · have n1 : ¬ (r : Int) < (s.size : Int) := by omega
              clear hp p0
              rw [if_neg (fun h => hn h.1)] at hst
              rw [← hr] at hst
              have p1 : (r : Int) ≤ (s.size : Int) := by omega
              have p2 : (i : Int) ≤ (r : Int) := by omega
              have p3 : i ≤ r := by omega
              have p4 : r ≤ s.size := by omega
              have p5 : i < r := by omega
              have Hst := Lib.hid hst
              have Hp := Lib.hid hr
              have p6 : s.size ≤ r + f' := by omega
              clear hst kb hr
              go_wp2_with (first | (at_builtin; go_loud (refine wpList_append_own _ rfl _ _ 24 rfl W.heap.size 26 i0 (.agg #[.string ⟨#[]⟩, .string ⟨#[]⟩, .int .i64 0, .int .i64 0]) 4 48 Hu.out Hi.out Hz0.out Hz1.out Hz2.out rfl (by decide) _ _ _ rfl (hown.out.alloc _) ⟨wr.heap.size, 0, none⟩ 1 1 (wantCells (⟨i, r, kOperator, s.extract i r⟩ : Tok)) rfl rfl ?c1 ?c2 ?c3 ?c4 ?c5 ?_)))
              case c1 => first | exact want_cells (⟨i, r, kOperator, s.extract i r⟩ : Tok) (heap_alloc_at rfl) | exact fun _ _ h => h
              case c2 => exact wantCells_one (⟨i, r, kOperator, s.extract i r⟩ : Tok)
              case c3 => unfold maxLen; omega
              case c4 => omega
              case c5 => first | omega | (simp; omega)
              intro v' w1 hown' hgrow _
              have R := want_push (k := (⟨i, r, kOperator, s.extract i r⟩ : Tok)) hb.out hown.out _ hown' hgrow
              have R1 := Lib.hid R.1
              have R2 := Lib.hid R.2
              clear R hown' hgrow
              clear hown hb
              go_wp2_with fail
              go_roundg (s.size - i)
              case measure => omega
              case rel => exact ⟨r, f', l ++ [(⟨i, r, kOperator, s.extract i r⟩ : Tok)], by go_num, R1, R2, Lib.hid (by rw [← Hst.out]; simp), by simp; omega, p4, p6, by omega⟩
        · have j2 : ¬ (i : Int) < (s.size : Int) := by omega
          obtain rfl : i = s.size := by omega
          have hse := heq.out
          have hgo : questGo s f s.size = [] := by cases f <;> simp [questGo]
          rw [hgo, List.append_nil] at hse
          clear hgo
          have Hse := Lib.hid hse
          clear hse heq
          go_wp2_with fail
          have hout : Out s (R 0 0 false false) (l ++ [eofTok s.size]) ⟨none, s.size, s.size, s.size, s.size, true, false, none, []⟩ := by rw [Hse.out]; exact quest_out Hall.out s.size 0 (by omega) (by omega)
          have Hout := Lib.hid hout
          clear hout
          refine (zzEOFTok_any s.size (by omega) _).mono ?_
          rintro e w2 ⟨rfl, hb2⟩
          have hb2W : Below W.heap.size W w2 := hb.out.trans (hb2.mono hbs)
          have hown2 := own_keep hown.out (w' := w2) (fun k hk => hb2.block k (hown.out.lt k hk).2)
          have hbs2 := hb2W.size
          have HB2 := Lib.hid hb2W
          have HO2 := Lib.hid hown2
          clear hb2 hb2W hown2 hown hb hbs
          unfold wantVal
          go_wp2_with (first | (at_builtin; go_loud (refine wpList_append_own _ rfl _ _ 24 rfl W.heap.size 26 i0 (.agg #[.string ⟨#[]⟩, .string ⟨#[]⟩, .int .i64 0, .int .i64 0]) 4 48 Hu.out Hi.out Hz0.out Hz1.out Hz2.out rfl (by decide) _ _ _ rfl (HO2.out.alloc _) ⟨w2.heap.size, 0, none⟩ 1 1 (wantCells (eofTok s.size)) rfl rfl ?c1 ?c2 ?c3 ?c4 ?c5 ?_)))
          case c1 => first | exact want_cells (eofTok s.size) (heap_alloc_at rfl) | exact fun _ _ h => h
          case c2 => exact wantCells_one (eofTok s.size)
          case c3 => unfold maxLen; omega
          case c4 => omega
          case c5 => first | omega | (simp; omega)
          intro v' w1 hown' hgrow _
          have R := want_push (k := (eofTok s.size)) HB2.out HO2.out _ hown' hgrow
          have R1 := Lib.hid R.1
          have R2 := Lib.hid R.2
          clear R hown' hgrow
          clear HO2 HB2 hbs2
          have hlen : (l ++ [eofTok s.size]).length ≤ 1099511627776 := by rw [List.length_append]; simp; omega
          have hlex := fun (w : World) (hb : Below W.heap.size W w) => lex_out hF hT hb (by omega : s.size ≤ 1099511627776) Hout.out hlen
          have Hlex := Lib.hid hlex
          have Hlen := Lib.hid hlen
          clear hlex hlen
          go_wp2_with fail
          refine (newSource_any s _).mono ?_
          rintro e w' ⟨rfl, xs, d, rfl⟩
          go_wp2_with fail
          have hg3 := grow_below w1 xs d
          refine (Hlex.out _ (R2.out.trans (hg3.mono R2.out.size))).mono ?_
          rintro e w4 ⟨hb4, ⟨_, gv, rfl, hgot⟩ | ⟨h, _⟩⟩
          · have hb5 := hg3.trans (hb4.mono hg3.size)
            have hne : 0 < (l ++ [eofTok s.size]).length := by simp
            have hrow4 := (RowAt.owned R1.out hne).keep hb5
            have hgot4 := RowAt.owned hgot hne
            have hb6 : Below W.heap.size W w4 := R2.out.trans (hb5.mono R2.out.size)
            have hs := zzSame_any (l ++ [eofTok s.size]) Hlen.out gv _ w4 hgot4 hrow4
            have Hs := Lib.hid hs
            have Hb6 := Lib.hid hb6
            clear hs hb6 hb5 hrow4 hgot4 hgot hb4 hg3 Hlex R1 R2 hne
            go_wp2_with (go_at_call 12; refine Hs.out.mono ?_; rintro e w5 ⟨rfl, hb7⟩)
            go_ret
            exact ⟨rfl, Hb6.out.trans (hb7.mono Hb6.out.size)⟩
          · exact absurd rfl h

end Go.Proofs.YtdgpholpdaelhaaGreatFmt
