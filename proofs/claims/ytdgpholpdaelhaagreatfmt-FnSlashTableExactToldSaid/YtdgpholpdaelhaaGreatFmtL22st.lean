/-
  Walk of a law of n003_22: slashes, spaces, newlines and ones.
-/
import Derived.Test.YtdgpholpdaelhaaGreatFmtZ22d
namespace Go.Proofs.YtdgpholpdaelhaaGreatFmt
open Go Go.Lib Go.RowKit Go.Proofs
open Go.Extern.Stop Go.Stop Go.Extern

set_option maxRecDepth 100000 in
theorem zzBytes_ST (c : ByteArray) (w : World) (wc : c.size ≤ maxLen) : Calls Tryz.prog 7 #[.string c] w (Says (fun _ => True) w) := by
  unfold maxLen at wc
  by_cases z0 : (1048576 : Int) < (c.size : Int)
  · go_enter Tryz.func7, Tryz.ntmps7
    go_wp2_with fail
    go_ret
    exact says_ret trivial
  · go_enter Tryz.func7, Tryz.ntmps7
    go_wp2_with fail
    go_ret
    exact says_ret trivial

theorem slash_alpha {s : ByteArray} (h : ∀ x, x < s.size → ∃ j, j < (⟨#[47, 32, 10, 49]⟩ : ByteArray).size ∧ byt ⟨#[47, 32, 10, 49]⟩ j = byt s x) : ∀ k, k < s.size → byt s k = 47 ∨ byt s k = 32 ∨ byt s k = 10 ∨ byt s k = 49 := by
  intro k hk
  obtain ⟨j, hj, he⟩ := h k hk
  have hj3 : j < 4 := hj
  have : j = 0 ∨ j = 1 ∨ j = 2 ∨ j = 3 := by omega
  rcases this with rfl | rfl | rfl | rfl
  · exact .inl he.symm
  · exact .inr (.inl he.symm)
  · exact .inr (.inr (.inl he.symm))
  · exact .inr (.inr (.inr he.symm))
theorem ones_stop {s : ByteArray} {j : Nat} (h : ¬ (j < s.size ∧ byt s j = 49)) (f : Nat) : ones s f j = j := by cases f with
  | zero => rfl
  | succ f => rw [ones, if_neg h]
theorem line_stop {s : ByteArray} {j : Nat} (h : ¬ (j < s.size ∧ byt s j ≠ 10)) (f : Nat) : toLine s f j = j := by cases f with
  | zero => rfl
  | succ f => rw [toLine, if_neg h]

set_option maxHeartbeats 8000000 in
set_option maxRecDepth 100000 in
theorem ST_walk {W : World} (hT : Tabs W) (F : Stop.Interp) (hF : F.answers W.tape) (s : ByteArray) (wc : s.size ≤ maxLen) :
    Calls Tryz.prog 3 #[.string s] W fun e w' => e = .returned (.bool true) ∧ Below W.heap.size W w' := by
  have hz := zzBytes_ST s W wc
  have Hz := Lib.hid hz
  clear hz
  by_cases z0 : (65536 : Int) < (s.size : Int)
  · go_enter Tryz.func3, Tryz.ntmps3
    go_wp2_with fail
    refine Hz.out.mono ?_
    rintro e w' ⟨b, rfl, _, rfl⟩
    cases b
    · go_wp2_with fail
      go_ret
      exact ⟨rfl, Below.refl _ _⟩
    · go_wp2_with fail
      go_ret
      exact ⟨rfl, Below.refl _ _⟩
  have hh := zzOnly_any s ⟨#[47, 32, 10, 49]⟩ (by omega) (by decide) W
  have Hh := Lib.hid hh
  clear hh
  have q0 : ∀ wr, Sem.run Tryz.prog (binOp BinOp.eql 30 Value.nilIface Value.nilIface) wr = .ok (.bool true) wr := fun _ => by kernel_rfl
  obtain ⟨i0, hi, hz0, hz1, hz2⟩ := info_parts infoWant
  have hu : Tryz.prog.underlying 24 = some (.slice 26) := by kernel_rfl
  have Hi := Lib.hid hi
  have Hz0 := Lib.hid hz0
  have Hz1 := Lib.hid hz1
  have Hz2 := Lib.hid hz2
  have Hu := Lib.hid hu
  clear hi hz0 hz1 hz2 hu
  go_enter Tryz.func3, Tryz.ntmps3
  go_wp2_with fail
  refine Hz.out.mono ?_
  rintro e w' ⟨b, rfl, _, rfl⟩
  cases b
  · go_wp2_with fail
    go_ret
    exact ⟨rfl, Below.refl _ _⟩
  · go_wp2_with fail
    refine Hh.out.mono ?_
    rintro e wa ⟨b, rfl, hno, hba⟩
    cases b
    · go_wp2_with fail
      go_ret
      exact ⟨rfl, hba⟩
    · have hall := slash_alpha (hno rfl)
      have Hall := Lib.hid hall
      have Hba := Lib.hid hba
      clear hno hall hba
      go_wp2_with fail
      go_loopg [3, 4] (s.size + 1) (fun g bv iv wr => ∃ (i f : Nat) (l : List Tok), iv = .int .i64 (i : Nat) ∧ Hid (wr.ownsRow W.heap.size 26 4 bv l.length (l.flatMap wantCells)) ∧ Hid (Below W.heap.size W wr) ∧ Hid (l ++ slashGo s f i = slashGo s s.size 0) ∧ l.length ≤ i ∧ i ≤ s.size ∧ s.size ≤ i + f ∧ s.size - i < g)
      case atStart => exact ⟨0, s.size, [], rfl, Lib.hid (World.ownsRow_nil _ _ _ _), Hba, Lib.hid rfl, Nat.zero_le _, Nat.zero_le _, by omega, by omega⟩
      case round =>
        obtain ⟨i, f, l, rfl, hown, hb, heq, hl, hi', hf, hg⟩ := hrel
        have hbs := hb.out.size
        by_cases hin : i < s.size
        · have j0 : (0 : Int) ≤ (i : Int) := by omega
          have j1 : (i : Int) < (s.size : Int) := by omega
          obtain ⟨f', rfl⟩ : ∃ f', f = f' + 1 := ⟨f - 1, by omega⟩
          have hst := heq.out
          rw [slashGo, if_pos hin] at hst
          clear heq
          have kb := byt_of hin
          by_cases h32 : byt s i = 32
          · rw [if_pos (.inl h32)] at hst
            have e32 : (((s[i]'hin).toNat : Int) == 32) = true := by rw [beq_iff_eq]; omega
            have Hst := Lib.hid hst
            clear hst kb h32
            go_wp2_with fail
            go_roundg (s.size - i)
            case measure => omega
            case rel => exact ⟨i + 1, f', l, by go_num, hown, hb, Hst, by omega, by omega, by omega, by omega⟩
          by_cases h10 : byt s i = 10
          · rw [if_pos (.inr h10)] at hst
            have e32 : (((s[i]'hin).toNat : Int) == 32) = false := by rw [beq_eq_false_iff_ne]; omega
            have e10 : (((s[i]'hin).toNat : Int) == 10) = true := by rw [beq_iff_eq]; omega
            have Hst := Lib.hid hst
            clear hst kb h32 h10
            go_wp2_with fail
            go_roundg (s.size - i)
            case measure => omega
            case rel => exact ⟨i + 1, f', l, by go_num, hown, hb, Hst, by omega, by omega, by omega, by omega⟩
          have e32 : (((s[i]'hin).toNat : Int) == 32) = false := by rw [beq_eq_false_iff_ne]; omega
          have e10 : (((s[i]'hin).toNat : Int) == 10) = false := by rw [beq_eq_false_iff_ne]; omega
          rw [if_neg (fun h => h.elim h32 h10)] at hst
          by_cases h49 : byt s i = 49
          · rw [if_pos h49] at hst
            have e49 : (((s[i]'hin).toNat : Int) == 49) = true := by rw [beq_iff_eq]; omega
            have hpos : i < ones s s.size i := by
              have h1 := (ones_spec s s.size (i + 1) (by omega) (by omega)).1
              obtain ⟨m, hm⟩ : ∃ m, s.size = m + 1 := ⟨s.size - 1, by omega⟩
              have h2 := (ones_spec s m (i + 1) (by omega) (by omega)).1
              rw [hm, ones, if_pos ⟨by omega, h49⟩]
              omega
            have Hst := Lib.hid hst
            have Hpos := Lib.hid hpos
            clear hst kb h32 h10 h49 hpos
            go_wp2_with fail
            go_loopg [6] (s.size + 1) (fun g jv wq => ∃ j m : Nat, jv = .int .i64 (j : Nat) ∧ wq = wr ∧ Hid (ones s m j = ones s s.size i) ∧ i ≤ j ∧ j ≤ s.size ∧ s.size ≤ j + m ∧ s.size - j < g)
            case atStart => exact ⟨i, s.size, rfl, rfl, Lib.hid rfl, Nat.le_refl _, hi', by omega, by omega⟩
            case round =>
              obtain ⟨j, m, rfl, rfl, ho, hij, hj', hm, hgj⟩ := hrel
              by_cases hjn : j < s.size
              · have y0 : (0 : Int) ≤ (j : Int) := by omega
                have y1 : (j : Int) < (s.size : Int) := by omega
                have ky := byt_of hjn
                by_cases g49 : byt s j = 49
                · have e : (((s[j]'hjn).toNat : Int) == 49) = true := by rw [beq_iff_eq]; omega
                  obtain ⟨m', rfl⟩ : ∃ m', m = m' + 1 := ⟨m - 1, by omega⟩
                  have hoo := ho.out
                  rw [ones, if_pos ⟨hjn, g49⟩] at hoo
                  have Hoo := Lib.hid hoo
                  clear hoo ho ky g49
                  go_wp2_with fail
                  go_roundg (s.size - j)
                  case measure => omega
                  case rel => exact ⟨j + 1, m', by go_num, rfl, Hoo, by omega, by omega, by omega, by omega⟩
                · have e : (((s[j]'hjn).toNat : Int) == 49) = false := by rw [beq_eq_false_iff_ne]; omega
                  have hend : ones s s.size i = j := ho.out.symm.trans (ones_stop (fun h => g49 h.2) m)
                  have hij2 : i < j := by have := Hpos.out; omega
                  have Hend := Lib.hid hend
                  clear hend ky g49 ho
                  have Hst2 := Lib.hid (Hend.out)
                  have p2 : (i : Int) ≤ (j : Int) := by omega
                  have p1 : (j : Int) ≤ (s.size : Int) := by omega
                  go_wp2_with (first | (at_builtin; go_loud (refine wpList_append_own _ rfl _ _ 24 rfl W.heap.size 26 i0 (.agg #[.string ⟨#[]⟩, .string ⟨#[]⟩, .int .i64 0, .int .i64 0]) 4 48 Hu.out Hi.out Hz0.out Hz1.out Hz2.out rfl (by decide) _ _ _ rfl (hown.out.alloc _) ⟨wr.heap.size, 0, none⟩ 1 1 (wantCells (⟨i, j, kNumber, s.extract i j⟩ : Tok)) rfl rfl ?c1 ?c2 ?c3 ?c4 ?c5 ?_)))
                  case c1 => first | exact want_cells (⟨i, j, kNumber, s.extract i j⟩ : Tok) (heap_alloc_at rfl) | exact fun _ _ h => h
                  case c2 => exact wantCells_one (⟨i, j, kNumber, s.extract i j⟩ : Tok)
                  case c3 => unfold maxLen; omega
                  case c4 => omega
                  case c5 => first | omega | (simp; omega)
                  intro v' w1 hown' hgrow _
                  have R := want_push (k := (⟨i, j, kNumber, s.extract i j⟩ : Tok)) hb.out hown.out _ hown' hgrow
                  have R1 := Lib.hid R.1
                  have R2 := Lib.hid R.2
                  clear R hown' hgrow
                  clear hown hb
                  go_wp2_with fail
                  go_roundg (s.size - i)
                  case measure => omega
                  case rel => exact ⟨j, f', l ++ [(⟨i, j, kNumber, s.extract i j⟩ : Tok)], rfl, R1, R2, Lib.hid (by rw [← Hst.out, Hst2.out]; simp), by simp; omega, by omega, by omega, by omega⟩
              · have y2 : ¬ (j : Int) < (s.size : Int) := by omega
                have hend : ones s s.size i = j := ho.out.symm.trans (ones_stop (fun h => hjn h.1) m)
                have hij2 : i < j := by have := Hpos.out; omega
                have Hend := Lib.hid hend
                clear hend ho
                have Hst2 := Lib.hid (Hend.out)
                have p2 : (i : Int) ≤ (j : Int) := by omega
                have p1 : (j : Int) ≤ (s.size : Int) := by omega
                go_wp2_with (first | (at_builtin; go_loud (refine wpList_append_own _ rfl _ _ 24 rfl W.heap.size 26 i0 (.agg #[.string ⟨#[]⟩, .string ⟨#[]⟩, .int .i64 0, .int .i64 0]) 4 48 Hu.out Hi.out Hz0.out Hz1.out Hz2.out rfl (by decide) _ _ _ rfl (hown.out.alloc _) ⟨wr.heap.size, 0, none⟩ 1 1 (wantCells (⟨i, j, kNumber, s.extract i j⟩ : Tok)) rfl rfl ?c1 ?c2 ?c3 ?c4 ?c5 ?_)))
                case c1 => first | exact want_cells (⟨i, j, kNumber, s.extract i j⟩ : Tok) (heap_alloc_at rfl) | exact fun _ _ h => h
                case c2 => exact wantCells_one (⟨i, j, kNumber, s.extract i j⟩ : Tok)
                case c3 => unfold maxLen; omega
                case c4 => omega
                case c5 => first | omega | (simp; omega)
                intro v' w1 hown' hgrow _
                have R := want_push (k := (⟨i, j, kNumber, s.extract i j⟩ : Tok)) hb.out hown.out _ hown' hgrow
                have R1 := Lib.hid R.1
                have R2 := Lib.hid R.2
                clear R hown' hgrow
                clear hown hb
                go_wp2_with fail
                go_roundg (s.size - i)
                case measure => omega
                case rel => exact ⟨j, f', l ++ [(⟨i, j, kNumber, s.extract i j⟩ : Tok)], rfl, R1, R2, Lib.hid (by rw [← Hst.out, Hst2.out]; simp), by simp; omega, by omega, by omega, by omega⟩
          have e49 : (((s[i]'hin).toNat : Int) == 49) = false := by rw [beq_eq_false_iff_ne]; omega
          rw [if_neg h49] at hst
          have h47 : byt s i = 47 := by have := Hall.out i hin; omega
          obtain ⟨r, hr⟩ : ∃ r : Nat, r = i + 1 := ⟨_, rfl⟩
          have r0 : (i : Int) + 1 = (r : Int) := by omega
          by_cases hn : i + 1 < s.size
          · have n0 : (0 : Int) ≤ (r : Int) := by omega
            have n1 : (r : Int) < (s.size : Int) := by omega
            have hn' : r < s.size := by omega
            have kn := byt_of hn'
            by_cases g47 : byt s r = 47
            · have e47 : (((s[r]'hn').toNat : Int) == 47) = true := by rw [beq_iff_eq]; omega
              rw [if_pos ⟨hn, by rw [← hr]; exact g47⟩] at hst
              obtain ⟨p, hp⟩ : ∃ p : Nat, p = i + 2 := ⟨_, rfl⟩
              have p0 : (i : Int) + 2 = (p : Int) := by omega
              have p1 : p ≤ s.size := by omega
              have p2 : i < p := by omega
              rw [← hp] at hst
              have Hst := Lib.hid hst
              clear hst kb kn g47 hr hp h47 h32 h10
              go_wp2_with fail
              go_loopg [7] (s.size + 1) (fun g jv wq => ∃ j m : Nat, jv = .int .i64 (j : Nat) ∧ wq = wr ∧ Hid (toLine s m j = toLine s s.size p) ∧ p ≤ j ∧ j ≤ s.size ∧ s.size ≤ j + m ∧ s.size - j < g)
              case atStart => exact ⟨p, s.size, rfl, rfl, Lib.hid rfl, Nat.le_refl _, p1, by omega, by omega⟩
              case round =>
                obtain ⟨j, m, rfl, rfl, ho, hij, hj', hm, hgj⟩ := hrel
                by_cases hjn : j < s.size
                · have y0 : (0 : Int) ≤ (j : Int) := by omega
                  have y1 : (j : Int) < (s.size : Int) := by omega
                  have ky := byt_of hjn
                  by_cases g10 : byt s j = 10
                  · have e : (((s[j]'hjn).toNat : Int) == 10) = true := by rw [beq_iff_eq]; omega
                    have hend : toLine s s.size p = j := ho.out.symm.trans (line_stop (fun h => h.2 g10) m)
                    have hln : lineNext s p = j + 1 := by unfold lineNext; rw [hend, if_pos hjn]
                    have Hln := Lib.hid hln
                    clear hend hln ky g10 ho
                    go_wp2_with fail
                    go_roundg (s.size - i)
                    case measure => omega
                    case rel => exact ⟨j + 1, f', l, by go_num, hown, hb, Lib.hid (by rw [← Hst.out, Hln.out]), by omega, by omega, by omega, by omega⟩
                  · have e : (((s[j]'hjn).toNat : Int) == 10) = false := by rw [beq_eq_false_iff_ne]; omega
                    obtain ⟨m', rfl⟩ : ∃ m', m = m' + 1 := ⟨m - 1, by omega⟩
                    have hoo := ho.out
                    rw [toLine, if_pos ⟨hjn, g10⟩] at hoo
                    have Hoo := Lib.hid hoo
                    clear hoo ho ky g10
                    go_wp2_with fail
                    go_roundg (s.size - j)
                    case measure => omega
                    case rel => exact ⟨j + 1, m', by go_num, rfl, Hoo, by omega, by omega, by omega, by omega⟩
                · have y2 : ¬ (j : Int) < (s.size : Int) := by omega
                  have hend : toLine s s.size p = j := ho.out.symm.trans (line_stop (fun h => hjn h.1) m)
                  have hln : lineNext s p = j := by unfold lineNext; rw [hend, if_neg hjn]
                  have Hln := Lib.hid hln
                  clear hend hln ho
                  go_wp2_with fail
                  go_roundg (s.size - i)
                  case measure => omega
                  case rel => exact ⟨j, f', l, rfl, hown, hb, Lib.hid (by rw [← Hst.out, Hln.out]), by omega, by omega, by omega, by omega⟩
            · have e47 : (((s[r]'hn').toNat : Int) == 47) = false := by rw [beq_eq_false_iff_ne]; omega
              rw [if_neg (fun h => g47 (by rw [hr]; exact h.2))] at hst
              clear kn g47
              rw [← hr] at hst
              have p6 : s.size ≤ r + f' := by omega
              have p4 : r ≤ s.size := by omega
              have p5 : i < r := by omega
              have Hst := Lib.hid hst
              clear hst kb hr h47 h32 h10 h49
              go_wp2_with (first | (at_builtin; go_loud (refine wpList_append_own _ rfl _ _ 24 rfl W.heap.size 26 i0 (.agg #[.string ⟨#[]⟩, .string ⟨#[]⟩, .int .i64 0, .int .i64 0]) 4 48 Hu.out Hi.out Hz0.out Hz1.out Hz2.out rfl (by decide) _ _ _ rfl (hown.out.alloc _) ⟨wr.heap.size, 0, none⟩ 1 1 (wantCells (⟨i, r, kOperator, ⟨#[47]⟩⟩ : Tok)) rfl rfl ?c1 ?c2 ?c3 ?c4 ?c5 ?_)))
              case c1 => first | exact want_cells (⟨i, r, kOperator, ⟨#[47]⟩⟩ : Tok) (heap_alloc_at rfl) | exact fun _ _ h => h
              case c2 => exact wantCells_one (⟨i, r, kOperator, ⟨#[47]⟩⟩ : Tok)
              case c3 => unfold maxLen; omega
              case c4 => omega
              case c5 => first | omega | (simp; omega)
              intro v' w1 hown' hgrow _
              have R := want_push (k := (⟨i, r, kOperator, ⟨#[47]⟩⟩ : Tok)) hb.out hown.out _ hown' hgrow
              have R1 := Lib.hid R.1
              have R2 := Lib.hid R.2
              clear R hown' hgrow
              clear hown hb
              go_wp2_with fail
              go_roundg (s.size - i)
              case measure => omega
              case rel => exact ⟨r, f', l ++ [(⟨i, r, kOperator, ⟨#[47]⟩⟩ : Tok)], rfl, R1, R2, Lib.hid (by rw [← Hst.out]; simp), by simp; omega, p4, p6, by omega⟩
          · have n1 : ¬ (r : Int) < (s.size : Int) := by omega
            rw [if_neg (fun h => hn h.1)] at hst
            rw [← hr] at hst
            have p6 : s.size ≤ r + f' := by omega
            have p4 : r ≤ s.size := by omega
            have p5 : i < r := by omega
            have Hst := Lib.hid hst
            clear hst kb hr h47 h32 h10 h49
            go_wp2_with (first | (at_builtin; go_loud (refine wpList_append_own _ rfl _ _ 24 rfl W.heap.size 26 i0 (.agg #[.string ⟨#[]⟩, .string ⟨#[]⟩, .int .i64 0, .int .i64 0]) 4 48 Hu.out Hi.out Hz0.out Hz1.out Hz2.out rfl (by decide) _ _ _ rfl (hown.out.alloc _) ⟨wr.heap.size, 0, none⟩ 1 1 (wantCells (⟨i, r, kOperator, ⟨#[47]⟩⟩ : Tok)) rfl rfl ?c1 ?c2 ?c3 ?c4 ?c5 ?_)))
            case c1 => first | exact want_cells (⟨i, r, kOperator, ⟨#[47]⟩⟩ : Tok) (heap_alloc_at rfl) | exact fun _ _ h => h
            case c2 => exact wantCells_one (⟨i, r, kOperator, ⟨#[47]⟩⟩ : Tok)
            case c3 => unfold maxLen; omega
            case c4 => omega
            case c5 => first | omega | (simp; omega)
            intro v' w1 hown' hgrow _
            have R := want_push (k := (⟨i, r, kOperator, ⟨#[47]⟩⟩ : Tok)) hb.out hown.out _ hown' hgrow
            have R1 := Lib.hid R.1
            have R2 := Lib.hid R.2
            clear R hown' hgrow
            clear hown hb
            go_wp2_with fail
            go_roundg (s.size - i)
            case measure => omega
            case rel => exact ⟨r, f', l ++ [(⟨i, r, kOperator, ⟨#[47]⟩⟩ : Tok)], rfl, R1, R2, Lib.hid (by rw [← Hst.out]; simp), by simp; omega, p4, p6, by omega⟩
        · have j2 : ¬ (i : Int) < (s.size : Int) := by omega
          obtain rfl : i = s.size := by omega
          have hse := heq.out
          have hgo : slashGo s f s.size = [] := by cases f <;> simp [slashGo]
          rw [hgo, List.append_nil] at hse
          clear hgo
          have Hse := Lib.hid hse
          clear hse heq
          go_wp2_with fail
          have hout : Out s (R 0 0 false false) (l ++ [eofTok s.size]) ⟨none, s.size, s.size, s.size, s.size, true, false, none, []⟩ := by rw [Hse.out]; exact slash_out Hall.out s.size 0 false (by omega) (by omega)
          have Hout := Lib.hid hout
          clear hout
          refine (zzEOFTok_any s.size (by omega) _).mono ?_
          rintro e w2 ⟨rfl, hb2⟩
          have hb2W : Below W.heap.size W w2 := hb.out.trans (hb2.mono hbs)
          have hown2 := own_keep hown.out (w' := w2) (fun k hk => hb2.block k (hown.out.lt k hk).2)
          have hbs2 := hb2W.size
          have HB2 := Lib.hid hb2W
          have HO2 := Lib.hid hown2
          clear hb2 hb2W hown2 hown hb hbs
          unfold wantVal
          go_wp2_with (first | (at_builtin; go_loud (refine wpList_append_own _ rfl _ _ 24 rfl W.heap.size 26 i0 (.agg #[.string ⟨#[]⟩, .string ⟨#[]⟩, .int .i64 0, .int .i64 0]) 4 48 Hu.out Hi.out Hz0.out Hz1.out Hz2.out rfl (by decide) _ _ _ rfl (HO2.out.alloc _) ⟨w2.heap.size, 0, none⟩ 1 1 (wantCells (eofTok s.size)) rfl rfl ?c1 ?c2 ?c3 ?c4 ?c5 ?_)))
          case c1 => first | exact want_cells (eofTok s.size) (heap_alloc_at rfl) | exact fun _ _ h => h
          case c2 => exact wantCells_one (eofTok s.size)
          case c3 => unfold maxLen; omega
          case c4 => omega
          case c5 => first | omega | (simp; omega)
          intro v' w1 hown' hgrow _
          have R := want_push (k := (eofTok s.size)) HB2.out HO2.out _ hown' hgrow
          have R1 := Lib.hid R.1
          have R2 := Lib.hid R.2
          clear R hown' hgrow
          clear HO2 HB2 hbs2
          have hlen : (l ++ [eofTok s.size]).length ≤ 1099511627776 := by rw [List.length_append]; simp; omega
          have hlex := fun (w : World) (hb : Below W.heap.size W w) => lex_out hF hT hb (by omega : s.size ≤ 1099511627776) Hout.out hlen
          have Hlex := Lib.hid hlex
          have Hlen := Lib.hid hlen
          clear hlex hlen
          go_wp2_with fail
          refine (newSource_any s _).mono ?_
          rintro e w' ⟨rfl, xs, d, rfl⟩
          go_wp2_with fail
          have hg3 := grow_below w1 xs d
          refine (Hlex.out _ (R2.out.trans (hg3.mono R2.out.size))).mono ?_
          rintro e w4 ⟨hb4, ⟨_, gv, rfl, hgot⟩ | ⟨h, _⟩⟩
          · have hb5 := hg3.trans (hb4.mono hg3.size)
            have hne : 0 < (l ++ [eofTok s.size]).length := by simp
            have hrow4 := (RowAt.owned R1.out hne).keep hb5
            have hgot4 := RowAt.owned hgot hne
            have hb6 : Below W.heap.size W w4 := R2.out.trans (hb5.mono R2.out.size)
            have hs := zzSame_any (l ++ [eofTok s.size]) Hlen.out gv _ w4 hgot4 hrow4
            have Hs := Lib.hid hs
            have Hb6 := Lib.hid hb6
            clear hs hb6 hb5 hrow4 hgot4 hgot hb4 hg3 Hlex R1 R2 hne
            go_wp2_with (go_at_call 12; refine Hs.out.mono ?_; rintro e w5 ⟨rfl, hb7⟩)
            go_ret
            exact ⟨rfl, Hb6.out.trans (hb7.mono Hb6.out.size)⟩
          · exact absurd rfl h

end Go.Proofs.YtdgpholpdaelhaaGreatFmt
