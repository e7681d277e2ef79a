/-
  Walks: zzIndexRune, zzContainsRune, accept, acceptRun, skipSpaces.
-/
import Derived.Test.YtlbmojpmfgihlaaFmtCore2
import Derived.Lib.OthersKept
namespace Go.Proofs.YtlbmojpmfgihlaaFmt
open Go Go.Lib Go.RowKit Go.Proofs

/-- What zzIndexRune comes to: an index that is at least 0 just where the rune is there. -/
def IdxPost (v : ByteArray) (r : Int) (w : World) (e : Ending) (w' : World) : Prop := ∃ n : Int, e = .returned (.int .i64 n) ∧ decide (0 ≤ n) = has v r ∧ Below w.heap.size w w'

theorem runesFrom_end (v : ByteArray) (f i : Nat) (h : ¬ i < v.size) : runesFrom v f i = [] := by
  cases f with
  | zero => rfl
  | succ f => simp [runesFrom, h]

set_option maxRecDepth 100000 in
theorem indexRune_no (v : ByteArray) (r : Int) (w : World) (h0 : -2147483648 ≤ r) (h1 : r ≤ 2147483647) (hne : r ≠ 65533) (hbad : r < 0 ∨ 1114111 < r ∨ (55296 ≤ r ∧ r ≤ 57343)) :
    Calls Tryf.prog 81 #[.string v, .int .i32 r] w (IdxPost v r w) := by
  have hh : has v r = false := by
    unfold has okRune
    simp only [Bool.and_eq_false_iff]
    left
    simp
    omega
  have t1 : (r != 65533) = true := by simpa using hne
  have Hh := Lib.hid hh
  have Hn := Lib.hid hne
  clear hh hne
  have fin : IdxPost v r w (.returned (.int .i64 (-1))) w := ⟨-1, rfl, by rw [Hh.out]; rfl, Below.refl _ _⟩
  rcases hbad with h | h | ⟨h, h'⟩
  · go_enter Tryf.func81, Tryf.ntmps81
    go_wp2_with fail
    go_ret
    exact fin
  · have h2 : ¬ r < 0 := by omega
    go_enter Tryf.func81, Tryf.ntmps81
    go_wp2_with fail
    go_ret
    exact fin
  · have h2 : ¬ r < 0 := by omega
    have h3 : ¬ 1114111 < r := by omega
    go_enter Tryf.func81, Tryf.ntmps81
    go_wp2_with fail
    go_ret
    exact fin

set_option maxHeartbeats 1000000 in
set_option maxRecDepth 100000 in
theorem indexRune_yes (v : ByteArray) (r : Int) (w : World) (ht : (r != 65533) = false ∨ ((r != 65533) = true ∧ 0 ≤ r ∧ r ≤ 1114111 ∧ (r < 55296 ∨ (55296 ≤ r ∧ 57343 < r)))) :
    Calls Tryf.prog 81 #[.string v, .int .i32 r] w (IdxPost v r w) := by
  have hok : has v r = (runesOf v).contains r := by
    have : okRune r = true := by
      unfold okRune
      rcases ht with h | ⟨_, h1, h2, h3⟩
      · have : r = 65533 := by simpa using h
        simp [this]
      · simp; omega
    unfold has; rw [this]; rfl
  have Hok := Lib.hid hok
  clear hok
  have Hs := Lib.hid (rfl : runesFrom v v.size 0 = runesOf v)
  rcases ht with h | ⟨h, h1, h2, h3 | ⟨h3, h4⟩⟩
  · go_enter Tryf.func81, Tryf.ntmps81
    go_wp2_with fail
    go_loopg [] v.size (fun g wr => ∃ pos, wr.heap[w.heap.size]? = some (.stringIter v pos) ∧ Below w.heap.size w wr ∧ Hid ((runesFrom v g pos).contains r = (runesOf v).contains r) ∧ v.size ≤ pos + g)
    case atStart => exact ⟨0, World.iter_heap w v 0, Below.alloc (Below.refl _ _) (Nat.le_refl _) _, Lib.hid rfl, by omega⟩
    case round =>
      obtain ⟨pos, hit, hbw, hcon, hfu⟩ := hrel
      have hsz : w.heap.size < wr.heap.size := (Array.getElem?_eq_some_iff.1 hit).1
      by_cases hp : pos < v.size
      · have hnx : ∀ ty, (Instr.next (.pointer (some ⟨w.heap.size, 0, none⟩)) true ty).run Tryf.prog wr = _ := fun ty => Lib.run_next_any_at wr w.heap.size v pos ty hit hp
        have hbw2 := Lib.below_iterAt hbw (k := w.heap.size) (Nat.le_refl _) v (pos + (Utf8.decode v pos).2)
        have hit2 := Lib.iterAt_heap wr w.heap.size v pos (pos + (Utf8.decode v pos).2) hit
        have hwd := wAt_pos v pos hp
        obtain ⟨g', rfl⟩ : ∃ g', gk = g' + 1 := ⟨gk - 1, by omega⟩
        obtain ⟨x, hx⟩ : ∃ x : Int, x = ((Utf8.decode v pos).1 : Int) := ⟨_, rfl⟩
        by_cases hcr : x = r
        · have hd : ((((Utf8.decode v pos).1 : Nat) : Int) == r) = true := by rw [← hx, hcr]; simp
          have Hc := Lib.hid hcr
          have Hx := Lib.hid hx
          clear hcr hx
          go_wp2_with fail
          go_ret
          refine ⟨pos, rfl, ?_, hbw2⟩
          rw [Hok.out, ← hcon.out]
          simp [runesFrom, hp, rAt, ← Hx.out, Hc.out]
        · have hd : ((((Utf8.decode v pos).1 : Nat) : Int) == r) = false := by rw [← hx]; simpa using hcr
          have Hc := Lib.hid hcr
          have Hx := Lib.hid hx
          clear hcr hx
          go_wp2_with fail
          go_roundg g'
          case measure => omega
          case rel =>
            refine ⟨pos + (Utf8.decode v pos).2, hit2, hbw2, Lib.hid ?_, by unfold wAt at hwd; omega⟩
            rw [← hcon.out]
            have h1 := Hc.out
            have h2 := Hx.out
            have h3 : ¬ r = ((Utf8.decode v pos).1 : Int) := fun e => h1 (h2.trans e.symm)
            simp [runesFrom, hp, rAt, wAt, h3]
      · have hnx : ∀ ty, (Instr.next (.pointer (some ⟨w.heap.size, 0, none⟩)) true ty).run Tryf.prog wr = _ := fun ty => Lib.run_next_end_at wr w.heap.size v pos ty hit hp
        go_wp2_with fail
        go_ret
        refine ⟨-1, rfl, ?_, hbw⟩
        rw [Hok.out, ← hcon.out, runesFrom_end v gk pos hp]
        rfl
  · go_enter Tryf.func81, Tryf.ntmps81
    go_wp2_with fail
    go_loopg [] v.size (fun g wr => ∃ pos, wr.heap[w.heap.size]? = some (.stringIter v pos) ∧ Below w.heap.size w wr ∧ Hid ((runesFrom v g pos).contains r = (runesOf v).contains r) ∧ v.size ≤ pos + g)
    case atStart => exact ⟨0, World.iter_heap w v 0, Below.alloc (Below.refl _ _) (Nat.le_refl _) _, Lib.hid rfl, by omega⟩
    case round =>
      obtain ⟨pos, hit, hbw, hcon, hfu⟩ := hrel
      have hsz : w.heap.size < wr.heap.size := (Array.getElem?_eq_some_iff.1 hit).1
      by_cases hp : pos < v.size
      · have hnx : ∀ ty, (Instr.next (.pointer (some ⟨w.heap.size, 0, none⟩)) true ty).run Tryf.prog wr = _ := fun ty => Lib.run_next_any_at wr w.heap.size v pos ty hit hp
        have hbw2 := Lib.below_iterAt hbw (k := w.heap.size) (Nat.le_refl _) v (pos + (Utf8.decode v pos).2)
        have hit2 := Lib.iterAt_heap wr w.heap.size v pos (pos + (Utf8.decode v pos).2) hit
        have hwd := wAt_pos v pos hp
        obtain ⟨g', rfl⟩ : ∃ g', gk = g' + 1 := ⟨gk - 1, by omega⟩
        obtain ⟨x, hx⟩ : ∃ x : Int, x = ((Utf8.decode v pos).1 : Int) := ⟨_, rfl⟩
        by_cases hcr : x = r
        · have hd : ((((Utf8.decode v pos).1 : Nat) : Int) == r) = true := by rw [← hx, hcr]; simp
          have Hc := Lib.hid hcr
          have Hx := Lib.hid hx
          clear hcr hx
          go_wp2_with fail
          go_ret
          refine ⟨pos, rfl, ?_, hbw2⟩
          rw [Hok.out, ← hcon.out]
          simp [runesFrom, hp, rAt, ← Hx.out, Hc.out]
        · have hd : ((((Utf8.decode v pos).1 : Nat) : Int) == r) = false := by rw [← hx]; simpa using hcr
          have Hc := Lib.hid hcr
          have Hx := Lib.hid hx
          clear hcr hx
          go_wp2_with fail
          go_roundg g'
          case measure => omega
          case rel =>
            refine ⟨pos + (Utf8.decode v pos).2, hit2, hbw2, Lib.hid ?_, by unfold wAt at hwd; omega⟩
            rw [← hcon.out]
            have h1 := Hc.out
            have h2 := Hx.out
            have h3 : ¬ r = ((Utf8.decode v pos).1 : Int) := fun e => h1 (h2.trans e.symm)
            simp [runesFrom, hp, rAt, wAt, h3]
      · have hnx : ∀ ty, (Instr.next (.pointer (some ⟨w.heap.size, 0, none⟩)) true ty).run Tryf.prog wr = _ := fun ty => Lib.run_next_end_at wr w.heap.size v pos ty hit hp
        go_wp2_with fail
        go_ret
        refine ⟨-1, rfl, ?_, hbw⟩
        rw [Hok.out, ← hcon.out, runesFrom_end v gk pos hp]
        rfl
  · go_enter Tryf.func81, Tryf.ntmps81
    go_wp2_with fail
    go_loopg [] v.size (fun g wr => ∃ pos, wr.heap[w.heap.size]? = some (.stringIter v pos) ∧ Below w.heap.size w wr ∧ Hid ((runesFrom v g pos).contains r = (runesOf v).contains r) ∧ v.size ≤ pos + g)
    case atStart => exact ⟨0, World.iter_heap w v 0, Below.alloc (Below.refl _ _) (Nat.le_refl _) _, Lib.hid rfl, by omega⟩
    case round =>
      obtain ⟨pos, hit, hbw, hcon, hfu⟩ := hrel
      have hsz : w.heap.size < wr.heap.size := (Array.getElem?_eq_some_iff.1 hit).1
      by_cases hp : pos < v.size
      · have hnx : ∀ ty, (Instr.next (.pointer (some ⟨w.heap.size, 0, none⟩)) true ty).run Tryf.prog wr = _ := fun ty => Lib.run_next_any_at wr w.heap.size v pos ty hit hp
        have hbw2 := Lib.below_iterAt hbw (k := w.heap.size) (Nat.le_refl _) v (pos + (Utf8.decode v pos).2)
        have hit2 := Lib.iterAt_heap wr w.heap.size v pos (pos + (Utf8.decode v pos).2) hit
        have hwd := wAt_pos v pos hp
        obtain ⟨g', rfl⟩ : ∃ g', gk = g' + 1 := ⟨gk - 1, by omega⟩
        obtain ⟨x, hx⟩ : ∃ x : Int, x = ((Utf8.decode v pos).1 : Int) := ⟨_, rfl⟩
        by_cases hcr : x = r
        · have hd : ((((Utf8.decode v pos).1 : Nat) : Int) == r) = true := by rw [← hx, hcr]; simp
          have Hc := Lib.hid hcr
          have Hx := Lib.hid hx
          clear hcr hx
          go_wp2_with fail
          go_ret
          refine ⟨pos, rfl, ?_, hbw2⟩
          rw [Hok.out, ← hcon.out]
          simp [runesFrom, hp, rAt, ← Hx.out, Hc.out]
        · have hd : ((((Utf8.decode v pos).1 : Nat) : Int) == r) = false := by rw [← hx]; simpa using hcr
          have Hc := Lib.hid hcr
          have Hx := Lib.hid hx
          clear hcr hx
          go_wp2_with fail
          go_roundg g'
          case measure => omega
          case rel =>
            refine ⟨pos + (Utf8.decode v pos).2, hit2, hbw2, Lib.hid ?_, by unfold wAt at hwd; omega⟩
            rw [← hcon.out]
            have h1 := Hc.out
            have h2 := Hx.out
            have h3 : ¬ r = ((Utf8.decode v pos).1 : Int) := fun e => h1 (h2.trans e.symm)
            simp [runesFrom, hp, rAt, wAt, h3]
      · have hnx : ∀ ty, (Instr.next (.pointer (some ⟨w.heap.size, 0, none⟩)) true ty).run Tryf.prog wr = _ := fun ty => Lib.run_next_end_at wr w.heap.size v pos ty hit hp
        go_wp2_with fail
        go_ret
        refine ⟨-1, rfl, ?_, hbw⟩
        rw [Hok.out, ← hcon.out, runesFrom_end v gk pos hp]
        rfl

theorem contains_any (v : ByteArray) (r : Int) (w : World) (h0 : -2147483648 ≤ r) (h1 : r ≤ 2147483647) :
    Calls Tryf.prog 58 #[.string v, .int .i32 r] w fun e w' => e = .returned (.bool (has v r)) ∧ ∃ xs d, w' = grow w xs d := by
  have hi : Calls Tryf.prog 81 #[.string v, .int .i32 r] w (IdxPost v r w) := by
    by_cases hbad : r ≠ 65533 ∧ (r < 0 ∨ 1114111 < r ∨ (55296 ≤ r ∧ r ≤ 57343))
    · exact indexRune_no v r w h0 h1 hbad.1 hbad.2
    · refine indexRune_yes v r w ?_
      by_cases h : r = 65533
      · left; simp [h]
      · right
        refine ⟨by simpa using h, ?_⟩
        have : ¬ (r < 0 ∨ 1114111 < r ∨ (55296 ≤ r ∧ r ≤ 57343)) := fun e => hbad ⟨h, e⟩
        omega
  have Hi := Lib.hid hi
  clear hi
  cases hh : has v r with
  | true =>
    have Hh := Lib.hid hh
    clear hh
    go_enter Tryf.func58, Tryf.ntmps58
    go_wp2_with fail
    refine Hi.out.mono ?_
    rintro e w' ⟨n, rfl, hn, hb⟩
    rw [Hh.out] at hn
    go_wp2_with fail
    go_ret
    exact ⟨rfl, grow_of hb⟩
  | false =>
    have Hh := Lib.hid hh
    clear hh
    go_enter Tryf.func58, Tryf.ntmps58
    go_wp2_with fail
    refine Hi.out.mono ?_
    rintro e w' ⟨n, rfl, hn, hb⟩
    rw [Hh.out] at hn
    go_wp2_with fail
    go_ret
    exact ⟨rfl, grow_of hb⟩

theorem accept_any {W0 w : World} {S : Nat → Prop} {L : Nat} {s v : ByteArray} {t : St} (H : Lx W0 S w L s t) :
    Calls Tryf.prog 56 #[.pointer (some ⟨L, 0, none⟩), .string v] w fun e w' => e = .returned (.bool (acceptB v s t)) ∧ Done W0 S w L s (accept v s t) w' := by
  have hp0 := peek_lo s t
  have hp1 := peek_hi s t
  cases hh : has v (peek s t) with
  | true =>
    have e1 : acceptB v s t = true := hh
    have e2 : accept v s t = next s t := by unfold accept; rw [e1]; rfl
    rw [e1, e2]
    have Hh := Lib.hid hh
    clear hh e1 e2
    go_enter Tryf.func56, Tryf.ntmps56
    go_wp2_with fail
    refine (peek_any H).mono ?_
    rintro e w1 ⟨rfl, xs, d, rfl⟩
    go_wp2_with fail
    refine (contains_any v (peek s t) _ (by omega) (by omega)).mono ?_
    rintro e w2 ⟨rfl, xs2, d2, rfl⟩
    rw [Hh.out]
    go_wp2_with fail
    refine (next_any (H.keep (by repeat (first | exact Below.refl _ _ | apply below_drew | apply below_drewN | apply below_alloc | apply below_grow)))).mono ?_
    rintro e w3 ⟨rfl, hd⟩
    go_wp2_with fail
    go_ret
    exact ⟨rfl, Done.trans (fun _ h => .inl h) (Fr.of_below (by repeat (first | exact Below.refl _ _ | apply below_drew | apply below_drewN | apply below_alloc | apply below_grow))) hd⟩
  | false =>
    have e1 : acceptB v s t = false := hh
    have e2 : accept v s t = t := by unfold accept; rw [e1]; rfl
    rw [e1, e2]
    have Hh := Lib.hid hh
    clear hh e1 e2
    go_enter Tryf.func56, Tryf.ntmps56
    go_wp2_with fail
    refine (peek_any H).mono ?_
    rintro e w1 ⟨rfl, xs, d, rfl⟩
    go_wp2_with fail
    refine (contains_any v (peek s t) _ (by omega) (by omega)).mono ?_
    rintro e w2 ⟨rfl, xs2, d2, rfl⟩
    rw [Hh.out]
    go_wp2_with fail
    go_ret
    exact ⟨rfl, Done.below H (by repeat (first | exact Below.refl _ _ | apply below_drew | apply below_drewN | apply below_alloc | apply below_grow))⟩

theorem acceptRun_eq (v s : ByteArray) (t : St) : acceptRun v s t = if acceptB v s t = true then acceptRun v s (accept v s t) else t := by
  rw [acceptRun]
  unfold accept
  split
  · rename_i h
    have : acceptB v s t = true := h
    rw [if_pos this, this]; rfl
  · rename_i h
    have : ¬ acceptB v s t = true := h
    rw [if_neg this]

theorem acceptB_gt {v s : ByteArray} {t : St} (h : acceptB v s t = true) : s.size - (accept v s t).eb < s.size - t.eb := by
  unfold accept
  rw [h]
  exact peek_sub (has_ne h)

theorem acceptRun_any {W0 w : World} {S : Nat → Prop} {L : Nat} {s v : ByteArray} {t : St} (H : Lx W0 S w L s t) :
    Calls Tryf.prog 95 #[.pointer (some ⟨L, 0, none⟩), .string v] w fun e w' => e = .returned (.tuple #[]) ∧ Done W0 S w L s (acceptRun v s t) w' := by
  go_enter Tryf.func95, Tryf.ntmps95
  go_wp2_with fail
  go_loopg [] (s.size - t.eb + 1) (fun g wr => ∃ S1 t1, (∀ k, S1 k → S k ∨ w.heap.size ≤ k) ∧ Fr S w wr ∧ Lx W0 S1 wr L s t1 ∧ Hid (acceptRun v s t1 = acceptRun v s t) ∧ s.size - t1.eb < g)
  case atStart => exact ⟨S, t, fun _ h => .inl h, Fr.refl _ _, H, Lib.hid rfl, by omega⟩
  case round =>
    obtain ⟨S1, t1, hS1, hf, H1, heq, hg⟩ := hrel
    go_wp2_with fail
    refine (accept_any H1).mono ?_
    rintro e w2 ⟨rfl, S2, hS2, H2, hf2⟩
    cases hb : acceptB v s t1 with
    | true =>
      have hlt := acceptB_gt hb
      have e2 := acceptRun_eq v s t1
      rw [if_pos hb] at e2
      have heq2 : Hid (acceptRun v s (accept v s t1) = acceptRun v s t) := Lib.hid (e2.symm.trans heq.out)
      clear e2 hb
      go_wp2_with fail
      go_roundg (s.size - (accept v s t1).eb + 1)
      case measure => omega
      case rel => exact ⟨S2, accept v s t1, fun k hk => (hS2 k hk).elim (hS1 k) (fun h => .inr (Nat.le_trans hf.size h)), hf.trans hf2 hS1, H2, heq2, by omega⟩
    | false =>
      have e2 := acceptRun_eq v s t1
      rw [if_neg (by rw [hb]; decide)] at e2
      have e3 : accept v s t1 = t1 := by unfold accept; rw [hb]; rfl
      rw [e3] at H2
      have hfin : Done W0 S w L s (acceptRun v s t) w2 := by
        rw [← heq.out, e2]
        exact Done.trans hS1 hf ⟨S2, hS2, H2, hf2⟩
      clear e2 e3 hb
      go_wp2_with fail
      go_end0
      exact ⟨rfl, hfin⟩

theorem skipSpaces_any {W0 w : World} {S : Nat → Prop} {L : Nat} {s : ByteArray} {t : St} (H : Lx W0 S w L s t) :
    Calls Tryf.prog 97 #[.pointer (some ⟨L, 0, none⟩)] w fun e w' => e = .returned (.tuple #[]) ∧ Done W0 S w L s (skipSpaces s t) w' := by
  go_enter Tryf.func97, Tryf.ntmps97
  go_wp2_with fail
  refine (acceptRun_any H).mono ?_
  rintro e w1 ⟨rfl, S1, hS1, H1, hf1⟩
  go_wp2_with fail
  refine (skip_any H1).mono ?_
  rintro e w2 ⟨rfl, hd⟩
  go_wp2_with fail
  go_end0
  exact ⟨rfl, Done.trans hS1 hf1 hd⟩

end Go.Proofs.YtlbmojpmfgihlaaFmt
