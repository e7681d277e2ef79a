/-
  Walks: ring.New, New, NewSource, (*Ring).Reset, (*Lexer).Reset.
-/
import Derived.Test.YtdpdgppjeekcmaaFmtBase
import Derived.Laws.EntriesVeiled
namespace Go.Proofs.YtdpdgppjeekcmaaFmt
open Go Go.Lib Go.RowKit Go.Proofs

theorem ringNew_any (w : World) : Calls Tryf.prog 74 #[.int .i64 10] w fun e w' => e = .returned (.pointer (some ⟨w.heap.size, 0, none⟩)) ∧ w.alloc (.cells #[.slice none 0 0, .int .i64 0, .int .i64 0, .int .i64 10] 96) = w' := by
  go_enter Tryf.func74, Tryf.ntmps74
  go_wp2_with fail
  go_ret
  exact ⟨rfl, rfl⟩

/-- A lexer from New. -/
def fresh : St := ⟨none, 0, 0, 0, 0, false, false, none, []⟩

theorem new_walk (w : World) : Calls Tryf.prog 40 #[] w fun e w' => e = .returned (.pointer (some ⟨w.heap.size + 1, 0, none⟩)) ∧
    (w.alloc (.cells #[.slice none 0 0, .int .i64 0, .int .i64 0, .int .i64 10] 96)).alloc (.cells #[.nilFunc, .string ⟨#[]⟩, .pointer (some ⟨w.heap.size, 0, none⟩), .pointer none, .int .i64 0, .int .i64 0, .int .i64 0, .int .i64 0, .bool false, .bool false] 61) = w' := by
  go_enter Tryf.func40, Tryf.ntmps40
  go_wp2_with fail
  refine (ringNew_any _).mono ?_
  rintro e w' ⟨rfl, rfl⟩
  go_wp2_with fail
  go_ret
  exact ⟨rfl, rfl⟩

/-- The blocks of a lexer that New has just made. -/
def twoOf (n : Nat) (k : Nat) : Prop := k = n ∨ k = n + 1

theorem new_any {W0 w : World} (hT : Tabs W0) (hlow : Below W0.heap.size W0 w) : Calls Tryf.prog 40 #[] w fun e w' => ∃ L, e = .returned (.pointer (some ⟨L, 0, none⟩)) ∧ ∃ S, (∀ k, S k → w.heap.size ≤ k) ∧ Lx W0 S w' L ⟨#[]⟩ fresh ∧ Below w.heap.size w w' := by
  refine (new_walk w).mono ?_
  rintro e w' ⟨rfl, rfl⟩
  refine ⟨w.heap.size + 1, rfl, twoOf w.heap.size, fun k hk => by unfold twoOf at hk; omega, ?_, (Below.alloc (Below.alloc (Below.refl _ _) (Nat.le_refl _) _) (by simp) _)⟩
  refine ⟨hT, below_alloc (below_alloc hlow), fun k hk => ?_, fun k hk => ?_, by decide, ⟨w.heap.size, .pointer none, .inr rfl, .inl rfl, ?_, ?_, .inl ⟨rfl, rfl⟩⟩, by decide⟩
  · have := hlow.size; unfold twoOf at hk; omega
  · unfold twoOf at hk; simp; omega
  · show ((w.heap.push _).push _)[w.heap.size + 1]? = _
    rw [Array.getElem?_push, if_pos (by simp)]
    rfl
  · refine ⟨.slice none 0 0, 0, ?_, .inl ⟨rfl, rfl, rfl⟩⟩
    show ((w.heap.push _).push _)[w.heap.size]? = _
    rw [Array.getElem?_push, if_neg (by simp), Array.getElem?_push, if_pos rfl]
    rfl

theorem newSource_any (s : ByteArray) (w : World) : Calls Tryf.prog 42 #[.string s] w fun e w' => e = .returned (.agg #[.string s]) ∧ ∃ xs d, w' = grow w xs d := by
  go_enter Tryf.func42, Tryf.ntmps42
  go_wp2_with fail
  exact bodyPost_ret (v := .agg #[.string s]) (by simp [results, Tryf.results42, go_sem]) rfl ⟨rfl, grow_of (by repeat (first | exact Below.refl _ _ | apply below_drew | apply below_drewN | apply below_alloc | apply below_grow))⟩

theorem ringReset_nil (R back n : Nat) (w : World) (hR : w.heap[R]? = some (.cells #[.slice none 0 0, .int .i64 back, .int .i64 n, .int .i64 10] 96 (0, 0))) :
    Calls Tryf.prog 75 #[.pointer (some ⟨R, 0, none⟩)] w fun e w' => e = .returned (.tuple #[]) ∧ OnlyL R 96 #[.slice none 0 0, .int .i64 0, .int .i64 0, .int .i64 10] w w' := by
  have c0 : w.cell? ⟨R, 0, none⟩ = some (.slice none 0 0) := cell_of_block hR 0
  have c1 : w.cell? ⟨R, 1, none⟩ = some (.int .i64 back) := cell_of_block hR 1
  have c2 : w.cell? ⟨R, 2, none⟩ = some (.int .i64 n) := cell_of_block hR 2
  have fz := free_of_block hR
  have l0 : R < w.heap.size := (Array.getElem?_eq_some_iff.1 hR).1
  have l1 : R < w.heap.size + 1 := by omega
  have hc := Lib.hid hR
  clear hR
  go_enter Tryf.func75, Tryf.ntmps75
  go_wp2_with fail
  go_loopg [9] 1 (fun g i wr => i = .int .i64 0 ∧ w.alloc (.cells #[.int .i64 0, .int .i64 0, .string ⟨#[]⟩, .string ⟨#[]⟩] 67) = wr)
  case atStart => exact ⟨rfl, rfl⟩
  case round =>
    obtain ⟨rfl, rfl⟩ := hrel
    go_wp2_with fail
    go_end0
    refine ⟨rfl, OnlyL.cast (by repeat (first | apply OnlyL.setCell | apply OnlyL.drew | apply OnlyL.drewN | apply OnlyL.alloc | apply OnlyL.grow | exact OnlyL.refl hc.out)) ?_⟩
    simp

set_option maxHeartbeats 1000000 in
set_option maxRecDepth 100000 in
theorem ringReset_full (R D back n : Nat) (c : Array Value) (w : World) (hR : w.heap[R]? = some (.cells #[.slice (some ⟨D, 0, none⟩) 10 10, .int .i64 back, .int .i64 n, .int .i64 10] 96 (0, 0)))
    (hD : w.heap[D]? = some (.cells c 67 (0, 0))) (hcs : c.size = 40) :
    Calls Tryf.prog 75 #[.pointer (some ⟨R, 0, none⟩)] w fun e w' => e = .returned (.tuple #[]) ∧ ∃ w1 c1, OnlyL D 67 c1 w w1 ∧ c1.size = 40 ∧ OnlyL R 96 #[.slice (some ⟨D, 0, none⟩) 10 10, .int .i64 0, .int .i64 0, .int .i64 10] w1 w' := by
  have c0 : w.cell? ⟨R, 0, none⟩ = some (.slice (some ⟨D, 0, none⟩) 10 10) := cell_of_block hR 0
  have l0 : R < w.heap.size := (Array.getElem?_eq_some_iff.1 hR).1
  have l1 : R < w.heap.size + 1 := by omega
  have hRD : R ≠ D := by intro e; rw [e, hD] at hR; exact kinds_ne (by decide) hR
  have HR := Lib.hid hR
  have HD := Lib.hid hD
  have Hs := Lib.hid hcs
  clear hR hD hcs
  go_enter Tryf.func75, Tryf.ntmps75
  go_wp2_with fail
  go_loopg [9] 11 (fun g i wr => ∃ k c1, i = .int .i64 (k : Nat) ∧ k ≤ 10 ∧ 10 < k + g ∧ Hid (Array.size c1 = 40) ∧ OnlyL D 67 c1 w wr ∧ wr.cell? ⟨w.heap.size, 0, none⟩ = some (.int .i64 0) ∧ wr.cell? ⟨w.heap.size, 1, none⟩ = some (.int .i64 0) ∧ wr.cell? ⟨w.heap.size, 2, none⟩ = some (.string ⟨#[]⟩) ∧ wr.cell? ⟨w.heap.size, 3, none⟩ = some (.string ⟨#[]⟩))
  case atStart => exact ⟨0, c, rfl, by omega, by omega, Hs, (OnlyL.refl HD.out).alloc _, by simp [World.cell?_alloc_new], by simp [World.cell?_alloc_new], by simp [World.cell?_alloc_new], by simp [World.cell?_alloc_new]⟩
  case round =>
    obtain ⟨k, c1, rfl, hk, hg, hs1, ho, z0, z1, z2, z3⟩ := hrel
    have hwR : Hid (wr.heap[R]? = _) := Lib.hid ((ho.others R l0 hRD).trans HR.out)
    have r0 : wr.cell? ⟨R, 0, none⟩ = some (.slice (some ⟨D, 0, none⟩) 10 10) := cell_of_block hwR.out 0
    by_cases hk2 : k < 10
    · have hex : ∀ j, j < 40 → ∃ v, wr.cell? ⟨D, j, none⟩ = some v := fun j hj => ⟨_, (cell_of_block ho.own j).trans (Array.getElem?_eq_getElem (by rw [hs1.out]; exact hj))⟩
      obtain ⟨v0, d0⟩ := hex (k * 4) (by omega)
      obtain ⟨v1, d1⟩ := hex (k * 4 + 1) (by omega)
      obtain ⟨v2, d2⟩ := hex (k * 4 + 2) (by omega)
      obtain ⟨v3, d3⟩ := hex (k * 4 + 3) (by omega)
      have fzD := free_of_block ho.own
      clear hex
      have hsz : w.heap.size ≠ D := by have := (Array.getElem?_eq_some_iff.1 HD.out).1; omega
      have key : ∀ (c2 : Array Value) (W' : World), OnlyL D 67 c2 wr W' → Array.size c2 = 40 → (Hid (Array.size c2 = 40) ∧ OnlyL D 67 c2 w W' ∧ W'.cell? ⟨w.heap.size, 0, none⟩ = some (.int .i64 0) ∧ W'.cell? ⟨w.heap.size, 1, none⟩ = some (.int .i64 0) ∧ W'.cell? ⟨w.heap.size, 2, none⟩ = some (.string ⟨#[]⟩) ∧ W'.cell? ⟨w.heap.size, 3, none⟩ = some (.string ⟨#[]⟩)) :=
        fun c2 W' h1 h2 => ⟨Lib.hid h2, ho.trans h1, h1.cell z0 hsz, h1.cell z1 hsz, h1.cell z2 hsz, h1.cell z3 hsz⟩
      have Key := Lib.hid key
      clear key
      have k0 : (0 : Int) ≤ (k : Int) := by omega
      have k1 : (k : Int) < 10 := by omega
      go_wp2_with fail
      go_region
      all_goals go_wp2_with fail
      all_goals
        go_roundg (10 - k)
        case measure => omega
        case rel => exact ⟨k + 1, _, by go_num, by omega, by omega, Key.out _ _ (by repeat (first | exact OnlyL.refl ho.own | apply OnlyL.setCell | apply OnlyL.drew | apply OnlyL.drewN)) (by simpa using hs1.out)⟩
    · obtain rfl : k = 10 := by omega
      have fzR := free_of_block hwR.out
      have r1 : wr.cell? ⟨R, 1, none⟩ = some (.int .i64 back) := cell_of_block hwR.out 1
      have r2 : wr.cell? ⟨R, 2, none⟩ = some (.int .i64 n) := cell_of_block hwR.out 2
      go_wp2_with fail
      go_end0
      refine ⟨rfl, wr, c1, ho, hs1.out, OnlyL.cast (by repeat (first | exact OnlyL.refl hwR.out | apply OnlyL.setCell | apply OnlyL.drew | apply OnlyL.drewN)) ?_⟩
      simp

/-- (*Ring).Reset: the queue is empty. -/
theorem ringReset_any {S : Nat → Prop} {R : Nat} {toks : List Tok} {w : World} (hr : RingW S w R toks) (hlt : ∀ k, S k → k < w.heap.size) :
    Calls Tryf.prog 75 #[.pointer (some ⟨R, 0, none⟩)] w fun e w' => e = .returned (.tuple #[]) ∧ RDone S R [] w w' := by
  obtain ⟨dv, back, hR, h⟩ := hr
  rcases h with ⟨rfl, rfl, rfl⟩ | ⟨D, c, rfl, hS, hD, hcs, hb, hn, ht⟩
  · refine (ringReset_nil R 0 0 w hR).mono ?_
    rintro e w' ⟨rfl, ho⟩
    exact ⟨rfl, S, fun _ h => h, fun _ h => .inl h, fun k hk => Nat.lt_of_lt_of_le (hlt k hk) ho.size, ⟨ho.os, ho.tape, ho.output, ho.size, fun k hk hn _ => ho.others k hk hn⟩, .slice none 0 0, 0, ho.own, .inl ⟨rfl, rfl, rfl⟩⟩
  · refine (ringReset_full R D back toks.length c w hR hD hcs).mono ?_
    rintro e w' ⟨rfl, w1, c1, ho1, hc1, ho⟩
    have hRD : R ≠ D := by intro e; rw [e, hD] at hR; exact kinds_ne (by decide) hR
    refine ⟨rfl, S, fun _ h => h, fun _ h => .inl h, fun k hk => Nat.lt_of_lt_of_le (hlt k hk) (Nat.le_trans ho1.size ho.size), ⟨ho.os.trans ho1.os, ho.tape.trans ho1.tape, ho.output.trans ho1.output, Nat.le_trans ho1.size ho.size, fun k hk hn hd => ?_⟩, .slice (some ⟨D, 0, none⟩) 10 10, 0, ho.own, .inr ⟨D, c1, rfl, hS, ?_, hc1, by decide, by decide, fun i k hi => ?_⟩⟩
    · have hkD : k ≠ D := fun e => hd c (e ▸ hS) (e ▸ hD)
      exact (ho.others k (Nat.lt_of_lt_of_le hk ho1.size) hn).trans (ho1.others k hk hkD)
    · exact (ho.others D (Nat.lt_of_lt_of_le (hlt D hS) ho1.size) (fun e => hRD e.symm)).trans ho1.own
    · simp at hi

set_option maxRecDepth 100000 in
theorem reset_any {W0 w : World} {S : Nat → Prop} {L : Nat} {s s' : ByteArray} {t : St} (H : Lx W0 S w L s t) (hs : s'.size ≤ 1099511627776) :
    Calls Tryf.prog 41 #[.pointer (some ⟨L, 0, none⟩), .agg #[.string s']] w fun e w' => e = .returned (.tuple #[]) ∧ Done W0 S w L s' { t with q := some .root, toks := [] } w' := by
  obtain ⟨R, ev, hL, hR, hc, hr, he, l0, c0, c1, c2, c3, c4, c5, c6, c7, c8, c9, fz⟩ := H.opened
  have hsm := H.small
  obtain ⟨p1, p2, p3, p4⟩ := H.poss
  have p5 : t.er ≤ 1099511627776 := by omega
  have l1 : L < w.heap.size + 1 := by omega
  have l2 : L < w.heap.size + 1 + 1 := by omega
  have l3 : L < w.heap.size + 1 + 1 + 1 := by omega
  go_enter Tryf.func41, Tryf.ntmps41
  go_wp2_with fail
  have ho1 : OnlyL L 61 (cellsL s' R ev t) w ((w.setCell ⟨L, 1, none⟩ (.string s')).alloc (.cells #[.string s'] 56)) := OnlyL.cast (((OnlyL.refl hc.out).setCell 1 _).alloc _) (by simp [cellsL])
  have hr1 : RingW S ((w.setCell ⟨L, 1, none⟩ (.string s')).alloc (.cells #[.string s'] 56)) R t.toks :=
    hr.keep (ho1.others R (H.lt R hR) (hr.ne hc.out)) (fun k c hk hcc => ho1.others k (H.lt k hk) (fun e => kinds_ne (by decide) ((e ▸ hcc).symm.trans hc.out)))
  refine (ringReset_any hr1 (fun k hk => Nat.lt_of_lt_of_le (H.lt k hk) ho1.size)).mono ?_
  rintro e w2 ⟨rfl, hd⟩
  obtain ⟨w1, hw1⟩ : ∃ w1, w1 = (w.setCell ⟨L, 1, none⟩ (.string s')).alloc (.cells #[.string s'] 56) := ⟨_, rfl⟩
  rw [← hw1] at ho1 hd
  clear hw1 hr1
  have hL2 : Hid (w2.heap[L]? = _) := Lib.hid ((hd.choose_spec.2.2.2.1).lex ho1.own (hr.ne hc.out))
  have q0 : w2.cell? ⟨L, 0, none⟩ = some (qVal t.q) := cell_of_block hL2.out 0
  have qf := free_of_block hL2.out
  have Hd := Lib.hid hd
  clear hd
  go_wp2_with fail
  go_end0
  refine ⟨rfl, Done.ring (t2 := { t with q := some .root, toks := [] }) H hL hR hr he hc.out ho1 Hd.out (OnlyL.cast (by repeat (first | exact OnlyL.refl hL2.out | apply OnlyL.setCell | apply OnlyL.drew | apply OnlyL.drewN | apply OnlyL.alloc)) ?_) hs rfl rfl ⟨p1, p2, p3, p4⟩⟩
  simp [cellsL, qVal]

end Go.Proofs.YtdpdgppjeekcmaaFmt
