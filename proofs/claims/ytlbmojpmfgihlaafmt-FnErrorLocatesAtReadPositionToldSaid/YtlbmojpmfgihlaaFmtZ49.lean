/-
  Walks: the shims of n003_49.
-/
import Derived.Test.YtlbmojpmfgihlaaFmtErr
import Derived.Test.YtlbmojpmfgihlaaFmtSteps
import Derived.Test.YtlbmojpmfgihlaaFmtAccs
import Derived.Test.YtlbmojpmfgihlaaFmtTabs
namespace Go.Proofs.YtlbmojpmfgihlaaFmt
open Go Go.Lib Go.RowKit Go.Proofs
open Go.Extern.Stop Go.Stop Go.Extern

theorem znew_any {W0 w : World} (hT : Tabs W0) (hlow : Below W0.heap.size W0 w) (s : ByteArray) (hs : s.size ≤ 1099511627776) :
    Calls Tryf.prog 7 #[.string s] w (Made W0 w s start) := by
  go_enter Tryf.func7, Tryf.ntmps7
  go_wp2_with fail
  refine (new_any hT hlow).mono ?_
  rintro e w1 ⟨L, rfl, S, hS, H, hb⟩
  go_wp2_with fail
  refine (newSource_any s w1).mono ?_
  rintro e w2 ⟨rfl, xs, d, rfl⟩
  go_wp2_with fail
  refine (reset_any (H.keep (by repeat (first | exact Below.refl _ _ | apply below_drew | apply below_drewN | apply below_alloc | apply below_grow))) hs).mono ?_
  rintro e w3 ⟨rfl, hd⟩
  go_wp2_with fail
  go_ret
  exact Made.done hS (hb.trans ((grow_below _ _ _).mono hb.size)) hd
theorem znext_any {W0 w : World} {S : Nat → Prop} {L : Nat} {s : ByteArray} {t : St} (H : Lx W0 S w L s t) :
    Calls Tryf.prog 17 #[.pointer (some ⟨L, 0, none⟩)] w fun e w' => e = .returned (.int .i32 (peek s t)) ∧ Done W0 S w L s (next s t) w' := by
  go_enter Tryf.func17, Tryf.ntmps17
  go_wp2_with fail
  refine (next_any H).mono ?_
  rintro e w1 ⟨rfl, hd⟩
  go_wp2_with fail
  go_ret
  exact ⟨rfl, hd⟩
theorem zendRune_any {W0 w : World} {S : Nat → Prop} {L : Nat} {s : ByteArray} {t : St} (H : Lx W0 S w L s t) :
    Calls Tryf.prog 15 #[.pointer (some ⟨L, 0, none⟩)] w fun e w' => e = .returned (.int .i64 t.er) ∧ w = w' := by
  obtain ⟨R, ev, hL, hR, hc, hr, he, l0, c0, c1, c2, c3, c4, c5, c6, c7, c8, c9, fz⟩ := H.opened
  have hsm := H.small
  obtain ⟨p1, p2, p3, p4⟩ := H.poss
  have p5 : t.er ≤ 1099511627776 := by omega
  have l1 : L < w.heap.size + 1 := by omega
  have l2 : L < w.heap.size + 1 + 1 := by omega
  have l3 : L < w.heap.size + 1 + 1 + 1 := by omega
  go_enter Tryf.func15, Tryf.ntmps15
  go_wp2_with fail
  go_ret
  exact ⟨rfl, rfl⟩
theorem zendByte_any {W0 w : World} {S : Nat → Prop} {L : Nat} {s : ByteArray} {t : St} (H : Lx W0 S w L s t) :
    Calls Tryf.prog 18 #[.pointer (some ⟨L, 0, none⟩)] w fun e w' => e = .returned (.int .i64 t.eb) ∧ w = w' := by
  obtain ⟨R, ev, hL, hR, hc, hr, he, l0, c0, c1, c2, c3, c4, c5, c6, c7, c8, c9, fz⟩ := H.opened
  have hsm := H.small
  obtain ⟨p1, p2, p3, p4⟩ := H.poss
  have p5 : t.er ≤ 1099511627776 := by omega
  have l1 : L < w.heap.size + 1 := by omega
  have l2 : L < w.heap.size + 1 + 1 := by omega
  have l3 : L < w.heap.size + 1 + 1 + 1 := by omega
  go_enter Tryf.func18, Tryf.ntmps18
  go_wp2_with fail
  go_ret
  exact ⟨rfl, rfl⟩
theorem zeof_any {W0 w : World} {S : Nat → Prop} {L : Nat} {s : ByteArray} {t : St} (H : Lx W0 S w L s t) :
    Calls Tryf.prog 26 #[.pointer (some ⟨L, 0, none⟩)] w fun e w' => e = .returned (.bool t.eof) ∧ w = w' := by
  obtain ⟨R, ev, hL, hR, hc, hr, he, l0, c0, c1, c2, c3, c4, c5, c6, c7, c8, c9, fz⟩ := H.opened
  have hsm := H.small
  obtain ⟨p1, p2, p3, p4⟩ := H.poss
  have p5 : t.er ≤ 1099511627776 := by omega
  have l1 : L < w.heap.size + 1 := by omega
  have l2 : L < w.heap.size + 1 + 1 := by omega
  have l3 : L < w.heap.size + 1 + 1 + 1 := by omega
  go_enter Tryf.func26, Tryf.ntmps26
  go_wp2_with fail
  go_ret
  exact ⟨rfl, rfl⟩
theorem zerrSet_some {W0 w : World} {S : Nat → Prop} {L : Nat} {s : ByteArray} {t : St} {p : Int × Int} (H : Lx W0 S w L s t) (he : t.err = some p) :
    Calls Tryf.prog 25 #[.pointer (some ⟨L, 0, none⟩)] w fun e w' => e = .returned (.bool true) ∧ w = w' := by
  obtain ⟨R, ev, hL, hR, hc, hr, hee, l0, c0, c1, c2, c3, c4, c5, c6, c7, c8, c9, fz⟩ := H.opened
  obtain ⟨E, hev⟩ : ∃ E, ev = .pointer (some ⟨E, 0, none⟩) := by
    rcases hee with ⟨_, h⟩ | ⟨E, f, o, line, col, msg, snip, h, _⟩
    · rw [he] at h; cases h
    · exact ⟨E, h⟩
  subst hev
  go_enter Tryf.func25, Tryf.ntmps25
  go_wp2_with fail
  go_ret
  exact ⟨rfl, rfl⟩
theorem zerrSet_none {W0 w : World} {S : Nat → Prop} {L : Nat} {s : ByteArray} {t : St} (H : Lx W0 S w L s t) (he : t.err = none) :
    Calls Tryf.prog 25 #[.pointer (some ⟨L, 0, none⟩)] w fun e w' => e = .returned (.bool false) ∧ w = w' := by
  obtain ⟨R, ev, hL, hR, hc, hr, hee, l0, c0, c1, c2, c3, c4, c5, c6, c7, c8, c9, fz⟩ := H.opened
  have hev : ev = .pointer none := by
    rcases hee with ⟨h, _⟩ | ⟨E, f, o, line, col, msg, snip, _, _, h, _⟩
    · exact h
    · rw [he] at h; cases h
  subst hev
  go_enter Tryf.func25, Tryf.ntmps25
  go_wp2_with fail
  go_ret
  exact ⟨rfl, rfl⟩
theorem zerrSet_any {W0 w : World} {S : Nat → Prop} {L : Nat} {s : ByteArray} {t : St} (H : Lx W0 S w L s t) :
    Calls Tryf.prog 25 #[.pointer (some ⟨L, 0, none⟩)] w fun e w' => e = .returned (.bool t.err.isSome) ∧ w = w' := by
  cases he : t.err with
  | none => exact zerrSet_none H he
  | some p => exact zerrSet_some H he
theorem zerrFrom_any {W0 w : World} {S : Nat → Prop} {L : Nat} {s : ByteArray} {t : St} {f o : Int} (H : Lx W0 S w L s t) (he : t.err = some (f, o)) :
    Calls Tryf.prog 27 #[.pointer (some ⟨L, 0, none⟩)] w fun e w' => e = .returned (.int .i64 f) ∧ w = w' := by
  obtain ⟨R, ev, hL, hR, hc, hr, hee, l0, c0, c1, c2, c3, c4, c5, c6, c7, c8, c9, fz⟩ := H.opened
  obtain ⟨E, line, col, msg, snip, hev, hb⟩ : ∃ E line col msg snip, ev = .pointer (some ⟨E, 0, none⟩) ∧ w.heap[E]? = some (.cells #[.int .i64 f, .int .i64 o, .int .i64 line, .int .i64 col, .string msg, .string snip, .nilIface] 69 (0, 0)) := by
    rcases hee with ⟨_, h⟩ | ⟨E, f', o', line, col, msg, snip, h, _, h2, hb⟩
    · rw [he] at h; cases h
    · rw [he] at h2; cases h2; exact ⟨E, line, col, msg, snip, h, hb⟩
  subst hev
  have e0 := cell_of_block hb 0
  have e1 := cell_of_block hb 1
  have HB := Lib.hid hb
  clear hb
  go_enter Tryf.func27, Tryf.ntmps27
  go_wp2_with fail
  go_ret
  exact ⟨rfl, rfl⟩
theorem zerrTo_any {W0 w : World} {S : Nat → Prop} {L : Nat} {s : ByteArray} {t : St} {f o : Int} (H : Lx W0 S w L s t) (he : t.err = some (f, o)) :
    Calls Tryf.prog 28 #[.pointer (some ⟨L, 0, none⟩)] w fun e w' => e = .returned (.int .i64 o) ∧ w = w' := by
  obtain ⟨R, ev, hL, hR, hc, hr, hee, l0, c0, c1, c2, c3, c4, c5, c6, c7, c8, c9, fz⟩ := H.opened
  obtain ⟨E, line, col, msg, snip, hev, hb⟩ : ∃ E line col msg snip, ev = .pointer (some ⟨E, 0, none⟩) ∧ w.heap[E]? = some (.cells #[.int .i64 f, .int .i64 o, .int .i64 line, .int .i64 col, .string msg, .string snip, .nilIface] 69 (0, 0)) := by
    rcases hee with ⟨_, h⟩ | ⟨E, f', o', line, col, msg, snip, h, _, h2, hb⟩
    · rw [he] at h; cases h
    · rw [he] at h2; cases h2; exact ⟨E, line, col, msg, snip, h, hb⟩
  subst hev
  have e0 := cell_of_block hb 0
  have e1 := cell_of_block hb 1
  have HB := Lib.hid hb
  clear hb
  go_enter Tryf.func28, Tryf.ntmps28
  go_wp2_with fail
  go_ret
  exact ⟨rfl, rfl⟩

/-- 'first', 'second': formats without operands. -/
@[go_sem] theorem fx_pf : FmtStop.printed? ⟨#[102, 105, 114, 115, 116]⟩ 0 = some [] := by kernel_rfl
@[go_sem] theorem fx_rf (w : World) : (FmtDoors.printed ⟨#[102, 105, 114, 115, 116]⟩ 0).run Tryf.prog w = .ok [] w := by kernel_rfl

set_option maxHeartbeats 2000000 in
set_option maxRecDepth 100000 in
theorem error_first {F : Stop.Interp} {W0 w : World} {S : Nat → Prop} {L : Nat} {s : ByteArray} {t : St} (hF0 : F.answers W0.tape) (H : Lx W0 S w L s t) (he : t.err = none) :
    Calls Tryf.prog 32 #[.pointer (some ⟨L, 0, none⟩), .string ⟨#[102, 105, 114, 115, 116]⟩, .slice none 0 0] w fun e w' => e = .returned .nilFunc ∧ Done W0 S w L s (error t) w' := by
  have hF := answers_at hF0 H
  have hF' := answers_open hF
  obtain ⟨R, ev, hL, hR, hc, hr, hee, l0, c0, c1, c2, c3, c4, c5, c6, c7, c8, c9, fz⟩ := H.opened
  have hev : ev = .pointer none := by
    rcases hee with ⟨h, _⟩ | ⟨E, f, o, line, col, msg, snip, _, _, h, _⟩
    · exact h
    · rw [he] at h; cases h
  subst hev
  obtain ⟨p1, p2, p3, p4⟩ := H.poss
  cases heo : t.eof with
  | true =>
    rw [heo] at c8
    rw [error_eof he heo]
    go_enter Tryf.func32, Tryf.ntmps32
    go_wp2_with fail
    apply rows_value fx_nextTurns
    case hr => go_simp; exact ⟨rfl, rfl⟩
    case h =>
      go_wp2_with fail
      go_ret
      exact ⟨rfl, Done.err H hL hR hr hc.out (OnlyL.cast ((((OnlyL.refl hc.out).setCell 3 _).alloc _).drew) (by simp [cellsL])) (Nat.le_refl _) (heap_alloc_at (by simp [World.setCell]))⟩
  | false =>
    rw [heo] at c8
    rw [error_not he heo]
    go_enter Tryf.func32, Tryf.ntmps32
    go_wp2_with fail
    apply rows_value fx_nextTurns
    case hr => go_simp; exact ⟨rfl, rfl⟩
    case h =>
      go_wp2_with fail
      go_ret
      exact ⟨rfl, Done.err H hL hR hr hc.out (OnlyL.cast ((((OnlyL.refl hc.out).setCell 3 _).alloc _).drew) (by simp [cellsL])) (Nat.le_refl _) (heap_alloc_at (by simp [World.setCell]))⟩

set_option maxRecDepth 100000 in
theorem zerr_first {F : Stop.Interp} {W0 w : World} {S : Nat → Prop} {L : Nat} {s : ByteArray} {t : St} (hF : F.answers W0.tape) (H : Lx W0 S w L s t) (he : t.err = none) :
    Calls Tryf.prog 19 #[.pointer (some ⟨L, 0, none⟩), .string ⟨#[102, 105, 114, 115, 116]⟩] w fun e w' => e = .returned (.bool true) ∧ Done W0 S w L s (error t) w' := by
  have qn : ∀ wr, Sem.run Tryf.prog (binOp BinOp.eql 52 Value.nilFunc Value.nilFunc) wr = .ok (.bool true) wr := fun _ => by kernel_rfl
  go_enter Tryf.func19, Tryf.ntmps19
  go_wp2_with fail
  refine (error_first hF H he).mono ?_
  rintro e w1 ⟨rfl, hd⟩
  go_wp2_with fail
  go_ret
  exact ⟨rfl, hd⟩
set_option maxRecDepth 100000 in
theorem zerr_esc {F : Stop.Interp} {W0 w : World} {S : Nat → Prop} {L : Nat} {s : ByteArray} {t : St} (hF : F.answers W0.tape) (H : Lx W0 S w L s t) :
    Calls Tryf.prog 19 #[.pointer (some ⟨L, 0, none⟩), .string ⟨#[105, 110, 118, 97, 108, 105, 100, 32, 99, 104, 97, 114, 32, 101, 115, 99, 97, 112, 101]⟩] w fun e w' => e = .returned (.bool true) ∧ Done W0 S w L s (error t) w' := by
  have qn : ∀ wr, Sem.run Tryf.prog (binOp BinOp.eql 52 Value.nilFunc Value.nilFunc) wr = .ok (.bool true) wr := fun _ => by kernel_rfl
  go_enter Tryf.func19, Tryf.ntmps19
  go_wp2_with fail
  refine (error_m0 hF H).mono ?_
  rintro e w1 ⟨rfl, hd⟩
  go_wp2_with fail
  go_ret
  exact ⟨rfl, hd⟩
set_option maxRecDepth 100000 in
theorem zerr_again {W0 w : World} {S : Nat → Prop} {L : Nat} {s : ByteArray} {t : St} {p : Int × Int} (H : Lx W0 S w L s t) (he : t.err = some p) (f : ByteArray) :
    Calls Tryf.prog 19 #[.pointer (some ⟨L, 0, none⟩), .string f] w fun e w' => e = .returned (.bool true) ∧ w = w' := by
  have qn : ∀ wr, Sem.run Tryf.prog (binOp BinOp.eql 52 Value.nilFunc Value.nilFunc) wr = .ok (.bool true) wr := fun _ => by kernel_rfl
  go_enter Tryf.func19, Tryf.ntmps19
  go_wp2_with fail
  refine (error_again H he _ _).mono ?_
  rintro e w1 ⟨rfl, rfl⟩
  go_wp2_with fail
  go_ret
  exact ⟨rfl, rfl⟩

end Go.Proofs.YtlbmojpmfgihlaaFmt
