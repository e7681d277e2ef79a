/-
  Walk: error (its message is what fmt answers; the laws do not ask which).
-/
import Derived.Test.YtdpdgppjeekcmaaFmtRing
import Derived.WalkSpells
import Derived.Stop.AnyFormat
import Derived.Stop.CallBack
import Derived.Stop.IfaceNil
import GoSem.ClaimData
namespace Go.Proofs.YtdpdgppjeekcmaaFmt
open Go Go.Lib Go.RowKit Go.Proofs
open Go.Extern.Stop Go.Stop Go.Extern

-- the closed facts for fmt.Sprintf (a stop that calls its operands' methods), by the pattern of the kit's own worked texts
@[go_sem] theorem fx_call (args : Array Value) (w : World) : (callFunc 77 args).run Tryf.prog w = (FmtCalls.sprintf #[9, 102] #[9] args).run Tryf.prog w :=
  run_callFunc_next Tryf.func77 (by kernel_rfl) (by kernel_rfl) (by kernel_rfl) args w
@[go_sem] theorem fx_guard (name : String) (w : World) : (FmtStop.guard name).run Tryf.prog w = .ok () w := by kernel_rfl
theorem fx_nextTurns : Extern.next FmtCalls.turnsRow = some (FmtCalls.begun #[] #[]) := by kernel_rfl
theorem fx_nextReturned : Extern.next FmtCalls.returnedRow = some (FmtCalls.returned #[] #[]) := by kernel_rfl
@[go_sem] theorem fx_p0 : FmtStop.printed? ⟨#[105, 110, 118, 97, 108, 105, 100, 32, 99, 104, 97, 114, 32, 101, 115, 99, 97, 112, 101]⟩ 0 = some [] := by kernel_rfl
@[go_sem] theorem fx_r0 (w : World) : (FmtDoors.printed ⟨#[105, 110, 118, 97, 108, 105, 100, 32, 99, 104, 97, 114, 32, 101, 115, 99, 97, 112, 101]⟩ 0).run Tryf.prog w = .ok [] w := by kernel_rfl
@[go_sem] theorem fx_p1 : FmtStop.printed? ⟨#[108, 105, 116, 101, 114, 97, 108, 32, 110, 111, 116, 32, 116, 101, 114, 109, 105, 110, 97, 116, 101, 100]⟩ 0 = some [] := by kernel_rfl
@[go_sem] theorem fx_r1 (w : World) : (FmtDoors.printed ⟨#[108, 105, 116, 101, 114, 97, 108, 32, 110, 111, 116, 32, 116, 101, 114, 109, 105, 110, 97, 116, 101, 100]⟩ 0).run Tryf.prog w = .ok [] w := by kernel_rfl
@[go_sem] theorem fx_p2 : FmtStop.printed? ⟨#[117, 110, 99, 108, 111, 115, 101, 100, 32, 99, 111, 109, 109, 101, 110, 116]⟩ 0 = some [] := by kernel_rfl
@[go_sem] theorem fx_r2 (w : World) : (FmtDoors.printed ⟨#[117, 110, 99, 108, 111, 115, 101, 100, 32, 99, 111, 109, 109, 101, 110, 116]⟩ 0).run Tryf.prog w = .ok [] w := by kernel_rfl

theorem answers_at {F : Stop.Interp} {W0 w : World} {S : Nat → Prop} {L : Nat} {s : ByteArray} {t : St} (hF : F.answers W0.tape) (H : Lx W0 S w L s t) : F.answers w.tape := by
  rw [H.low.tape]; exact hF

set_option maxRecDepth 100000 in
/-- error where one stands: nothing. -/
theorem error_again {W0 w : World} {S : Nat → Prop} {L : Nat} {s : ByteArray} {t : St} {p : Int × Int} (H : Lx W0 S w L s t) (he : t.err = some p) (f args : Value) :
    Calls Tryf.prog 44 #[.pointer (some ⟨L, 0, none⟩), f, args] w fun e w' => e = .returned .nilFunc ∧ w = w' := by
  obtain ⟨R, ev, hL, hR, hc, hr, hee, l0, c0, c1, c2, c3, c4, c5, c6, c7, c8, c9, fz⟩ := H.opened
  obtain ⟨E, hev⟩ : ∃ E, ev = .pointer (some ⟨E, 0, none⟩) := by
    rcases hee with ⟨_, h⟩ | ⟨E, f, o, line, col, msg, snip, h, _⟩
    · rw [he] at h; cases h
    · exact ⟨E, h⟩
  subst hev
  go_enter Tryf.func44, Tryf.ntmps44
  go_wp2_with fail
  go_ret
  exact ⟨rfl, rfl⟩

/-- The lexer with its error made. -/
theorem Done.err {W0 w w' : World} {S : Nat → Prop} {L R E : Nat} {s : ByteArray} {t : St} {ev : Value} {f o line col : Int} {msg snip : ByteArray} (H : Lx W0 S w L s t) (hL : S L) (hR : S R) (hr : RingW S w R t.toks)
    (hlo : w.heap[L]? = some (.cells (cellsL s R ev t) 61 (0, 0))) (ho : OnlyL L 61 (cellsL s R (.pointer (some ⟨E, 0, none⟩)) t) w w') (hE : w.heap.size ≤ E)
    (hb : w'.heap[E]? = some (.cells #[.int .i64 f, .int .i64 o, .int .i64 line, .int .i64 col, .string msg, .string snip, .nilIface] 105 (0, 0))) : Done W0 S w L s { t with err := some (f, o) } w' := by
  have hf : Fr S w w' := ⟨ho.os, ho.tape, ho.output, ho.size, fun k hk hs => ho.others k hk (fun e => hs (e ▸ hL))⟩
  have hRL := hr.ne hlo
  refine ⟨fun k => S k ∨ k = E, fun k hk => hk.elim .inl (fun e => .inr (e ▸ hE)), ⟨H.tabs, H.low.trans (hf.below H.old H.low.size), fun k hk => hk.elim (H.old k) (fun e => by rw [e]; exact Nat.le_trans H.low.size hE), fun k hk => hk.elim (fun h => Nat.lt_of_lt_of_le (H.lt k h) ho.size) (fun e => by rw [e]; exact (Array.getElem?_eq_some_iff.1 hb).1), H.small, ⟨R, _, .inl hL, .inl hR, ho.own, ?_, .inr ⟨E, f, o, line, col, msg, snip, rfl, .inr rfl, rfl, hb⟩⟩, H.poss⟩, hf⟩
  obtain ⟨dv, back, h0, h1⟩ := hr
  refine ⟨dv, back, (ho.others R (H.lt R hR) hRL).trans h0, ?_⟩
  rcases h1 with h1 | ⟨D, c, e, hs, hd, r⟩
  · exact .inl h1
  · refine .inr ⟨D, c, e, .inl hs, (ho.others D (H.lt D hs) ?_).trans hd, r⟩
    intro e
    rw [e, hlo] at hd
    exact kinds_ne (by decide) hd

theorem error_eof {t : St} (he : t.err = none) (h : t.eof = true) : error t = { t with err := some ((t.er : Int), (t.er : Int) + 1) } := by
  unfold error
  rw [he, h]
  simp
theorem error_not {t : St} (he : t.err = none) (h : t.eof = false) : error t = { t with err := some ((t.er : Int) - 1, (t.er : Int)) } := by
  unfold error
  rw [he, h]
  simp

set_option maxHeartbeats 2000000 in
set_option maxRecDepth 100000 in
theorem error_m0 {F : Stop.Interp} {W0 w : World} {S : Nat → Prop} {L : Nat} {s : ByteArray} {t : St} (hF0 : F.answers W0.tape) (H : Lx W0 S w L s t) :
    Calls Tryf.prog 44 #[.pointer (some ⟨L, 0, none⟩), .string ⟨#[105, 110, 118, 97, 108, 105, 100, 32, 99, 104, 97, 114, 32, 101, 115, 99, 97, 112, 101]⟩, .slice none 0 0] w fun e w' => e = .returned .nilFunc ∧ Done W0 S w L s (error t) w' := by
  cases he : t.err with
  | some p =>
    refine (error_again H he _ _).mono ?_
    rintro e w' ⟨rfl, rfl⟩
    refine ⟨rfl, ?_⟩
    unfold error
    rw [he]
    exact Done.refl H
  | none =>
    have hF := answers_at hF0 H
    have hF' := answers_open hF
    obtain ⟨R, ev, hL, hR, hc, hr, hee, l0, c0, c1, c2, c3, c4, c5, c6, c7, c8, c9, fz⟩ := H.opened
    have hev : ev = .pointer none := by
      rcases hee with ⟨h, _⟩ | ⟨E, f, o, line, col, msg, snip, _, _, h, _⟩
      · exact h
      · rw [he] at h; cases h
    subst hev
    obtain ⟨p1, p2, p3, p4⟩ := H.poss
    cases heo : t.eof with
    | true =>
      rw [heo] at c8
      rw [error_eof he heo]
      go_enter Tryf.func44, Tryf.ntmps44
      go_wp2_with fail
      apply rows_value fx_nextTurns
      case hr => go_simp; exact ⟨rfl, rfl⟩
      case h =>
        go_wp2_with fail
        go_ret
        exact ⟨rfl, Done.err H hL hR hr hc.out (OnlyL.cast ((((OnlyL.refl hc.out).setCell 3 _).alloc _).drew) (by simp [cellsL])) (Nat.le_refl _) (heap_alloc_at (by simp [World.setCell]))⟩
    | false =>
      rw [heo] at c8
      rw [error_not he heo]
      go_enter Tryf.func44, Tryf.ntmps44
      go_wp2_with fail
      apply rows_value fx_nextTurns
      case hr => go_simp; exact ⟨rfl, rfl⟩
      case h =>
        go_wp2_with fail
        go_ret
        exact ⟨rfl, Done.err H hL hR hr hc.out (OnlyL.cast ((((OnlyL.refl hc.out).setCell 3 _).alloc _).drew) (by simp [cellsL])) (Nat.le_refl _) (heap_alloc_at (by simp [World.setCell]))⟩

set_option maxHeartbeats 2000000 in
set_option maxRecDepth 100000 in
theorem error_m1 {F : Stop.Interp} {W0 w : World} {S : Nat → Prop} {L : Nat} {s : ByteArray} {t : St} (hF0 : F.answers W0.tape) (H : Lx W0 S w L s t) :
    Calls Tryf.prog 44 #[.pointer (some ⟨L, 0, none⟩), .string ⟨#[108, 105, 116, 101, 114, 97, 108, 32, 110, 111, 116, 32, 116, 101, 114, 109, 105, 110, 97, 116, 101, 100]⟩, .slice none 0 0] w fun e w' => e = .returned .nilFunc ∧ Done W0 S w L s (error t) w' := by
  cases he : t.err with
  | some p =>
    refine (error_again H he _ _).mono ?_
    rintro e w' ⟨rfl, rfl⟩
    refine ⟨rfl, ?_⟩
    unfold error
    rw [he]
    exact Done.refl H
  | none =>
    have hF := answers_at hF0 H
    have hF' := answers_open hF
    obtain ⟨R, ev, hL, hR, hc, hr, hee, l0, c0, c1, c2, c3, c4, c5, c6, c7, c8, c9, fz⟩ := H.opened
    have hev : ev = .pointer none := by
      rcases hee with ⟨h, _⟩ | ⟨E, f, o, line, col, msg, snip, _, _, h, _⟩
      · exact h
      · rw [he] at h; cases h
    subst hev
    obtain ⟨p1, p2, p3, p4⟩ := H.poss
    cases heo : t.eof with
    | true =>
      rw [heo] at c8
      rw [error_eof he heo]
      go_enter Tryf.func44, Tryf.ntmps44
      go_wp2_with fail
      apply rows_value fx_nextTurns
      case hr => go_simp; exact ⟨rfl, rfl⟩
      case h =>
        go_wp2_with fail
        go_ret
        exact ⟨rfl, Done.err H hL hR hr hc.out (OnlyL.cast ((((OnlyL.refl hc.out).setCell 3 _).alloc _).drew) (by simp [cellsL])) (Nat.le_refl _) (heap_alloc_at (by simp [World.setCell]))⟩
    | false =>
      rw [heo] at c8
      rw [error_not he heo]
      go_enter Tryf.func44, Tryf.ntmps44
      go_wp2_with fail
      apply rows_value fx_nextTurns
      case hr => go_simp; exact ⟨rfl, rfl⟩
      case h =>
        go_wp2_with fail
        go_ret
        exact ⟨rfl, Done.err H hL hR hr hc.out (OnlyL.cast ((((OnlyL.refl hc.out).setCell 3 _).alloc _).drew) (by simp [cellsL])) (Nat.le_refl _) (heap_alloc_at (by simp [World.setCell]))⟩

set_option maxHeartbeats 2000000 in
set_option maxRecDepth 100000 in
theorem error_m2 {F : Stop.Interp} {W0 w : World} {S : Nat → Prop} {L : Nat} {s : ByteArray} {t : St} (hF0 : F.answers W0.tape) (H : Lx W0 S w L s t) :
    Calls Tryf.prog 44 #[.pointer (some ⟨L, 0, none⟩), .string ⟨#[117, 110, 99, 108, 111, 115, 101, 100, 32, 99, 111, 109, 109, 101, 110, 116]⟩, .slice none 0 0] w fun e w' => e = .returned .nilFunc ∧ Done W0 S w L s (error t) w' := by
  cases he : t.err with
  | some p =>
    refine (error_again H he _ _).mono ?_
    rintro e w' ⟨rfl, rfl⟩
    refine ⟨rfl, ?_⟩
    unfold error
    rw [he]
    exact Done.refl H
  | none =>
    have hF := answers_at hF0 H
    have hF' := answers_open hF
    obtain ⟨R, ev, hL, hR, hc, hr, hee, l0, c0, c1, c2, c3, c4, c5, c6, c7, c8, c9, fz⟩ := H.opened
    have hev : ev = .pointer none := by
      rcases hee with ⟨h, _⟩ | ⟨E, f, o, line, col, msg, snip, _, _, h, _⟩
      · exact h
      · rw [he] at h; cases h
    subst hev
    obtain ⟨p1, p2, p3, p4⟩ := H.poss
    cases heo : t.eof with
    | true =>
      rw [heo] at c8
      rw [error_eof he heo]
      go_enter Tryf.func44, Tryf.ntmps44
      go_wp2_with fail
      apply rows_value fx_nextTurns
      case hr => go_simp; exact ⟨rfl, rfl⟩
      case h =>
        go_wp2_with fail
        go_ret
        exact ⟨rfl, Done.err H hL hR hr hc.out (OnlyL.cast ((((OnlyL.refl hc.out).setCell 3 _).alloc _).drew) (by simp [cellsL])) (Nat.le_refl _) (heap_alloc_at (by simp [World.setCell]))⟩
    | false =>
      rw [heo] at c8
      rw [error_not he heo]
      go_enter Tryf.func44, Tryf.ntmps44
      go_wp2_with fail
      apply rows_value fx_nextTurns
      case hr => go_simp; exact ⟨rfl, rfl⟩
      case h =>
        go_wp2_with fail
        go_ret
        exact ⟨rfl, Done.err H hL hR hr hc.out (OnlyL.cast ((((OnlyL.refl hc.out).setCell 3 _).alloc _).drew) (by simp [cellsL])) (Nat.le_refl _) (heap_alloc_at (by simp [World.setCell]))⟩

end Go.Proofs.YtdpdgppjeekcmaaFmt
