/-
  Walk: error where its message has one operand (a text, a rune).
-/
import Derived.Test.YtdpdgppjeekcmaaFmtErr
namespace Go.Proofs.YtdpdgppjeekcmaaFmt
open Go Go.Lib Go.RowKit Go.Proofs
open Go.Extern.Stop Go.Stop Go.Extern

@[go_sem] theorem fx_pq : FmtStop.printed? ⟨#[98, 97, 100, 32, 110, 117, 109, 98, 101, 114, 32, 115, 121, 110, 116, 97, 120, 58, 32, 37, 113]⟩ 1 = some [(0, 113, false)] := by kernel_rfl
@[go_sem] theorem fx_rq (w : World) : (FmtDoors.printed ⟨#[98, 97, 100, 32, 110, 117, 109, 98, 101, 114, 32, 115, 121, 110, 116, 97, 120, 58, 32, 37, 113]⟩ 1).run Tryf.prog w = .ok [(0, 113, false)] w := by kernel_rfl
@[go_sem] theorem fx_pU : FmtStop.printed? ⟨#[117, 110, 114, 101, 99, 111, 103, 110, 105, 122, 101, 100, 32, 99, 104, 97, 114, 97, 99, 116, 101, 114, 58, 32, 37, 35, 85]⟩ 1 = some [(0, 85, true)] := by kernel_rfl
@[go_sem] theorem fx_rU (w : World) : (FmtDoors.printed ⟨#[117, 110, 114, 101, 99, 111, 103, 110, 105, 122, 101, 100, 32, 99, 104, 97, 114, 97, 99, 116, 101, 114, 58, 32, 37, 35, 85]⟩ 1).run Tryf.prog w = .ok [(0, 85, true)] w := by kernel_rfl
@[go_sem] theorem fx_actq (name : String) (x : Value) (w : World) : (FmtCalls.act name false 113 false (.iface 9 x)).run Tryf.prog w = .ok (.closed false) w := by kernel_rfl
def fx_shq : List UInt8 := [12, 6, 0, 0, 0, 0, 0, 0, 0, 115, 116, 114, 105, 110, 103]
@[go_sem] theorem fx_opq (name : String) (x : ByteArray) (w : World) : (FmtStop.operand name false 113 false (.iface 9 (.string x))).run Tryf.prog w = .ok (fx_shq, FmtStop.pack x.data.toList) w := by kernel_rfl
@[go_sem] theorem fx_actU (name : String) (x : Value) (w : World) : (FmtCalls.act name false 85 true (.iface 21 x)).run Tryf.prog w = .ok (.closed false) w := by kernel_rfl
def fx_shU : List UInt8 := [4, 5, 0, 0, 0, 0, 0, 0, 0, 105, 110, 116, 51, 50]
@[go_sem] theorem fx_opU (name : String) (x : Int) (w : World) : (FmtStop.operand name false 85 true (.iface 21 (.int .i32 x))).run Tryf.prog w = .ok (fx_shU, Go.Extern.Stop.digits 8 (x % 2 ^ 64).toNat) w := by kernel_rfl

set_option maxHeartbeats 2000000 in
set_option maxRecDepth 100000 in
theorem error_q {F : Stop.Interp} {W0 w : World} {S : Nat → Prop} {L B : Nat} {s : ByteArray} {t : St} (hF0 : F.answers W0.tape) (H : Lx W0 S w L s t) (x : ByteArray) (hB : w.cell? ⟨B, 0, none⟩ = some (.iface 9 (.string x))) :
    Calls Tryf.prog 44 #[.pointer (some ⟨L, 0, none⟩), .string ⟨#[98, 97, 100, 32, 110, 117, 109, 98, 101, 114, 32, 115, 121, 110, 116, 97, 120, 58, 32, 37, 113]⟩, .slice (some ⟨B, 0, none⟩) 1 1] w fun e w' => e = .returned .nilFunc ∧ Done W0 S w L s (error t) w' := by
  cases he : t.err with
  | some p =>
    refine (error_again H he _ _).mono ?_
    rintro e w' ⟨rfl, rfl⟩
    refine ⟨rfl, ?_⟩
    unfold error
    rw [he]
    exact Done.refl H
  | none =>
    have hF := answers_at hF0 H
    have hF' := answers_open hF
    obtain ⟨R, ev, hL, hR, hc, hr, hee, l0, c0, c1, c2, c3, c4, c5, c6, c7, c8, c9, fz⟩ := H.opened
    have hev : ev = .pointer none := by
      rcases hee with ⟨h, _⟩ | ⟨E, f, o, line, col, msg, snip, _, _, h, _⟩
      · exact h
      · rw [he] at h; cases h
    subst hev
    obtain ⟨p1, p2, p3, p4⟩ := H.poss
    cases heo : t.eof with
    | true =>
      rw [heo] at c8
      rw [error_eof he heo]
      go_enter Tryf.func44, Tryf.ntmps44
      go_wp2_with fail
      apply rows_value fx_nextTurns
      case hr => go_simp; exact ⟨rfl, rfl⟩
      case h =>
        go_wp2_with fail
        go_ret
        exact ⟨rfl, Done.err H hL hR hr hc.out (OnlyL.cast ((((OnlyL.refl hc.out).setCell 3 _).alloc _).drew) (by simp [cellsL])) (Nat.le_refl _) (heap_alloc_at (by simp [World.setCell]))⟩
    | false =>
      rw [heo] at c8
      rw [error_not he heo]
      go_enter Tryf.func44, Tryf.ntmps44
      go_wp2_with fail
      apply rows_value fx_nextTurns
      case hr => go_simp; exact ⟨rfl, rfl⟩
      case h =>
        go_wp2_with fail
        go_ret
        exact ⟨rfl, Done.err H hL hR hr hc.out (OnlyL.cast ((((OnlyL.refl hc.out).setCell 3 _).alloc _).drew) (by simp [cellsL])) (Nat.le_refl _) (heap_alloc_at (by simp [World.setCell]))⟩

set_option maxHeartbeats 2000000 in
set_option maxRecDepth 100000 in
theorem error_U {F : Stop.Interp} {W0 w : World} {S : Nat → Prop} {L B : Nat} {s : ByteArray} {t : St} (hF0 : F.answers W0.tape) (H : Lx W0 S w L s t) (x : Int) (hB : w.cell? ⟨B, 0, none⟩ = some (.iface 21 (.int .i32 x))) :
    Calls Tryf.prog 44 #[.pointer (some ⟨L, 0, none⟩), .string ⟨#[117, 110, 114, 101, 99, 111, 103, 110, 105, 122, 101, 100, 32, 99, 104, 97, 114, 97, 99, 116, 101, 114, 58, 32, 37, 35, 85]⟩, .slice (some ⟨B, 0, none⟩) 1 1] w fun e w' => e = .returned .nilFunc ∧ Done W0 S w L s (error t) w' := by
  cases he : t.err with
  | some p =>
    refine (error_again H he _ _).mono ?_
    rintro e w' ⟨rfl, rfl⟩
    refine ⟨rfl, ?_⟩
    unfold error
    rw [he]
    exact Done.refl H
  | none =>
    have hF := answers_at hF0 H
    have hF' := answers_open hF
    obtain ⟨R, ev, hL, hR, hc, hr, hee, l0, c0, c1, c2, c3, c4, c5, c6, c7, c8, c9, fz⟩ := H.opened
    have hev : ev = .pointer none := by
      rcases hee with ⟨h, _⟩ | ⟨E, f, o, line, col, msg, snip, _, _, h, _⟩
      · exact h
      · rw [he] at h; cases h
    subst hev
    obtain ⟨p1, p2, p3, p4⟩ := H.poss
    cases heo : t.eof with
    | true =>
      rw [heo] at c8
      rw [error_eof he heo]
      go_enter Tryf.func44, Tryf.ntmps44
      go_wp2_with fail
      apply rows_value fx_nextTurns
      case hr => go_simp; exact ⟨rfl, rfl⟩
      case h =>
        go_wp2_with fail
        go_ret
        exact ⟨rfl, Done.err H hL hR hr hc.out (OnlyL.cast ((((OnlyL.refl hc.out).setCell 3 _).alloc _).drew) (by simp [cellsL])) (Nat.le_refl _) (heap_alloc_at (by simp [World.setCell]))⟩
    | false =>
      rw [heo] at c8
      rw [error_not he heo]
      go_enter Tryf.func44, Tryf.ntmps44
      go_wp2_with fail
      apply rows_value fx_nextTurns
      case hr => go_simp; exact ⟨rfl, rfl⟩
      case h =>
        go_wp2_with fail
        go_ret
        exact ⟨rfl, Done.err H hL hR hr hc.out (OnlyL.cast ((((OnlyL.refl hc.out).setCell 3 _).alloc _).drew) (by simp [cellsL])) (Nat.le_refl _) (heap_alloc_at (by simp [World.setCell]))⟩

end Go.Proofs.YtdpdgppjeekcmaaFmt
