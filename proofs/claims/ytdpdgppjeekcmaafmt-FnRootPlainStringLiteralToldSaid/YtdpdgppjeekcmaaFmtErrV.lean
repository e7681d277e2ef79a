/-
  Walk: error where its message has an error as operand ("%v", err).
-/
import Derived.Test.YtdpdgppjeekcmaaFmtErr1
import Derived.Test.YtdpdgppjeekcmaaFmtUnA
namespace Go.Proofs.YtdpdgppjeekcmaaFmt
open Go Go.Lib Go.RowKit Go.Proofs
open Go.Extern.Stop Go.Stop Go.Extern

@[go_sem] theorem fx_pv : FmtStop.printed? ⟨#[37, 118]⟩ 1 = some [(0, 118, false)] := by kernel_rfl
@[go_sem] theorem fx_rv (w : World) : (FmtDoors.printed ⟨#[37, 118]⟩ 1).run Tryf.prog w = .ok [(0, 118, false)] w := by kernel_rfl
@[go_sem] theorem fx_actv (name : String) (x : Value) (w : World) : (FmtCalls.act name false 118 false (.iface 144 x)).run Tryf.prog w = .ok (.closed false) w := by kernel_rfl
def fx_plainv : List UInt8 := 14 :: FmtStop.pack "*errors.errorString".toUTF8.data.toList
theorem fx_opv (name : String) (a : Addr) (s : ByteArray) (w : World) (hc : w.cell? a = some (.string s)) :
    (FmtStop.operand name false 118 false (.iface 144 (.pointer (some a)))).run Tryf.prog w = .ok (fx_plainv, s.data.toList) w := by
  have h1 : (typeStr 144).run Tryf.prog w = .ok "*errors.errorString" w := by kernel_rfl
  have d2 : Tryf.t144.desc = .pointer 146 := rfl
  have d3 : Tryf.t146.desc = .named "errors.errorString" 145 := rfl
  simp [FmtStop.operand, h1, d2, d3, run_load, hc, fx_plainv]

set_option maxHeartbeats 2000000 in
set_option maxRecDepth 100000 in
theorem error_v {F : Stop.Interp} {W0 w : World} {S : Nat → Prop} {L B : Nat} {s : ByteArray} {t : St} (hF0 : F.answers W0.tape) (H : Lx W0 S w L s t) (a : Addr) (m : ByteArray) (ha : w.cell? a = some (.string m)) (hB : w.cell? ⟨B, 0, none⟩ = some (.iface 144 (.pointer (some a)))) :
    Calls Tryf.prog 44 #[.pointer (some ⟨L, 0, none⟩), .string ⟨#[37, 118]⟩, .slice (some ⟨B, 0, none⟩) 1 1] w fun e w' => e = .returned .nilFunc ∧ Done W0 S w L s (error t) w' := by
  cases he : t.err with
  | some p =>
    refine (error_again H he _ _).mono ?_
    rintro e w' ⟨rfl, rfl⟩
    refine ⟨rfl, ?_⟩
    unfold error
    rw [he]
    exact Done.refl H
  | none =>
    have hF := answers_at hF0 H
    have hF' := answers_open hF
    obtain ⟨R, ev, hL, hR, hc, hr, hee, l0, c0, c1, c2, c3, c4, c5, c6, c7, c8, c9, fz⟩ := H.opened
    have hev : ev = .pointer none := by
      rcases hee with ⟨h, _⟩ | ⟨E, f, o, line, col, msg, snip, _, _, h, _⟩
      · exact h
      · rw [he] at h; cases h
    subst hev
    obtain ⟨p1, p2, p3, p4⟩ := H.poss
    have hop := fun (name : String) => fx_opv name a m w ha
    cases heo : t.eof with
    | true =>
      rw [heo] at c8
      rw [error_eof he heo]
      go_enter Tryf.func44, Tryf.ntmps44
      go_wp2_with fail
      apply rows_value fx_nextTurns
      case hr => go_simp; exact ⟨rfl, rfl⟩
      case h =>
        go_wp2_with fail
        go_ret
        exact ⟨rfl, Done.err H hL hR hr hc.out (OnlyL.cast ((((OnlyL.refl hc.out).setCell 3 _).alloc _).drew) (by simp [cellsL])) (Nat.le_refl _) (heap_alloc_at (by simp [World.setCell]))⟩
    | false =>
      rw [heo] at c8
      rw [error_not he heo]
      go_enter Tryf.func44, Tryf.ntmps44
      go_wp2_with fail
      apply rows_value fx_nextTurns
      case hr => go_simp; exact ⟨rfl, rfl⟩
      case h =>
        go_wp2_with fail
        go_ret
        exact ⟨rfl, Done.err H hL hR hr hc.out (OnlyL.cast ((((OnlyL.refl hc.out).setCell 3 _).alloc _).drew) (by simp [cellsL])) (Nat.le_refl _) (heap_alloc_at (by simp [World.setCell]))⟩

end Go.Proofs.YtdpdgppjeekcmaaFmt
