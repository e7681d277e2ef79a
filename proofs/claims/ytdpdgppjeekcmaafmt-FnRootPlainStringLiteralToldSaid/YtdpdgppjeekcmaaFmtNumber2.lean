/-
  Walk: the state number.
-/
import Derived.Test.YtdpdgppjeekcmaaFmtNumber
import Derived.Test.YtdpdgppjeekcmaaFmtEmitA
import Derived.Test.YtdpdgppjeekcmaaFmtErr1
import Derived.Deep.RegionHeld3
namespace Go.Proofs.YtdpdgppjeekcmaaFmt
open Go Go.Lib Go.RowKit Go.Proofs
open Go.Extern.Stop Go.Stop Go.Extern

set_option maxHeartbeats 2000000 in
set_option maxRecDepth 100000 in
theorem number_any {F : Stop.Interp} {W0 w : World} {S : Nat → Prop} {L : Nat} {s : ByteArray} {t : St} (hF : F.answers W0.tape) (H : Lx W0 S w L s t) (hle : t.eb ≤ s.size) (hn : t.toks.length ≤ 9) :
    Calls Tryf.prog 29 #[.pointer (some ⟨L, 0, none⟩)] w fun e w' => e = .returned (qVal (number s t).1) ∧ Done W0 S w L s (number s t).2 w' := by
  have A0 := Acc.refl S w
  have hr := reads_scanNumber s t
  obtain ⟨t1, ht1⟩ : ∃ x, (scanNumber s t).2 = x := ⟨_, rfl⟩
  cases hb : (scanNumber s t).1 with
  | true =>
    have hnum : number s t = (some .root, emit kNumber s t1) := by unfold number; rw [hb, ht1]; rfl
    rw [ht1] at hr
    have HB := Lib.hid hb
    have T1 := Lib.hid ht1
    have HN := Lib.hid hnum
    clear hb ht1 hnum
    go_enter Tryf.func29, Tryf.ntmps29
    go_wp2_with fail
    refine (scanNumber_any H).mono ?_
    rintro e w1 ⟨rfl, S1, hS1, H1, hf1⟩
    have A1 := Acc.step A0 hS1 hf1
    rw [HB.out]
    rw [T1.out] at H1
    go_wp2_with fail
    refine (emit_any H1 (hr.le hle) (by rw [hr.toks]; exact hn) kNumber).mono ?_
    rintro e w2 ⟨rfl, S2, hS2, H2, hf2⟩
    have A2 := Acc.step A1 hS2 hf2
    go_wp2_with fail
    go_ret
    rw [HN.out]
    exact ⟨rfl, A2.done H2⟩
  | false =>
    have hnum : number s t = (none, error t1) := by unfold number; rw [hb, ht1]; rfl
    rw [ht1] at hr
    have HB := Lib.hid hb
    have T1 := Lib.hid ht1
    have HN := Lib.hid hnum
    clear hb ht1 hnum
    go_enter Tryf.func29, Tryf.ntmps29
    go_wp2_with fail
    refine (scanNumber_any H).mono ?_
    rintro e w1 ⟨rfl, S1, hS1, H1, hf1⟩
    have A1 := Acc.step A0 hS1 hf1
    rw [HB.out]
    rw [T1.out] at H1
    go_wp2_with fail
    refine (word_any H1 (hr.le hle)).mono ?_
    rintro e w' ⟨rfl, xs, d, rfl⟩
    have H2 := H1.keep (grow_below w1 xs d)
    have A2 := Acc.below A1 (grow_below w1 xs d)
    obtain ⟨w2, hw2⟩ : ∃ x, x = grow w1 xs d := ⟨_, rfl⟩
    rw [← hw2] at H2 A2 ⊢
    clear hw2
    go_wp2_with fail
    refine (error_q hF (H2.keep (by repeat (first | exact Below.refl _ _ | apply below_drew | apply below_drewN | apply below_alloc | apply below_grow))) (word s t1) (by go_simp)).mono ?_
    rintro e w3 ⟨rfl, S3, hS3, H3, hf3⟩
    have A3 := Acc.step (Acc.below A2 (by repeat (first | exact Below.refl _ _ | apply below_drew | apply below_drewN | apply below_alloc | apply below_grow))) hS3 hf3
    go_wp2_with fail
    go_ret
    rw [HN.out]
    exact ⟨rfl, A3.done H3⟩

end Go.Proofs.YtdpdgppjeekcmaaFmt
