/-
  Walks: the shim of scanString of n003_69.
-/
import Derived.Test.YtdpdgppjeekcmaaFmtZ69
import Derived.Test.YtdpdgppjeekcmaaFmtScan
namespace Go.Proofs.YtdpdgppjeekcmaaFmt
open Go Go.Lib Go.RowKit Go.Proofs
open Go.Extern.Stop Go.Stop Go.Extern

set_option maxHeartbeats 2000000 in
set_option maxRecDepth 100000 in
theorem zzScanString_any {F : Stop.Interp} {W0 w : World} (hF : F.answers W0.tape) (hT : Tabs W0) (hlow : Below W0.heap.size W0 w) (s : ByteArray) (hs : s.size ≤ 1099511627776) (quote : Int) (hq : quote ≠ -1) (n : Nat) (t1 : St) (hsc : scanString s quote hq (next s start) = (n, t1)) :
    Calls Tryf.prog 25 #[.string s, .int .i32 quote] w fun e w' => e = .returned (.tuple #[.int .i64 n, .bool (decide (t1.err = none)), .int .i64 t1.eb, .int .i64 t1.er]) ∧ Below W0.heap.size W0 w' := by
  have HSC := Lib.hid hsc
  clear hsc
  go_enter Tryf.func25, Tryf.ntmps25
  go_wp2_with fail
  refine (zzFresh_any hT hlow s hs).mono ?_
  rintro e w1 ⟨L, S, rfl, H⟩
  go_wp2_with fail
  refine (next_any H).mono ?_
  rintro e w2 ⟨rfl, S2, hS2, H2, hf2⟩
  go_wp2_with fail
  refine (scanString_any hF H2 quote hq).mono ?_
  rintro e w3 ⟨rfl, S3, hS3, H3, hf3⟩
  rw [HSC.out] at H3 ⊢
  dsimp only at H3 ⊢
  obtain ⟨R, ev, hL, hR, hc, hr, hee, l0, c0, c1, c2, c3, c4, c5, c6, c7, c8, c9, fz⟩ := H3.opened
  have hev : (ev = .pointer none ∧ t1.err = none) ∨ (∃ E, ev = .pointer (some ⟨E, 0, none⟩) ∧ t1.err ≠ none) := by
    rcases hee with ⟨h, h2⟩ | ⟨E, f, o, line, col, msg, snip, _, h3, h, _⟩
    · exact .inl ⟨h, h2⟩
    · exact .inr ⟨E, by assumption, by rw [h]; exact (fun e => by cases e)⟩
  have HL := Lib.hid H3.low
  clear hee
  rcases hev with ⟨rfl, he⟩ | ⟨E, rfl, he⟩
  · have hd : decide (t1.err = none) = true := decide_eq_true he
    have Hd := Lib.hid hd
    clear he hd
    go_wp2_with fail
    go_quiet (fail)
    go_wp2_with fail
    refine bodyPost_ret (v := .tuple #[.int .i64 n, .bool true, .int .i64 t1.eb, .int .i64 t1.er]) ?_ rfl ⟨by rw [Hd.out], (by repeat (first | exact HL.out | apply below_drew | apply below_drewN | apply below_alloc | apply below_grow))⟩
    simp [results, Tryf.results25, go_sem]
  · have hd : decide (t1.err = none) = false := decide_eq_false he
    have Hd := Lib.hid hd
    clear he hd
    go_wp2_with fail
    go_quiet (fail)
    go_wp2_with fail
    refine bodyPost_ret (v := .tuple #[.int .i64 n, .bool false, .int .i64 t1.eb, .int .i64 t1.er]) ?_ rfl ⟨by rw [Hd.out], (by repeat (first | exact HL.out | apply below_drew | apply below_drewN | apply below_alloc | apply below_grow))⟩
    simp [results, Tryf.results25, go_sem]

end Go.Proofs.YtdpdgppjeekcmaaFmt
