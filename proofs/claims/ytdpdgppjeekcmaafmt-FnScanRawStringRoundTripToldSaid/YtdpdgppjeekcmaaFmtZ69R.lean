/-
  Walk: the shim of scanRawString of n003_69: where the literal is taken, where not.
-/
import Derived.Test.YtdpdgppjeekcmaaFmtZ69
import Derived.Test.YtdpdgppjeekcmaaFmtRootC
import Derived.Test.YtdpdgppjeekcmaaFmtP69F
namespace Go.Proofs.YtdpdgppjeekcmaaFmt
open Go Go.Lib Go.RowKit Go.Proofs
open Go.Extern.Stop Go.Stop Go.Extern


set_option maxHeartbeats 4000000 in
set_option maxRecDepth 100000 in
theorem zzScanRaw_ok {F : Stop.Interp} {W0 w : World} (hF : F.answers W0.tape) (hT : Tabs W0) (hlow : Below W0.heap.size W0 w) (s : ByteArray) (hs : s.size ≤ 1099511627776) (h1 : (next s start).eb = 1) (h0 : 1 ≤ s.size) (n e E N : Nat) (hG : rawGo s 96 0 0 (peek s (next s start)) (next s (next s start)) = (n, e, true, taken E N)) :
    Calls Tryf.prog 20 #[.string s] w fun e' w' => e' = .returned (.tuple #[.int .i64 n, .bool true, .int .i64 E, .int .i64 N, .int .i64 1, .string (rawValue 96 e (s.extract 1 (E - 1))), .int .i64 0, .int .i64 N]) ∧ Below W0.heap.size W0 w' := by
  obtain ⟨v, hv⟩ : ∃ v, rawValue 96 e (s.extract 1 (E - 1)) = v := ⟨_, rfl⟩
  rw [hv]
  have HG := Lib.hid hG
  have Hv := Lib.hid hv
  clear hG hv
  have n1 := (next_q s start).2.2.2.2
  have n2 := (next_q s start).2.2.1
  go_enter Tryf.func20, Tryf.ntmps20
  go_wp2_with fail
  refine (zzFresh_any hT hlow s hs).mono ?_
  rintro e0 w1 ⟨L, S, rfl, H⟩
  go_wp2_with fail
  refine (next_any H).mono ?_
  rintro e0 w2 ⟨rfl, S2, hS2, H2, hf2⟩
  go_wp2_with fail
  refine (scanRaw_walk hF H2 96 (by decide) (by rw [h1]; exact h0) (by rw [n1]; decide) (by rw [h1, n2]; decide) _ HG.out).mono ?_
  rintro e0 w3 ⟨rfl, S3, hS3, H3, hf3⟩
  have hst : (if (true : Bool) then emitV kString (rawValue 96 e (s.extract ((taken E N).sb + 1) ((taken E N).eb - 1))) (taken E N) else taken E N) = ⟨some .root, E, N, E, N, false, false, none, [⟨0, N, kString, v⟩]⟩ := by
    show emitV kString (rawValue 96 e (s.extract 1 (E - 1))) (taken E N) = _
    rw [Hv.out]
    rfl
  dsimp only at H3
  rw [hst] at H3
  clear hst n1 n2 hS2 hf2 H2 hS3 hf3
  obtain ⟨R, ev, hL, hR, hc, hr, hee, l0, c0, c1, c2, c3, c4, c5, c6, c7, c8, c9, fz⟩ := H3.opened
  have hev : ev = .pointer none := by
    rcases hee with ⟨h, _⟩ | ⟨E, f, o, line, col, msg, snip, _, _, h, _⟩
    · exact h
    · cases h
  subst hev
  have hr0 := hr
  have hRL := hr.ne hc.out
  go_wp2_with fail
  refine (ringLen_any hr0).mono ?_
  rintro e0 w' ⟨rfl, rfl⟩
  go_wp2_with fail
  refine (dequeue_any hr0 H3.lt).mono ?_
  rintro e0 w4 ⟨rfl, hd⟩
  obtain ⟨S5, hS5, H5, hf5⟩ := Done.ring (t2 := ⟨some .root, E, N, E, N, false, false, none, []⟩) H3 hL hR hr hee hc.out (OnlyL.refl hc.out) hd (OnlyL.refl (hd.lex hc.out hRL)) H3.small rfl rfl H3.poss
  have HL := Lib.hid H5.low
  clear hd H5 hS5 hf5
  unfold tokVal
  go_wp2_with fail
  refine bodyPost_ret (v := .tuple #[.int .i64 n, .bool true, .int .i64 E, .int .i64 N, .int .i64 1, .string v, .int .i64 0, .int .i64 N]) ?_ rfl ⟨rfl, (by repeat (first | exact HL.out | apply below_drew | apply below_drewN | apply below_alloc | apply below_grow))⟩
  simp [results, Tryf.results20, go_sem]

set_option maxHeartbeats 4000000 in
set_option maxRecDepth 100000 in
theorem zzScanRaw_bad {F : Stop.Interp} {W0 w : World} (hF : F.answers W0.tape) (hT : Tabs W0) (hlow : Below W0.heap.size W0 w) (s : ByteArray) (hs : s.size ≤ 1099511627776) (h1 : (next s start).eb = 1) (h0 : 1 ≤ s.size) (n e : Nat) (t1 : St) (hG : rawGo s 96 0 0 (peek s (next s start)) (next s (next s start)) = (n, e, false, t1)) :
    Calls Tryf.prog 20 #[.string s] w fun e' w' => e' = .returned (.tuple #[.int .i64 n, .bool false, .int .i64 t1.eb, .int .i64 t1.er, .int .i64 0, .string ⟨#[]⟩, .int .i64 0, .int .i64 0]) ∧ Below W0.heap.size W0 w' := by
  have hg := scan_rawGo s 96 (by decide) 0 0 _ _ (scan_next s (next s start))
  rw [hG] at hg
  have n1 := (next_q s start).2.2.2.2
  have n2 := (next_q s start).2.2.1
  have htk : t1.toks = [] := hg.1.toks.trans n1
  have her : t1.err ≠ none := hg.2 rfl
  have HG := Lib.hid hG
  clear hG hg
  go_enter Tryf.func20, Tryf.ntmps20
  go_wp2_with fail
  refine (zzFresh_any hT hlow s hs).mono ?_
  rintro e0 w1 ⟨L, S, rfl, H⟩
  go_wp2_with fail
  refine (next_any H).mono ?_
  rintro e0 w2 ⟨rfl, S2, hS2, H2, hf2⟩
  go_wp2_with fail
  refine (scanRaw_walk hF H2 96 (by decide) (by rw [h1]; exact h0) (by rw [n1]; decide) (by rw [h1, n2]; decide) _ HG.out).mono ?_
  rintro e0 w3 ⟨rfl, S3, hS3, H3, hf3⟩
  change Lx W0 S3 w3 L s t1 at H3
  clear n1 n2 hS2 hf2 H2 hS3 hf3
  obtain ⟨R, ev, hL, hR, hc, hr, hee, l0, c0, c1, c2, c3, c4, c5, c6, c7, c8, c9, fz⟩ := H3.opened
  have hev : ∃ E, ev = .pointer (some ⟨E, 0, none⟩) := by
    rcases hee with ⟨_, h⟩ | ⟨E, f, o, line, col, msg, snip, h, _⟩
    · exact absurd h her
    · exact ⟨E, h⟩
  obtain ⟨E, rfl⟩ := hev
  have hr0 := hr
  rw [htk] at hr0
  have HL := Lib.hid H3.low
  have hR0 := hr0
  obtain ⟨dv, back, hRb, _⟩ := hR0
  have HRb := Lib.hid hRb
  clear hRb her htk hee hr
  go_wp2_with fail
  refine (ringLen_any hr0).mono ?_
  rintro e0 w' ⟨rfl, rfl⟩
  go_wp2_with fail
  refine (dequeue_none R dv (.int .i64 back) _ HRb.out).mono ?_
  rintro e0 w' ⟨rfl, xs4, d4, rfl⟩
  go_wp2_with fail
  refine bodyPost_ret (v := .tuple #[.int .i64 n, .bool false, .int .i64 t1.eb, .int .i64 t1.er, .int .i64 0, .string ⟨#[]⟩, .int .i64 0, .int .i64 0]) ?_ rfl ⟨rfl, (by repeat (first | exact HL.out | apply below_drew | apply below_drewN | apply below_alloc | apply below_grow))⟩
  simp [results, Tryf.results20, go_sem]

end Go.Proofs.YtdpdgppjeekcmaaFmt
