/-
  Walks: the shims of n003_69: a fresh lexer, the report, one step of number.
-/
import Derived.Test.YtdpdgppjeekcmaaFmtNumber2
import Derived.Test.YtdpdgppjeekcmaaFmtSteps
import Derived.Test.YtdpdgppjeekcmaaFmtTabs
namespace Go.Proofs.YtdpdgppjeekcmaaFmt
open Go Go.Lib Go.RowKit Go.Proofs
open Go.Extern.Stop Go.Stop Go.Extern

theorem zzFresh_any {W0 w : World} (hT : Tabs W0) (hlow : Below W0.heap.size W0 w) (s : ByteArray) (hs : s.size ≤ 1099511627776) :
    Calls Tryf.prog 28 #[.string s] w fun e w' => ∃ L S, e = .returned (.pointer (some ⟨L, 0, none⟩)) ∧ Lx W0 S w' L s start := by
  go_enter Tryf.func28, Tryf.ntmps28
  go_wp2_with fail
  refine (new_any hT hlow).mono ?_
  rintro e w1 ⟨L, rfl, S, hS, H, hb⟩
  go_wp2_with fail
  refine (newSource_any s w1).mono ?_
  rintro e w2 ⟨rfl, xs, d, rfl⟩
  go_wp2_with fail
  refine (reset_any (H.keep (by repeat (first | exact Below.refl _ _ | apply below_drew | apply below_drewN | apply below_alloc | apply below_grow))) hs).mono ?_
  rintro e w3 ⟨rfl, hd⟩
  go_wp2_with fail
  go_ret
  obtain ⟨L, S, he, h1, h2, h3⟩ := Made.done (W0 := W0) (s := s) (t := start) hS (hb.trans ((grow_below _ _ _).mono hb.size)) hd
  exact ⟨L, S, he, h2⟩

set_option maxHeartbeats 1000000 in
set_option maxRecDepth 100000 in
theorem zzReport_one {W0 w : World} {S : Nat → Prop} {L : Nat} {s : ByteArray} {t : St} {k : Tok} (H : Lx W0 S w L s t) (ht : t.toks = [k]) (he : t.err = none) (b : Bool) :
    Calls Tryf.prog 30 #[.pointer (some ⟨L, 0, none⟩), .bool b] w fun e w' => e = .returned (.tuple #[.bool b, .bool true, .int .i64 1, .string k.kind, .string k.value, .int .i64 k.frm, .int .i64 k.to, .int .i64 t.eb, .int .i64 t.sb]) ∧ Below W0.heap.size W0 w' := by
  obtain ⟨R, ev, hL, hR, hc, hr, hee, l0, c0, c1, c2, c3, c4, c5, c6, c7, c8, c9, fz⟩ := H.opened
  have hev : ev = .pointer none := by
    rcases hee with ⟨h, _⟩ | ⟨E, f, o, line, col, msg, snip, _, _, h, _⟩
    · exact h
    · rw [he] at h; cases h
  subst hev
  have hr0 := hr
  rw [ht] at hr0
  have hRL := hr.ne hc.out
  go_enter Tryf.func30, Tryf.ntmps30
  go_wp2_with fail
  refine (ringLen_any hr0).mono ?_
  rintro e w1 ⟨rfl, rfl⟩
  go_wp2_with fail
  refine (dequeue_any hr0 H.lt).mono ?_
  rintro e w2 ⟨rfl, hd⟩
  have hL2 := hd.lex hc.out hRL
  have hD2 : Done W0 S w L s { t with toks := [] } w2 := Done.ring (t2 := { t with toks := [] }) H hL hR hr hee hc.out (OnlyL.refl hc.out) hd (OnlyL.refl hL2) H.small rfl rfl H.poss
  obtain ⟨S2, hS2, H2, hf2⟩ := hD2
  obtain ⟨R2, ev2, hL2', hR2, hc2, hr2, hee2, m0, d0, d1, d2, d3, d4, d5, d6, d7, d8, d9, fz2⟩ := H2.opened
  have hev2 : ev2 = .pointer none := by
    rcases hee2 with ⟨h, _⟩ | ⟨E, f, o, line, col, msg, snip, _, _, h, _⟩
    · exact h
    · rw [show ({ t with toks := [] } : St).err = t.err from rfl, he] at h; cases h
  subst hev2
  have Hd := Lib.hid hd
  have HL2 := Lib.hid hL2
  clear hd hL2
  unfold tokVal
  go_wp2_with fail
  go_quiet (fail)
  go_wp2_with fail
  refine bodyPost_ret (v := .tuple #[.bool b, .bool true, .int .i64 1, .string k.kind, .string k.value, .int .i64 k.frm, .int .i64 k.to, .int .i64 t.eb, .int .i64 t.sb]) ?_ rfl ⟨rfl, H2.low.trans (Below.mono (by repeat (first | exact Below.refl _ _ | apply below_drew | apply below_drewN | apply below_alloc | apply below_grow)) H2.low.size)⟩
  simp [results, Tryf.results30, go_sem]

/-- One step of number, where it takes a number. -/
theorem zzNumberStep_ok {F : Stop.Interp} {W0 w : World} (hF : F.answers W0.tape) (hT : Tabs W0) (hlow : Below W0.heap.size W0 w) (s : ByteArray) (hs : s.size ≤ 1099511627776) (t1 : St) (hsc : scanNumber s start = (true, t1)) :
    Calls Tryf.prog 10 #[.string s] w fun e w' => e = .returned (.tuple #[.bool false, .bool true, .int .i64 1, .string kNumber, .string (s.extract 0 t1.eb), .int .i64 0, .int .i64 t1.er, .int .i64 t1.eb, .int .i64 t1.eb]) ∧ Below W0.heap.size W0 w' := by
  have hn : number s start = (some .root, emit kNumber s t1) := by unfold number; rw [hsc]; rfl
  have hr := reads_scanNumber s start
  rw [hsc] at hr
  have hsb : t1.sb = 0 := hr.sb
  have hsr : t1.sr = 0 := hr.sr
  have htk : t1.toks = [] := hr.toks
  have her : t1.err = none := hr.err
  have HN := Lib.hid hn
  clear hn hsc hr
  go_enter Tryf.func10, Tryf.ntmps10
  go_wp2_with fail
  refine (zzFresh_any hT hlow s hs).mono ?_
  rintro e w1 ⟨L, S, rfl, H⟩
  go_wp2_with fail
  refine (number_any hF H (Nat.zero_le _) (by show 0 ≤ 9; omega)).mono ?_
  rintro e w2 ⟨rfl, S2, hS2, H2, hf2⟩
  rw [HN.out] at H2 ⊢
  have hrun : ∀ wr, Sem.run Tryf.prog (binOp BinOp.eql 50 (Value.func (Fn.func 31) #[] #[]) Value.nilFunc) wr = .ok (.bool false) wr := fun _ => by kernel_rfl
  unfold qVal
  go_wp2_with fail
  refine (zzReport_one H2 (k := ⟨t1.sr, t1.er, kNumber, word s t1⟩) (by show t1.toks ++ [_] = [_]; rw [htk]; rfl) her false).mono ?_
  rintro e w3 ⟨rfl, hb⟩
  have hst : (emit kNumber s t1).eb = t1.eb ∧ (emit kNumber s t1).sb = t1.eb := ⟨rfl, rfl⟩
  rw [hst.1, hst.2]
  unfold word
  rw [hsb, hsr]
  go_wp2_with fail
  refine bodyPost_ret (v := .tuple #[.bool false, .bool true, .int .i64 1, .string kNumber, .string (s.extract 0 t1.eb), .int .i64 0, .int .i64 t1.er, .int .i64 t1.eb, .int .i64 t1.eb]) ?_ rfl ⟨rfl, hb⟩
  simp [results, Tryf.results10, go_sem]

end Go.Proofs.YtdpdgppjeekcmaaFmt
