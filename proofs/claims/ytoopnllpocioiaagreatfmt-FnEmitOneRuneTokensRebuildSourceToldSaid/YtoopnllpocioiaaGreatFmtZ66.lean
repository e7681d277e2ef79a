/-
  Walks: the shims and the helpers of n003_66.
-/
import Derived.Test.YtoopnllpocioiaaGreatFmtSteps
import Derived.Test.YtoopnllpocioiaaGreatFmtEmit
namespace Go.Proofs.YtoopnllpocioiaaGreatFmt
open Go Go.Lib Go.RowKit Go.Proofs

/-- The lexer over s, committed at a runes, read up to k runes, l queued. -/
def mk (s : ByteArray) (a k : Nat) (l : List Tok) : St := { nextN s k start with sb := offs s a, sr := cnts s a, toks := l }
theorem mk_start (s : ByteArray) : start = mk s 0 0 [] := rfl
theorem mk_next (s : ByteArray) (a k m : Nat) (l : List Tok) : nextN s m (mk s a k l) = mk s a (k + m) l := by
  unfold mk
  rw [nextN_rest, nextN_add]
theorem mk_one (s : ByteArray) (a k : Nat) (l : List Tok) : next s (mk s a k l) = mk s a (k + 1) l := mk_next s a k 1 l
theorem mk_commit (s : ByteArray) (a k : Nat) (l : List Tok) : commit (mk s a k l) = mk s k k l := rfl
theorem mk_emitV (s : ByteArray) (a k : Nat) (l : List Tok) (x v : ByteArray) : emitV x v (mk s a k l) = mk s k k (l ++ [⟨cnts s a, cnts s k, x, v⟩]) := rfl
theorem mk_emit (s : ByteArray) (a k : Nat) (l : List Tok) (x : ByteArray) : emit x s (mk s a k l) = mk s k k (l ++ [⟨cnts s a, cnts s k, x, s.extract (offs s a) (offs s k)⟩]) := rfl
theorem mk_emitEOF (s : ByteArray) (a k : Nat) (l : List Tok) : emitEOF (mk s a k l) = mk s k k (l ++ [⟨((cnts s k - 1 : Nat) : Int), cnts s k, kEOF, ⟨#[]⟩⟩]) := rfl
theorem mk_eb (s : ByteArray) (a k : Nat) (l : List Tok) : (mk s a k l).eb ≤ s.size := offs_le s k
theorem mk_q (s : ByteArray) (a k : Nat) (l : List Tok) : (mk s a k l).q = some .root ∧ (mk s a k l).err = none := ⟨(nextN_q s k start).1, (nextN_q s k start).2.1⟩

theorem zskip_any {W0 w : World} {S : Nat → Prop} {L : Nat} {s : ByteArray} {a k : Nat} {l : List Tok} (H : Lx W0 S w L s (mk s a k l)) :
    Calls Tryz.prog 21 #[.pointer (some ⟨L, 0, none⟩)] w fun e w' => e = .returned (.tuple #[]) ∧ Done W0 S w L s (mk s k k l) w' := by
  go_enter Tryz.func21, Tryz.ntmps21
  go_wp2_with fail
  refine (skip_any H).mono ?_
  rintro e w1 ⟨rfl, hd⟩
  go_wp2_with fail
  go_end0
  exact ⟨rfl, hd⟩
theorem znext_any {W0 w : World} {S : Nat → Prop} {L : Nat} {s : ByteArray} {a k : Nat} {l : List Tok} (H : Lx W0 S w L s (mk s a k l)) :
    Calls Tryz.prog 25 #[.pointer (some ⟨L, 0, none⟩)] w fun e w' => e = .returned (.int .i32 (peek s (mk s a k l))) ∧ Done W0 S w L s (mk s a (k + 1) l) w' := by
  go_enter Tryz.func25, Tryz.ntmps25
  go_wp2_with fail
  refine (next_any H).mono ?_
  rintro e w1 ⟨rfl, hd⟩
  go_wp2_with fail
  go_ret
  exact ⟨rfl, (mk_one s a k l) ▸ hd⟩
theorem zemit_any {W0 w : World} {S : Nat → Prop} {L : Nat} {s : ByteArray} {a k : Nat} {l : List Tok} (H : Lx W0 S w L s (mk s a k l)) (hn : l.length ≤ 9) (x : ByteArray) :
    Calls Tryz.prog 17 #[.pointer (some ⟨L, 0, none⟩), .string x] w fun e w' => e = .returned (.tuple #[]) ∧ Done W0 S w L s (mk s k k (l ++ [⟨cnts s a, cnts s k, x, s.extract (offs s a) (offs s k)⟩])) w' := by
  go_enter Tryz.func17, Tryz.ntmps17
  go_wp2_with fail
  refine (emit_any H (mk_eb s a k l) hn x).mono ?_
  rintro e w1 ⟨rfl, hd⟩
  go_wp2_with fail
  go_end0
  exact ⟨rfl, hd⟩
theorem zemitValue_any {W0 w : World} {S : Nat → Prop} {L : Nat} {s : ByteArray} {a k : Nat} {l : List Tok} (H : Lx W0 S w L s (mk s a k l)) (hn : l.length ≤ 9) (x v : ByteArray) :
    Calls Tryz.prog 27 #[.pointer (some ⟨L, 0, none⟩), .string x, .string v] w fun e w' => e = .returned (.tuple #[]) ∧ Done W0 S w L s (mk s k k (l ++ [⟨cnts s a, cnts s k, x, v⟩])) w' := by
  go_enter Tryz.func27, Tryz.ntmps27
  go_wp2_with fail
  refine (emitValue_any H hn x v).mono ?_
  rintro e w1 ⟨rfl, hd⟩
  go_wp2_with fail
  go_end0
  exact ⟨rfl, hd⟩
theorem zemitEOF_any {W0 w : World} {S : Nat → Prop} {L : Nat} {s : ByteArray} {a k : Nat} {l : List Tok} (H : Lx W0 S w L s (mk s a k l)) (hn : l.length ≤ 9) :
    Calls Tryz.prog 22 #[.pointer (some ⟨L, 0, none⟩)] w fun e w' => e = .returned (.tuple #[]) ∧ Done W0 S w L s (mk s k k (l ++ [⟨((cnts s k - 1 : Nat) : Int), cnts s k, kEOF, ⟨#[]⟩⟩])) w' := by
  go_enter Tryz.func22, Tryz.ntmps22
  go_wp2_with fail
  refine (emitEOF_any H hn).mono ?_
  rintro e w1 ⟨rfl, hd⟩
  go_wp2_with fail
  go_end0
  exact ⟨rfl, hd⟩
theorem zqueued_any {W0 w : World} {S : Nat → Prop} {L : Nat} {s : ByteArray} {a k : Nat} {l : List Tok} (H : Lx W0 S w L s (mk s a k l)) :
    Calls Tryz.prog 18 #[.pointer (some ⟨L, 0, none⟩)] w fun e w' => e = .returned (.int .i64 l.length) ∧ w = w' := by
  obtain ⟨R, ev, hL, hR, hc, hr, he, l0, c0, c1, c2, c3, c4, c5, c6, c7, c8, c9, fz⟩ := H.opened
  have hr0 : RingW S w R l := hr
  go_enter Tryz.func18, Tryz.ntmps18
  go_wp2_with fail
  refine (ringLen_any hr0).mono ?_
  rintro e w1 ⟨rfl, rfl⟩
  go_wp2_with fail
  go_ret
  exact ⟨rfl, rfl⟩
theorem zNext_any {W0 w : World} {S : Nat → Prop} {L : Nat} {s : ByteArray} {a k : Nat} {x : Tok} {l : List Tok} (H : Lx W0 S w L s (mk s a k (x :: l))) :
    Calls Tryz.prog 19 #[.pointer (some ⟨L, 0, none⟩)] w fun e w' => e = .returned (.tuple #[tokVal x, .nilIface]) ∧ Done W0 S w L s (mk s a k l) w' :=
  nextTok_any H rfl (mk_q s a k _).1 (mk_q s a k _).2

theorem freshLexer_any {W0 w : World} (hT : Tabs W0) (hlow : Below W0.heap.size W0 w) (s : ByteArray) (hs : s.size ≤ 1099511627776) :
    Calls Tryz.prog 15 #[.string s] w fun e w' => ∃ L S, e = .returned (.pointer (some ⟨L, 0, none⟩)) ∧ Lx W0 S w' L s (mk s 0 0 []) ∧ (∀ k, S k → w.heap.size ≤ k) ∧ Below w.heap.size w w' := by
  go_enter Tryz.func15, Tryz.ntmps15
  go_wp2_with fail
  refine (new_any hT hlow).mono ?_
  rintro e w1 ⟨L, rfl, S, hS, H, hb⟩
  go_wp2_with fail
  refine (newSource_any s w1).mono ?_
  rintro e w2 ⟨rfl, xs, d, rfl⟩
  go_wp2_with fail
  refine (reset_any (H.keep (by repeat (first | exact Below.refl _ _ | apply below_drew | apply below_drewN | apply below_alloc | apply below_grow))) hs).mono ?_
  rintro e w3 ⟨rfl, hd⟩
  go_wp2_with fail
  go_ret
  obtain ⟨L, S, he, h1, h2, h3⟩ := Made.done (W0 := W0) (s := s) (t := start) hS (hb.trans ((grow_below _ _ _).mono hb.size)) hd
  exact ⟨L, S, he, h2, h1, h3⟩

theorem advance_any {W0 w : World} {S : Nat → Prop} {L : Nat} {s : ByteArray} {a k : Nat} {l : List Tok} (H : Lx W0 S w L s (mk s a k l)) (m : Nat) (hm : m ≤ 2097152) :
    Calls Tryz.prog 16 #[.pointer (some ⟨L, 0, none⟩), .int .i64 m] w fun e w' => e = .returned (.tuple #[]) ∧ Done W0 S w L s (mk s a (k + m) l) w' := by
  go_enter Tryz.func16, Tryz.ntmps16
  go_wp2_with fail
  go_loopg [4] (m + 1) (fun g i wr => ∃ (j : Nat) (S1 : Nat → Prop), i = .int .i64 j ∧ j ≤ m ∧ m < j + g ∧ (∀ i, S1 i → S i ∨ w.heap.size ≤ i) ∧ Fr S w wr ∧ Lx W0 S1 wr L s (mk s a (k + j) l))
  case atStart => exact ⟨0, S, rfl, by omega, by omega, fun _ h => .inl h, Fr.refl _ _, H⟩
  case round =>
    obtain ⟨j, S1, rfl, hj, hg, hS1, hf, H1⟩ := hrel
    by_cases hjk : (j : Int) < (m : Int)
    · go_wp2_with fail
      refine (znext_any H1).mono ?_
      rintro e w2 ⟨rfl, S2, hS2, H2, hf2⟩
      go_wp2_with fail
      go_roundg (m - j)
      case measure => omega
      case rel =>
        exact ⟨j + 1, S2, by go_num, by omega, by omega, fun i hi => (hS2 i hi).elim (hS1 i) (fun h => .inr (Nat.le_trans hf.size h)), hf.trans hf2 hS1, H2⟩
    · obtain rfl : j = m := by omega
      go_wp2_with fail
      go_end0
      exact ⟨rfl, S1, hS1, H1, hf⟩

theorem minInt_any (a b : Nat) (w : World) :
    Calls Tryz.prog 13 #[.int .i64 a, .int .i64 b] w fun e w' => e = .returned (.int .i64 (min a b : Nat)) ∧ w = w' := by
  by_cases h : (a : Int) < (b : Int)
  · have e1 : min a b = a := by omega
    rw [e1]
    go_enter Tryz.func13, Tryz.ntmps13
    go_wp2_with fail
    go_ret
    exact ⟨rfl, rfl⟩
  · have e1 : min a b = b := by omega
    rw [e1]
    go_enter Tryz.func13, Tryz.ntmps13
    go_wp2_with fail
    go_ret
    exact ⟨rfl, rfl⟩

end Go.Proofs.YtoopnllpocioiaaGreatFmt
