/-
  Walk of a law of n003_74: Reset keeps a used lexer's place, or its error.
-/
import Derived.Test.YtkplkccjeacniaaGreatFmtZ74x
import Derived.Test.YtkplkccjeacniaaGreatFmtZ74k
import Derived.Test.YtkplkccjeacniaaGreatFmtZ74h
namespace Go.Proofs.YtkplkccjeacniaaGreatFmt
open Go Go.Lib Go.RowKit Go.Proofs
open Go.Extern.Stop Go.Stop Go.Extern

def Says (P : Bool → Prop) (w : World) (e : Ending) (w' : World) : Prop := ∃ b, e = .returned (.bool b) ∧ P b ∧ w = w'
theorem says_ret {P : Bool → Prop} {w : World} {b : Bool} (h : P b) : Says P w (.returned (.bool b)) w := ⟨b, rfl, h, rfl⟩

set_option maxRecDepth 100000 in
theorem zzBytes_RU (a b : ByteArray) (w : World) (wa : a.size ≤ maxLen) (wb : b.size ≤ maxLen) : Calls Tryz.prog 24 #[.string a, .string b] w (Says (fun _ => True) w) := by
  unfold maxLen at wa wb
  by_cases z0 : (1048576 : Int) < (a.size : Int)
  · go_enter Tryz.func24, Tryz.ntmps24
    go_wp2_with fail
    go_ret
    exact says_ret trivial
  by_cases z1 : (1048576 : Int) < (b.size : Int)
  · go_enter Tryz.func24, Tryz.ntmps24
    go_wp2_with fail
    go_ret
    exact says_ret trivial
  by_cases z2 : (1048576 : Int) < (a.size : Int) + (b.size : Int)
  · go_enter Tryz.func24, Tryz.ntmps24
    go_wp2_with fail
    go_ret
    exact says_ret trivial
  · go_enter Tryz.func24, Tryz.ntmps24
    go_wp2_with fail
    go_ret
    exact says_ret trivial

/-- A used lexer with another source: where it had failed. -/
theorem again_err {b : ByteArray} {u : St} (he : u.err ≠ none) : nextS b { u with q := some .root, toks := [] } = (none, { u with q := some .root, toks := [] }) :=
  nextS_none (going_err he) (.inl he)
theorem again_inv {b : ByteArray} {u : St} (he : u.err ≠ none) : Inv b { u with q := some .root, toks := [] } := fun h => absurd h he
/-- .. and where it had come to its end. -/
def lastTok (u : St) : Tok := ⟨((u.er - 1 : Nat) : Int), u.er, kEOF, ⟨#[]⟩⟩
def ended (u : St) : St := { u with q := none, toks := [], eof := true, sb := u.eb, sr := u.er }
theorem again_end {b : ByteArray} {u : St} (he : u.err = none) (hb : b.size ≤ u.eb) : nextS b { u with q := some .root, toks := [] } = (some (lastTok u), ended u) := by
  have hA : AtEnd b { u with q := some .root, toks := [] } := ⟨rfl, hb⟩
  have hg : going { u with q := some .root, toks := [] } = true := going_iff.2 ⟨⟨.root, rfl⟩, he, rfl⟩
  have hst := atEnd_step hA
  have hp : pulled b { u with q := some .root, toks := [] } = step b { u with q := some .root, toks := [] } := by
    rw [pulled_step2 (.inr hA) hg]
    exact pulled_stop (by rw [hst]; rfl)
  rw [nextS_cons (k := lastTok u) (l := []) (by rw [hp, hst]; exact he) (by rw [hp, hst]; rfl), hp, hst]
  rfl
theorem again_end2 {b : ByteArray} {u : St} : nextS b (ended u) = (none, ended u) := nextS_none (going_q rfl) (.inr rfl)
theorem ended_inv {b : ByteArray} {u : St} : Inv b (ended u) := fun _ q hq => by cases hq

set_option maxHeartbeats 8000000 in
set_option maxRecDepth 100000 in
theorem RU_walk {W : World} (hT : Tabs W) (F : Stop.Interp) (hF : F.answers W.tape) (a b : ByteArray) (wa : a.size ≤ maxLen) (wb : b.size ≤ maxLen) :
    Calls Tryz.prog 7 #[.string a, .string b] W fun e w' => e = .returned (.bool true) ∧ Below W.heap.size W w' := by
  have hz := zzBytes_RU a b W wa wb
  have Hz := Lib.hid hz
  clear hz
  by_cases z0 : (65536 : Int) < (a.size : Int)
  · go_enter Tryz.func7, Tryz.ntmps7
    go_wp2_with fail
    refine Hz.out.mono ?_
    rintro e w' ⟨b, rfl, _, rfl⟩
    cases b
    · go_wp2_with fail
      go_ret
      exact ⟨rfl, Below.refl _ _⟩
    · go_wp2_with fail
      go_ret
      exact ⟨rfl, Below.refl _ _⟩
  by_cases z1 : (65536 : Int) < (b.size : Int)
  · go_enter Tryz.func7, Tryz.ntmps7
    go_wp2_with fail
    refine Hz.out.mono ?_
    rintro e w' ⟨b, rfl, _, rfl⟩
    cases b
    · go_wp2_with fail
      go_ret
      exact ⟨rfl, Below.refl _ _⟩
    · go_wp2_with fail
      go_ret
      exact ⟨rfl, Below.refl _ _⟩
  have ha : a.size ≤ 1099511627776 := by omega
  have hs : b.size ≤ 1099511627776 := by omega
  obtain ⟨l, u, hx⟩ := lexed a
  have hl := hx.len
  have Hx := Lib.hid hx
  clear hx
  have hlex := fun (w : World) (hl2 : Below W.heap.size W w) => lex_any hF hT hl2 a ha (Hx.out.drain (l.length + 1) (Nat.lt_succ_self _)) (by omega)
  have Hlex := Lib.hid hlex
  clear hlex
  obtain ⟨N, hN⟩ : ∃ N : Nat, N = a.size + 3 := ⟨_, rfl⟩
  have hN1 : (a.size : Int) + 3 = (N : Int) := by omega
  have hN2 : N ≤ 1099511627776 := by omega
  have hN3 : l.length < N := by omega
  have q0 : ∀ wr, Sem.run Tryz.prog (binOp BinOp.eql 33 Value.nilIface Value.nilIface) wr = .ok (.bool true) wr := fun _ => by kernel_rfl
  have q1 : ∀ wr, Sem.run Tryz.prog (binOp BinOp.neq 33 Value.nilIface Value.nilIface) wr = .ok (.bool false) wr := fun _ => by kernel_rfl
  have q3 : ∀ E wr, Sem.run Tryz.prog (binOp BinOp.eql 33 (.iface 56 (.pointer (some ⟨E, 0, none⟩))) Value.nilIface) wr = .ok (.bool false) wr := fun _ _ => by kernel_rfl
  have q4 : ∀ E wr, Sem.run Tryz.prog (binOp BinOp.neq 33 (.iface 56 (.pointer (some ⟨E, 0, none⟩))) Value.nilIface) wr = .ok (.bool true) wr := fun _ _ => by kernel_rfl
  have HN := Lib.hid hN
  clear hN
  go_enter Tryz.func7, Tryz.ntmps7
  go_wp2_with fail
  refine Hz.out.mono ?_
  rintro e w' ⟨b, rfl, _, rfl⟩
  cases b
  · go_wp2_with fail
    go_ret
    exact ⟨rfl, Below.refl _ _⟩
  go_wp2_with fail
  refine (newSource_any a _).mono ?_
  rintro e w' ⟨rfl, xs, d, rfl⟩
  go_wp2_with fail
  have hg1 := grow_below W xs d
  refine (Hlex.out _ hg1).mono ?_
  rintro e w0 ⟨hb0, hres⟩
  have hbw0 : Below W.heap.size W w0 := hg1.trans (hb0.mono hg1.size)
  have Hbw0 := Lib.hid hbw0
  clear hbw0 hb0 hg1 Hlex
  -- from New to the second Reset
  have key : ∀ (P : Ending → World → Prop), True → True := fun _ h => h
  clear key
  rcases hres with ⟨heq, tv, rfl, _⟩ | ⟨hne, E0, rfl⟩
  · by_cases hlen : a.size < b.size
    · have hlen2 : (a.size : Int) < (b.size : Int) := by omega
      clear heq q3 q4
      go_wp2_with fail
      go_ret
      exact ⟨rfl, Hbw0.out⟩
    have hlen2 : ¬ (a.size : Int) < (b.size : Int) := by omega
    have Heq := Lib.hid heq
    clear heq q3 q4
    go_wp2_with fail
    refine (new_any hT Hbw0.out).mono ?_
    rintro e w1 ⟨L, rfl, S, hS, H, hb1⟩
    go_wp2_with fail
    refine (newSource_any a _).mono ?_
    rintro e w' ⟨rfl, xs1, d1, rfl⟩
    go_wp2_with fail
    refine (reset_any (H.keep (grow_below _ _ _)) ha).mono ?_
    rintro e w2 ⟨rfl, S2, hS2, H2, hf2⟩
    have hst : ({ fresh with q := some .root, toks := [] } : St) = start := rfl
    rw [hst] at H2
    have hg1 := grow_below w1 xs1 d1
    have hb12 : Below w0.heap.size w0 (grow w1 xs1 d1) := hb1.trans (hg1.mono hb1.size)
    have hS2w : ∀ k, S2 k → w0.heap.size ≤ k := fun k hk => (hS2 k hk).elim (hS k) (fun h => Nat.le_trans hb12.size h)
    have hbw2 : Below w0.heap.size w0 w2 := hb12.trans (hf2.below hS hb12.size)
    have HS2 := Lib.hid hS2w
    have Hbw2 := Lib.hid hbw2
    clear hst hg1 hb12 hS2w hbw2 hf2 hS2 H hS hb1
    go_wp2_with fail
    refine (zzDrain_any hF H2 (inv_start a) N hN2 hN3 (Hx.out.drain _ (Nat.lt_succ_self _))).mono ?_
    rintro e w3 ⟨gv, S3, rfl, _, _, hS3, H3, hf3⟩
    have hS3w : ∀ k, S3 k → w0.heap.size ≤ k := fun k hk => (hS3 k hk).elim (HS2.out k) (fun h => Nat.le_trans Hbw2.out.size h)
    have hbw3 : Below w0.heap.size w0 w3 := Hbw2.out.trans (hf3.below HS2.out Hbw2.out.size)
    have HS3 := Lib.hid hS3w
    have Hbw3 := Lib.hid hbw3
    clear hS3w hbw3 hf3 hS3 H2 HS2 Hbw2
    go_wp2_with fail
    refine (newSource_any b _).mono ?_
    rintro e w' ⟨rfl, xs3, d3, rfl⟩
    go_wp2_with fail
    refine (reset_any (H3.keep (grow_below _ _ _)) hs).mono ?_
    rintro e w4 ⟨rfl, S4, hS4, H4, hf4⟩
    have hg3 := grow_below w3 xs3 d3
    have hb34 : Below w0.heap.size w0 (grow w3 xs3 d3) := Hbw3.out.trans (hg3.mono Hbw3.out.size)
    have hS4w : ∀ k, S4 k → W.heap.size ≤ k := fun k hk => (hS4 k hk).elim (fun h => Nat.le_trans Hbw0.out.size (HS3.out k h)) (fun h => Nat.le_trans Hbw0.out.size (Nat.le_trans hb34.size h))
    have hbw4 : Below W.heap.size W w4 := Hbw0.out.trans ((hb34.trans (hf4.below HS3.out hb34.size)).mono Hbw0.out.size)
    have HS4 := Lib.hid hS4w
    have Hbw4 := Lib.hid hbw4
    clear hg3 hb34 hS4w hbw4 hf4 hS4 H3 HS3 Hbw3
    obtain ⟨hq0, ht0, heb, hbd, hsb, hsr, hdis, _⟩ := Hx.out.ended.ok Heq.out
    have hag := again_end (b := b) Heq.out (by omega)
    have hue := hbd.n_le
    have Hbd := Lib.hid hbd
    have Hag := Lib.hid hag
    clear hq0 ht0 heb hbd hsb hsr hdis hag
    go_wp2_with fail
    refine (zzRuneStarts_any a ha _).mono ?_
    rintro e w6 ⟨vo, pl, rfl, hown6, hpl, hb6⟩
    have hN6 : pl.length = u.er := by
      have h := hpl pl.length (by simp)
      simp at h
      exact h.cnt_inj Hbd.out
    have hbw6 : Below W.heap.size W w6 := Hbw4.out.trans (hb6.mono Hbw4.out.size)
    have H6 := H4.keep hb6
    have hshape : ∃ x c, vo = .slice x (u.er + 1) c := by
      obtain ⟨_, ⟨rfl, h⟩ | ⟨g, cap, cur, rfl, _⟩⟩ := hown6
      · simp at h
      · exact ⟨_, cap, by rw [List.length_append, hN6]; rfl⟩
    obtain ⟨x, c, rfl⟩ := hshape
    have hnx := next_two hF H6 (.inr ⟨rfl, by show b.size ≤ u.eb; have := (Hx.out.ended.ok Heq.out).2.2.1; omega⟩)
    unfold NextTwo at hnx
    rw [Hag.out] at hnx
    obtain ⟨r, hr⟩ : ∃ r, u.er = r := ⟨_, rfl⟩
    obtain ⟨T, hTT⟩ : ∃ T, lastTok u = T := ⟨_, rfl⟩
    have hT0 : T = ⟨((r - 1 : Nat) : Int), r, ⟨#[69, 79, 70]⟩, ⟨#[]⟩⟩ := by rw [← hTT, ← hr]; rfl
    rw [hTT] at hnx
    rw [hr] at hue ⊢
    have Hnx := Lib.hid hnx
    have Hbw6 := Lib.hid hbw6
    have HT0 := Lib.hid hT0
    clear hN6 hpl hown6 hb6 hbw6 hnx hT0 hTT H4 H6 Hbw4 Hbd hr
    by_cases h0 : r = 0
    · subst h0
      go_wp2_with fail
      refine Hnx.out.mono ?_
      rintro e w7 ⟨hD, ⟨k, hk, rfl⟩ | ⟨hk, _⟩⟩
      rotate_left
      · cases hk
      cases hk
      obtain ⟨S7, hS7, H7, hf7⟩ := hD
      have hbw7 : Below W.heap.size W w7 := Hbw6.out.trans (hf7.below HS4.out Hbw6.out.size)
      have hS7w : ∀ k, S7 k → W.heap.size ≤ k := fun k hk => (hS7 k hk).elim (HS4.out k) (fun h => Nat.le_trans Hbw6.out.size h)
      have hnx2 := fun (w : World) (H : Lx W S7 w L b (ended u)) => next_two hF H (.inl ended_inv)
      unfold NextTwo at hnx2
      rw [again_end2] at hnx2
      have Hnx2 := Lib.hid hnx2
      have Hbw7 := Lib.hid hbw7
      have HS7 := Lib.hid hS7w
      clear hnx2 hbw7 hS7w hf7 hS7
      rw [HT0.out]
      unfold tokVal
      go_wp2_with fail
      refine (Hnx2.out _ (H7.keep (by repeat (first | exact Below.refl _ _ | apply below_drew | apply below_drewN | apply below_alloc | apply below_grow)))).mono ?_
      rintro e w8 ⟨⟨S8, hS8, H8, hf8⟩, ⟨k', hk', _⟩ | ⟨_, TT, ev, rfl, hev, hev2⟩⟩
      · cases hk'
      have hbw8 : Below W.heap.size W w8 := Below.trans (by repeat (first | exact Hbw7.out | apply below_drew | apply below_drewN | apply below_alloc | apply below_grow)) (hf8.below HS7.out (Nat.le_trans Hbw7.out.size (by simp)))
      have Hbw8 := Lib.hid hbw8
      clear hbw8 hf8 hS8 H8
      unfold zeroTok
      go_wp2_with (go_at_call 18; refine (zzIsZero_any _).mono ?_; rintro e w9 ⟨rfl, hb9⟩)
      go_ret
      exact ⟨rfl, Below.trans (by repeat (first | exact Hbw8.out | apply below_drew | apply below_drewN | apply below_alloc | apply below_grow)) (hb9.mono (Nat.le_trans Hbw8.out.size (by simp)))⟩
    · have r1 : ¬ ((r : Int) - 1 < 0) := by omega
      have r2 : ((r : Int) - 1) = ((r - 1 : Nat) : Int) := by omega
      have r3 : IntKind.i64.wrap ((r : Int) - 1) = ((r - 1 : Nat) : Int) := by rw [IntKind.wrap_i64]; omega
      have r4 : ¬ (((r - 1 : Nat) : Int) < 0) := by omega
      go_wp2_with fail
      refine Hnx.out.mono ?_
      rintro e w7 ⟨hD, ⟨k, hk, rfl⟩ | ⟨hk, _⟩⟩
      rotate_left
      · cases hk
      cases hk
      obtain ⟨S7, hS7, H7, hf7⟩ := hD
      have hbw7 : Below W.heap.size W w7 := Hbw6.out.trans (hf7.below HS4.out Hbw6.out.size)
      have hS7w : ∀ k, S7 k → W.heap.size ≤ k := fun k hk => (hS7 k hk).elim (HS4.out k) (fun h => Nat.le_trans Hbw6.out.size h)
      have hnx2 := fun (w : World) (H : Lx W S7 w L b (ended u)) => next_two hF H (.inl ended_inv)
      unfold NextTwo at hnx2
      rw [again_end2] at hnx2
      have Hnx2 := Lib.hid hnx2
      have Hbw7 := Lib.hid hbw7
      have HS7 := Lib.hid hS7w
      clear hnx2 hbw7 hS7w hf7 hS7
      rw [HT0.out]
      unfold tokVal
      go_wp2_with fail
      refine (Hnx2.out _ (H7.keep (by repeat (first | exact Below.refl _ _ | apply below_drew | apply below_drewN | apply below_alloc | apply below_grow)))).mono ?_
      rintro e w8 ⟨⟨S8, hS8, H8, hf8⟩, ⟨k', hk', _⟩ | ⟨_, TT, ev, rfl, hev, hev2⟩⟩
      · cases hk'
      have hbw8 : Below W.heap.size W w8 := Below.trans (by repeat (first | exact Hbw7.out | apply below_drew | apply below_drewN | apply below_alloc | apply below_grow)) (hf8.below HS7.out (Nat.le_trans Hbw7.out.size (by simp)))
      have Hbw8 := Lib.hid hbw8
      clear hbw8 hf8 hS8 H8
      unfold zeroTok
      go_wp2_with (go_at_call 18; refine (zzIsZero_any _).mono ?_; rintro e w9 ⟨rfl, hb9⟩)
      go_ret
      exact ⟨rfl, Below.trans (by repeat (first | exact Hbw8.out | apply below_drew | apply below_drewN | apply below_alloc | apply below_grow)) (hb9.mono (Nat.le_trans Hbw8.out.size (by simp)))⟩
  · have hq3 := q3 E0
    have hq4 := q4 E0
    have Hne := Lib.hid hne
    clear hne q0 q3 q4
    go_wp2_with fail
    refine (new_any hT Hbw0.out).mono ?_
    rintro e w1 ⟨L, rfl, S, hS, H, hb1⟩
    go_wp2_with fail
    refine (newSource_any a _).mono ?_
    rintro e w' ⟨rfl, xs1, d1, rfl⟩
    go_wp2_with fail
    refine (reset_any (H.keep (grow_below _ _ _)) ha).mono ?_
    rintro e w2 ⟨rfl, S2, hS2, H2, hf2⟩
    have hst : ({ fresh with q := some .root, toks := [] } : St) = start := rfl
    rw [hst] at H2
    have hg1 := grow_below w1 xs1 d1
    have hb12 : Below w0.heap.size w0 (grow w1 xs1 d1) := hb1.trans (hg1.mono hb1.size)
    have hS2w : ∀ k, S2 k → w0.heap.size ≤ k := fun k hk => (hS2 k hk).elim (hS k) (fun h => Nat.le_trans hb12.size h)
    have hbw2 : Below w0.heap.size w0 w2 := hb12.trans (hf2.below hS hb12.size)
    have HS2 := Lib.hid hS2w
    have Hbw2 := Lib.hid hbw2
    clear hst hg1 hb12 hS2w hbw2 hf2 hS2 H hS hb1
    go_wp2_with fail
    refine (zzDrain_any hF H2 (inv_start a) N hN2 hN3 (Hx.out.drain _ (Nat.lt_succ_self _))).mono ?_
    rintro e w3 ⟨gv, S3, rfl, _, _, hS3, H3, hf3⟩
    have hS3w : ∀ k, S3 k → w0.heap.size ≤ k := fun k hk => (hS3 k hk).elim (HS2.out k) (fun h => Nat.le_trans Hbw2.out.size h)
    have hbw3 : Below w0.heap.size w0 w3 := Hbw2.out.trans (hf3.below HS2.out Hbw2.out.size)
    have HS3 := Lib.hid hS3w
    have Hbw3 := Lib.hid hbw3
    clear hS3w hbw3 hf3 hS3 H2 HS2 Hbw2
    go_wp2_with fail
    refine (newSource_any b _).mono ?_
    rintro e w' ⟨rfl, xs3, d3, rfl⟩
    go_wp2_with fail
    refine (reset_any (H3.keep (grow_below _ _ _)) hs).mono ?_
    rintro e w4 ⟨rfl, S4, hS4, H4, hf4⟩
    have hg3 := grow_below w3 xs3 d3
    have hb34 : Below w0.heap.size w0 (grow w3 xs3 d3) := Hbw3.out.trans (hg3.mono Hbw3.out.size)
    have hS4w : ∀ k, S4 k → W.heap.size ≤ k := fun k hk => (hS4 k hk).elim (fun h => Nat.le_trans Hbw0.out.size (HS3.out k h)) (fun h => Nat.le_trans Hbw0.out.size (Nat.le_trans hb34.size h))
    have hbw4 : Below W.heap.size W w4 := Hbw0.out.trans ((hb34.trans (hf4.below HS3.out hb34.size)).mono Hbw0.out.size)
    have HS4 := Lib.hid hS4w
    have Hbw4 := Lib.hid hbw4
    clear hg3 hb34 hS4w hbw4 hf4 hS4 H3 HS3 Hbw3
    clear q1
    go_wp2_with fail
    go_loopg [10] 4 (fun g kv wr => ∃ (k : Nat) (S1 : Nat → Prop), kv = .int .i64 (k : Nat) ∧ Lx W S1 wr L b { u with q := some .root, toks := [] } ∧ Hid (Below W.heap.size W wr) ∧ Hid (∀ i, S1 i → W.heap.size ≤ i) ∧ k ≤ 3 ∧ 3 - k < g)
    case atStart => exact ⟨0, S4, rfl, H4, Hbw4, HS4, by omega, by omega⟩
    case round =>
      obtain ⟨k, S1, rfl, H1, hb, hSw, hk, hg⟩ := hrel
      by_cases hk3 : k < 3
      · have k1 : (k : Int) < 3 := by omega
        have hnx := next_two hF H1 (.inl (again_inv Hne.out))
        unfold NextTwo at hnx
        rw [again_err Hne.out] at hnx
        have Hnx := Lib.hid hnx
        clear hnx
        go_wp2_with fail
        refine Hnx.out.mono ?_
        rintro e w6 ⟨⟨S6, hS6, H6, hf6⟩, ⟨k', hk', _⟩ | ⟨_, T, ev, rfl, hev, hev2⟩⟩
        · cases hk'
        have hb6 : Below W.heap.size W w6 := hb.out.trans (hf6.below hSw.out hb.out.size)
        have hS6w : ∀ i, S6 i → W.heap.size ≤ i := fun i hi => (hS6 i hi).elim (hSw.out i) (fun h => Nat.le_trans hb.out.size h)
        have Hb6 := Lib.hid hb6
        have HS6 := Lib.hid hS6w
        clear hb6 hS6w hf6 hS6 Hnx
        unfold zeroTok
        go_wp2_with (go_at_call 18; refine (zzIsZero_any _).mono ?_; rintro e w7 ⟨rfl, hb7⟩)
        have hb67 : Below w6.heap.size w6 w7 := Below.trans (by repeat (first | exact Below.refl _ _ | apply below_drew | apply below_drewN | apply below_alloc | apply below_grow)) (hb7.mono (by simp))
        have H7 := H6.keep hb67
        have hbw7 : Below W.heap.size W w7 := Hb6.out.trans (hb67.mono Hb6.out.size)
        have Hbw7 := Lib.hid hbw7
        clear hb7 hb67 hbw7
        go_wp2_with fail
        go_roundg (3 - k)
        case measure => omega
        case rel => exact ⟨k + 1, S6, by go_num, H7, Lib.hid (by repeat (first | exact Hbw7.out | apply below_drew | apply below_drewN | apply below_alloc | apply below_grow)), HS6, by omega, by omega⟩
      · have k1 : ¬ (k : Int) < 3 := by omega
        go_wp2_with fail
        go_ret
        exact ⟨rfl, (by repeat (first | exact hb.out | apply below_drew | apply below_drewN | apply below_alloc | apply below_grow))⟩

end Go.Proofs.YtkplkccjeacniaaGreatFmt
