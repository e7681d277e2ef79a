/-
  Walks: the shims of n003_75 and zzAt.
-/
import Derived.Test.YteicfaehbndlcaaFmtCore3
import Derived.Test.YteicfaehbndlcaaFmtNew
namespace Go.Proofs.YteicfaehbndlcaaFmt
open Go Go.Lib Go.RowKit Go.Proofs

theorem znext_any {W0 w : World} {S : Nat → Prop} {L : Nat} {s : ByteArray} {t : St} (H : Lx W0 S w L s t) :
    Calls Tryf.prog 19 #[.pointer (some ⟨L, 0, none⟩)] w fun e w' => e = .returned (.int .i32 (peek s t)) ∧ Done W0 S w L s (next s t) w' := by
  go_enter Tryf.func19, Tryf.ntmps19
  go_wp2_with fail
  refine (next_any H).mono ?_
  rintro e w1 ⟨rfl, hd⟩
  go_wp2_with fail
  go_ret
  exact ⟨rfl, hd⟩
theorem zcommit_any {W0 w : World} {S : Nat → Prop} {L : Nat} {s : ByteArray} {t : St} (H : Lx W0 S w L s t) :
    Calls Tryf.prog 18 #[.pointer (some ⟨L, 0, none⟩)] w fun e w' => e = .returned (.tuple #[]) ∧ Done W0 S w L s (commit t) w' := by
  go_enter Tryf.func18, Tryf.ntmps18
  go_wp2_with fail
  refine (commit_any H).mono ?_
  rintro e w1 ⟨rfl, hd⟩
  go_wp2_with fail
  go_end0
  exact ⟨rfl, hd⟩
theorem zword_any {W0 w : World} {S : Nat → Prop} {L : Nat} {s : ByteArray} {t : St} (H : Lx W0 S w L s t) (hle : t.eb ≤ s.size) :
    Calls Tryf.prog 16 #[.pointer (some ⟨L, 0, none⟩)] w fun e w' => e = .returned (.string (word s t)) ∧ ∃ xs d, w' = grow w xs d := by
  go_enter Tryf.func16, Tryf.ntmps16
  go_wp2_with fail
  refine (word_any H hle).mono ?_
  rintro e w1 ⟨rfl, xs, d, rfl⟩
  go_wp2_with fail
  go_ret
  exact ⟨rfl, xs, d, rfl⟩
theorem zaccept_any {W0 w : World} {S : Nat → Prop} {L : Nat} {s v : ByteArray} {t : St} (H : Lx W0 S w L s t) :
    Calls Tryf.prog 22 #[.pointer (some ⟨L, 0, none⟩), .string v] w fun e w' => e = .returned (.bool (acceptB v s t)) ∧ Done W0 S w L s (accept v s t) w' := by
  go_enter Tryf.func22, Tryf.ntmps22
  go_wp2_with fail
  refine (accept_any H).mono ?_
  rintro e w1 ⟨rfl, hd⟩
  go_wp2_with fail
  go_ret
  exact ⟨rfl, hd⟩
theorem zacceptRun_any {W0 w : World} {S : Nat → Prop} {L : Nat} {s v : ByteArray} {t : St} (H : Lx W0 S w L s t) :
    Calls Tryf.prog 21 #[.pointer (some ⟨L, 0, none⟩), .string v] w fun e w' => e = .returned (.tuple #[]) ∧ Done W0 S w L s (acceptRun v s t) w' := by
  go_enter Tryf.func21, Tryf.ntmps21
  go_wp2_with fail
  refine (acceptRun_any H).mono ?_
  rintro e w1 ⟨rfl, hd⟩
  go_wp2_with fail
  go_end0
  exact ⟨rfl, hd⟩
theorem zskipSpaces_any {W0 w : World} {S : Nat → Prop} {L : Nat} {s : ByteArray} {t : St} (H : Lx W0 S w L s t) :
    Calls Tryf.prog 11 #[.pointer (some ⟨L, 0, none⟩)] w fun e w' => e = .returned (.tuple #[]) ∧ Done W0 S w L s (skipSpaces s t) w' := by
  go_enter Tryf.func11, Tryf.ntmps11
  go_wp2_with fail
  refine (skipSpaces_any H).mono ?_
  rintro e w1 ⟨rfl, hd⟩
  go_wp2_with fail
  go_end0
  exact ⟨rfl, hd⟩
theorem zstartByte_any {W0 w : World} {S : Nat → Prop} {L : Nat} {s : ByteArray} {t : St} (H : Lx W0 S w L s t) :
    Calls Tryf.prog 14 #[.pointer (some ⟨L, 0, none⟩)] w fun e w' => e = .returned (.int .i64 t.sb) ∧ w = w' := by
  obtain ⟨R, ev, hL, hR, hc, hr, he, l0, c0, c1, c2, c3, c4, c5, c6, c7, c8, c9, fz⟩ := H.opened
  have hsm := H.small
  obtain ⟨p1, p2, p3, p4⟩ := H.poss
  have p5 : t.er ≤ 1099511627776 := by omega
  have l1 : L < w.heap.size + 1 := by omega
  have l2 : L < w.heap.size + 1 + 1 := by omega
  have l3 : L < w.heap.size + 1 + 1 + 1 := by omega
  go_enter Tryf.func14, Tryf.ntmps14
  go_wp2_with fail
  go_ret
  exact ⟨rfl, rfl⟩
theorem zstartRune_any {W0 w : World} {S : Nat → Prop} {L : Nat} {s : ByteArray} {t : St} (H : Lx W0 S w L s t) :
    Calls Tryf.prog 15 #[.pointer (some ⟨L, 0, none⟩)] w fun e w' => e = .returned (.int .i64 t.sr) ∧ w = w' := by
  obtain ⟨R, ev, hL, hR, hc, hr, he, l0, c0, c1, c2, c3, c4, c5, c6, c7, c8, c9, fz⟩ := H.opened
  have hsm := H.small
  obtain ⟨p1, p2, p3, p4⟩ := H.poss
  have p5 : t.er ≤ 1099511627776 := by omega
  have l1 : L < w.heap.size + 1 := by omega
  have l2 : L < w.heap.size + 1 + 1 := by omega
  have l3 : L < w.heap.size + 1 + 1 + 1 := by omega
  go_enter Tryf.func15, Tryf.ntmps15
  go_wp2_with fail
  go_ret
  exact ⟨rfl, rfl⟩
theorem zendByte_any {W0 w : World} {S : Nat → Prop} {L : Nat} {s : ByteArray} {t : St} (H : Lx W0 S w L s t) :
    Calls Tryf.prog 12 #[.pointer (some ⟨L, 0, none⟩)] w fun e w' => e = .returned (.int .i64 t.eb) ∧ w = w' := by
  obtain ⟨R, ev, hL, hR, hc, hr, he, l0, c0, c1, c2, c3, c4, c5, c6, c7, c8, c9, fz⟩ := H.opened
  have hsm := H.small
  obtain ⟨p1, p2, p3, p4⟩ := H.poss
  have p5 : t.er ≤ 1099511627776 := by omega
  have l1 : L < w.heap.size + 1 := by omega
  have l2 : L < w.heap.size + 1 + 1 := by omega
  have l3 : L < w.heap.size + 1 + 1 + 1 := by omega
  go_enter Tryf.func12, Tryf.ntmps12
  go_wp2_with fail
  go_ret
  exact ⟨rfl, rfl⟩
theorem zendRune_any {W0 w : World} {S : Nat → Prop} {L : Nat} {s : ByteArray} {t : St} (H : Lx W0 S w L s t) :
    Calls Tryf.prog 13 #[.pointer (some ⟨L, 0, none⟩)] w fun e w' => e = .returned (.int .i64 t.er) ∧ w = w' := by
  obtain ⟨R, ev, hL, hR, hc, hr, he, l0, c0, c1, c2, c3, c4, c5, c6, c7, c8, c9, fz⟩ := H.opened
  have hsm := H.small
  obtain ⟨p1, p2, p3, p4⟩ := H.poss
  have p5 : t.er ≤ 1099511627776 := by omega
  have l1 : L < w.heap.size + 1 := by omega
  have l2 : L < w.heap.size + 1 + 1 := by omega
  have l3 : L < w.heap.size + 1 + 1 + 1 := by omega
  go_enter Tryf.func13, Tryf.ntmps13
  go_wp2_with fail
  go_ret
  exact ⟨rfl, rfl⟩

/-- New, then Reset: a lexer at the begin of s. -/
def start : St := { fresh with q := some .root }
/-- What making a lexer comes to: it is there, old blocks stand. -/
def Made (W0 w : World) (s : ByteArray) (t : St) (e : Ending) (w' : World) : Prop :=
  ∃ L S, e = .returned (.pointer (some ⟨L, 0, none⟩)) ∧ (∀ k, S k → w.heap.size ≤ k) ∧ Lx W0 S w' L s t ∧ Below w.heap.size w w'

theorem Made.done {W0 w w1 w2 : World} {s : ByteArray} {t : St} {S : Nat → Prop} {L : Nat} (h1 : ∀ k, S k → w.heap.size ≤ k) (hb : Below w.heap.size w w1) (hd : Done W0 S w1 L s t w2) : Made W0 w s t (.returned (.pointer (some ⟨L, 0, none⟩))) w2 := by
  obtain ⟨S', hS, H, hf⟩ := hd
  exact ⟨L, S', rfl, fun k hk => (hS k hk).elim (h1 k) (fun h => Nat.le_trans hb.size h), H, hb.trans (hf.below h1 hb.size)⟩

theorem znew_any {W0 w : World} (hT : Tabs W0) (hlow : Below W0.heap.size W0 w) (s : ByteArray) (hs : s.size ≤ 1099511627776) :
    Calls Tryf.prog 27 #[.string s] w (Made W0 w s start) := by
  go_enter Tryf.func27, Tryf.ntmps27
  go_wp2_with fail
  refine (new_any hT hlow).mono ?_
  rintro e w1 ⟨L, rfl, S, hS, H, hb⟩
  go_wp2_with fail
  refine (newSource_any s w1).mono ?_
  rintro e w2 ⟨rfl, xs, d, rfl⟩
  go_wp2_with fail
  refine (reset_any (H.keep (by repeat (first | exact Below.refl _ _ | apply below_drew | apply below_drewN | apply below_alloc | apply below_grow))) hs).mono ?_
  rintro e w3 ⟨rfl, hd⟩
  go_wp2_with fail
  go_ret
  exact Made.done hS (hb.trans ((grow_below _ _ _).mono hb.size)) hd

/-- k reads. -/
def nextN (s : ByteArray) : Nat → St → St
  | 0, t => t
  | k + 1, t => nextN s k (next s t)

theorem zzAt_any {W0 w : World} (hT : Tabs W0) (hlow : Below W0.heap.size W0 w) (s : ByteArray) (k : Int) (hs : s.size ≤ 1048576) (hk : k ≤ 2097152) :
    Calls Tryf.prog 9 #[.string s, .int .i64 k] w (Made W0 w s (nextN s k.toNat start)) := by
  go_enter Tryf.func9, Tryf.ntmps9
  go_wp2_with fail
  refine (znew_any hT hlow s (by omega)).mono ?_
  rintro e w1 ⟨L, S, rfl, hS, H, hb⟩
  go_wp2_with fail
  go_loopg [6] (k.toNat + 1) (fun g i wr => ∃ (j : Nat) (S1 : Nat → Prop) (t1 : St), i = .int .i64 j ∧ j ≤ k.toNat ∧ k.toNat < j + g ∧ (∀ i, S1 i → S i ∨ w1.heap.size ≤ i) ∧ Fr S w1 wr ∧ Lx W0 S1 wr L s t1 ∧ Hid (nextN s (k.toNat - j) t1 = nextN s k.toNat start))
  case atStart => exact ⟨0, S, start, rfl, by omega, by omega, fun _ h => .inl h, Fr.refl _ _, H, Lib.hid rfl⟩
  case round =>
    obtain ⟨j, S1, t1, rfl, hj, hg, hS1, hf, H1, heq⟩ := hrel
    by_cases hjk : (j : Int) < k
    · go_wp2_with fail
      refine (znext_any H1).mono ?_
      rintro e w2 ⟨rfl, S2, hS2, H2, hf2⟩
      go_wp2_with fail
      go_roundg (k.toNat - j)
      case measure => omega
      case rel =>
        refine ⟨j + 1, S2, _, by go_num, by omega, by omega, fun i hi => (hS2 i hi).elim (hS1 i) (fun h => .inr (Nat.le_trans hf.size h)), hf.trans hf2 hS1, H2, Lib.hid ?_⟩
        rw [← heq.out]
        have : k.toNat - j = (k.toNat - (j + 1)) + 1 := by omega
        rw [this]
        rfl
    · have hfin : Made W0 w s (nextN s k.toNat start) (.returned (.pointer (some ⟨L, 0, none⟩))) wr := by
        rw [← heq.out, show k.toNat - j = 0 by omega]
        exact Made.done hS hb ⟨S1, hS1, H1, hf⟩
      go_wp2_with fail
      go_ret
      exact hfin

end Go.Proofs.YteicfaehbndlcaaFmt
