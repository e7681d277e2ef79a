/-
  A call of Next as the laws of n003_74 see it; two lexers side by side.
-/
import Derived.Test.YtkplkccjeacniaaGreatFmtJG
namespace Go.Proofs.YtkplkccjeacniaaGreatFmt
open Go Go.Lib Go.RowKit Go.Proofs
open Go.Extern.Stop Go.Stop Go.Extern

/-- An error that is there. -/
def IsErr (T : TypeId) (x : Value) : Prop := (∀ wr, Sem.run Tryz.prog (binOp BinOp.neq 33 (.iface T x) Value.nilIface) wr = .ok (.bool true) wr) ∧ (∀ wr, Sem.run Tryz.prog (binOp BinOp.eql 33 (.iface T x) Value.nilIface) wr = .ok (.bool false) wr)
/-- A call of Next: a token, or none and an error. -/
def NextTwo (W0 : World) (S : Nat → Prop) (w : World) (L : Nat) (s : ByteArray) (t : St) (e : Ending) (w' : World) : Prop :=
  Done W0 S w L s (nextS s t).2 w' ∧ ((∃ k, (nextS s t).1 = some k ∧ e = .returned (.tuple #[tokVal k, .nilIface])) ∨ ((nextS s t).1 = none ∧ ∃ T x, e = .returned (.tuple #[zeroTok, .iface T x]) ∧ IsErr T x))
theorem next_two {F : Stop.Interp} {W0 w : World} {S : Nat → Prop} {L : Nat} {s : ByteArray} {t : St} (hF : F.answers W0.tape) (H : Lx W0 S w L s t) (hi : Inv2 s t) :
    Calls Tryz.prog 17 #[.pointer (some ⟨L, 0, none⟩)] w (NextTwo W0 S w L s t) := by
  refine (next_all hF H hi).mono ?_
  rintro e w' ⟨hD, h⟩
  refine ⟨hD, ?_⟩
  rcases h with h | ⟨h, _, E, rfl⟩ | ⟨h, _, rfl⟩
  · exact .inl h
  · exact .inr ⟨h, _, _, rfl, fun _ => by kernel_rfl, fun _ => by kernel_rfl⟩
  · exact .inr ⟨h, _, _, rfl, fun _ => by kernel_rfl, fun _ => by kernel_rfl⟩

/-- Two lexers side by side, two rows that grow, nothing shared. -/
structure Two (W w4 wr : World) (LA LB : Nat) (a b : ByteArray) (SA SB : Nat → Prop) (ta tb : St) (va vb : Value) (la lb : List Tok) : Prop where
  ha : Lx W SA wr LA a ta
  hb : Lx W SB wr LB b tb
  disj : ∀ k, SA k → ¬ SB k
  oa : wr.ownsRow w4.heap.size 43 4 va la.length (la.flatMap tokCells)
  ob : wr.ownsRow w4.heap.size 43 4 vb lb.length (lb.flatMap tokCells)
  a1 : ∀ g, va.ownBlock = some g → ¬ SA g ∧ ¬ SB g
  b1 : ∀ g, vb.ownBlock = some g → ¬ SA g ∧ ¬ SB g
  ab : ∀ g, va.ownBlock = some g → vb.ownBlock ≠ some g
  sa : ∀ k, SA k → w4.heap.size ≤ k
  sb : ∀ k, SB k → w4.heap.size ≤ k
  low : Below w4.heap.size w4 wr
  base : W.heap.size ≤ w4.heap.size

theorem Two.swap {W w4 wr : World} {LA LB : Nat} {a b : ByteArray} {SA SB : Nat → Prop} {ta tb : St} {va vb : Value} {la lb : List Tok} (h : Two W w4 wr LA LB a b SA SB ta tb va vb la lb) : Two W w4 wr LB LA b a SB SA tb ta vb va lb la :=
  ⟨h.hb, h.ha, fun k hb ha => h.disj k ha hb, h.ob, h.oa, fun g hg => (h.b1 g hg).symm, fun g hg => (h.a1 g hg).symm, fun g hb ha => h.ab g ha hb, h.sb, h.sa, h.low, h.base⟩
theorem Two.below {W w4 wr w' : World} {LA LB : Nat} {a b : ByteArray} {SA SB : Nat → Prop} {ta tb : St} {va vb : Value} {la lb : List Tok} (h : Two W w4 wr LA LB a b SA SB ta tb va vb la lb) (hb : Below wr.heap.size wr w') : Two W w4 w' LA LB a b SA SB ta tb va vb la lb :=
  ⟨h.ha.keep hb, h.hb.keep hb, h.disj, own_keep h.oa (fun k hk => hb.block k (h.oa.lt k hk).2), own_keep h.ob (fun k hk => hb.block k (h.ob.lt k hk).2), h.a1, h.b1, h.ab, h.sa, h.sb, h.low.trans (hb.mono h.low.size), h.base⟩
theorem Two.call {W w4 wr w' : World} {LA LB : Nat} {a b : ByteArray} {SA SB : Nat → Prop} {ta tb ta' : St} {va vb : Value} {la lb : List Tok} (h : Two W w4 wr LA LB a b SA SB ta tb va vb la lb) (hd : Done W SA wr LA a ta' w') : ∃ SA', Two W w4 w' LA LB a b SA' SB ta' tb va vb la lb := by
  obtain ⟨SA', hS, H, hf⟩ := hd
  refine ⟨SA', H, h.hb.keepFr hf (fun k hb ha => h.disj k ha hb) (fun k ha => Nat.le_trans h.base (h.sa k ha)), fun k ha hb => ?_, own_keep h.oa (fun k hk => hf.block k (h.oa.lt k hk).2 (h.a1 k hk).1), own_keep h.ob (fun k hk => hf.block k (h.ob.lt k hk).2 (h.b1 k hk).1), fun g hg => ⟨fun ha => ?_, (h.a1 g hg).2⟩, fun g hg => ⟨fun ha => ?_, (h.b1 g hg).2⟩, h.ab, fun k ha => ?_, h.sb, h.low.trans (hf.below h.sa h.low.size), h.base⟩
  · rcases hS k ha with h1 | h1
    · exact h.disj k h1 hb
    · have := h.hb.lt k hb; omega
  · rcases hS g ha with h1 | h1
    · exact (h.a1 g hg).1 h1
    · have := (h.oa.lt g hg).2; omega
  · rcases hS g ha with h1 | h1
    · exact (h.b1 g hg).1 h1
    · have := (h.ob.lt g hg).2; omega
  · rcases hS k ha with h1 | h1
    · exact h.sa k h1
    · exact Nat.le_trans h.low.size h1
theorem Two.push {W w4 wr w' : World} {LA LB : Nat} {a b : ByteArray} {SA SB : Nat → Prop} {ta tb : St} {va vb va' : Value} {la lb : List Tok} {k : Tok} (h : Two W w4 wr LA LB a b SA SB ta tb va vb la lb)
    (hown' : w'.ownsRow w4.heap.size 43 4 va' (la.length + 1) (la.flatMap tokCells ++ tokCells k)) (hf : Fr (fun g => va.ownBlock = some g) wr w') (hblk : ∀ g, va'.ownBlock = some g → va.ownBlock = some g ∨ wr.heap.size ≤ g) :
    Two W w4 w' LA LB a b SA SB ta tb va' vb (la ++ [k]) lb := by
  have hva : ∀ g, va.ownBlock = some g → w4.heap.size ≤ g := fun g hg => (h.oa.lt g hg).1
  refine ⟨h.ha.keepFr hf (fun k hs hg => (h.a1 k hg).1 hs) (fun k hg => Nat.le_trans h.base (hva k hg)), h.hb.keepFr hf (fun k hs hg => (h.a1 k hg).2 hs) (fun k hg => Nat.le_trans h.base (hva k hg)), h.disj, ?_, own_keep h.ob (fun k hk => hf.block k (h.ob.lt k hk).2 (fun hg => h.ab k hg hk)), fun g hg => ?_, fun g hg => h.b1 g hg, fun g hg hb => ?_, h.sa, h.sb, h.low.trans (hf.below hva h.low.size), h.base⟩
  · rw [flatMap_snoc, List.length_append]
    exact hown'
  · rcases hblk g hg with h1 | h1
    · exact h.a1 g h1
    · exact ⟨fun hs => by have := h.ha.lt g hs; omega, fun hs => by have := h.hb.lt g hs; omega⟩
  · rcases hblk g hg with h1 | h1
    · exact h.ab g h1 hb
    · have := (h.ob.lt g hb).2; omega

/-- How far one of the two has come: in the i-th round, or done. -/
def Side (s : ByteArray) (t : St) (l : List Tok) (u : St) (l1 : List Tok) (i : Nat) (d : Bool) : Prop :=
  Inv s t ∧ ((d = true ∧ l1 = l) ∨ (d = false ∧ l1.length = i ∧ ∃ l2, l1 ++ l2 = l ∧ drain s (l2.length + 1) t = (l2, u)))
theorem side_start {s : ByteArray} {t : St} {l : List Tok} {u : St} (hi : Inv s t) (h : drain s (l.length + 1) t = (l, u)) : Side s t l u [] 0 false := ⟨hi, .inr ⟨rfl, rfl, l, rfl, h⟩⟩
theorem side_lt {s : ByteArray} {t : St} {l : List Tok} {u : St} {l1 : List Tok} {i : Nat} (h : Side s t l u l1 i false) : i ≤ l.length ∧ l1.length = i := by
  obtain ⟨_, ⟨h, _⟩ | ⟨_, h, l2, h2, _⟩⟩ := h
  · cases h
  · have := congrArg List.length h2
    rw [List.length_append] at this
    omega
theorem side_next {s : ByteArray} {t : St} {l : List Tok} {u : St} {l1 : List Tok} {i : Nat} {k : Tok} (h : Side s t l u l1 i false) (hk : (nextS s t).1 = some k) : Side s (nextS s t).2 l u (l1 ++ [k]) (i + 1) false := by
  obtain ⟨hi, ⟨h, _⟩ | ⟨_, hl, l2, hll, hd⟩⟩ := h
  · cases h
  refine ⟨inv_nextS hi, .inr ⟨rfl, by rw [List.length_append, hl]; rfl, ?_⟩⟩
  cases l2 with
  | nil =>
    rw [drain_nil hd] at hk
    cases hk
  | cons k' l3 =>
    obtain ⟨t2, hn, hd2⟩ := drain_cons hd
    rw [hn] at hk ⊢
    cases hk
    exact ⟨l3, by rw [← hll]; simp, hd2⟩
theorem side_none {s : ByteArray} {t : St} {l : List Tok} {u : St} {l1 : List Tok} {i : Nat} (h : Side s t l u l1 i false) (hk : (nextS s t).1 = none) (j : Nat) : Side s (nextS s t).2 l u l1 j true := by
  obtain ⟨hi, ⟨h, _⟩ | ⟨_, hl, l2, hll, hd⟩⟩ := h
  · cases h
  refine ⟨inv_nextS hi, .inl ⟨rfl, ?_⟩⟩
  cases l2 with
  | nil => rw [← hll, List.append_nil]
  | cons k' l3 =>
    obtain ⟨t2, hn, hd2⟩ := drain_cons hd
    rw [hn] at hk
    cases hk
theorem side_done {s : ByteArray} {t : St} {l : List Tok} {u : St} {l1 : List Tok} {i : Nat} (h : Side s t l u l1 i true) (j : Nat) : Side s t l u l1 j true := by
  obtain ⟨hi, ⟨_, h⟩ | ⟨h, _⟩⟩ := h
  · exact ⟨hi, .inl ⟨rfl, h⟩⟩
  · cases h
theorem side_all {s : ByteArray} {t : St} {l : List Tok} {u : St} {l1 : List Tok} {i : Nat} (h : Side s t l u l1 i true) : l1 = l := by
  obtain ⟨_, ⟨_, h⟩ | ⟨h, _⟩⟩ := h
  · exact h
  · cases h

end Go.Proofs.YtkplkccjeacniaaGreatFmt
