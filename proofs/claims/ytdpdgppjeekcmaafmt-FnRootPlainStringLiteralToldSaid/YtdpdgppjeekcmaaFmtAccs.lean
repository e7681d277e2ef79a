/-
  What has come of the lexer's blocks, call by call; a block of one's own beside it.
-/
import Derived.Test.YtdpdgppjeekcmaaFmtJA
import Derived.Test.YtdpdgppjeekcmaaFmtAlnum
import Derived.Test.YtdpdgppjeekcmaaFmtJD
import Derived.Test.YtdpdgppjeekcmaaFmtRing
namespace Go.Proofs.YtdpdgppjeekcmaaFmt
open Go Go.Lib Go.RowKit Go.Proofs

/-- What has come of the lexer's blocks since w. -/
structure Acc (S : Nat → Prop) (w : World) (S2 : Nat → Prop) (w2 : World) : Prop where
  own : ∀ k, S2 k → S k ∨ w.heap.size ≤ k
  fr : Fr S w w2
theorem Acc.refl (S : Nat → Prop) (w : World) : Acc S w S w := ⟨fun _ h => .inl h, Fr.refl _ _⟩
theorem Acc.step {S S2 S3 : Nat → Prop} {w w2 w3 : World} (a : Acc S w S2 w2) (h : ∀ k, S3 k → S2 k ∨ w2.heap.size ≤ k) (f : Fr S2 w2 w3) : Acc S w S3 w3 :=
  ⟨fun k hk => (h k hk).elim (a.own k) (fun h => .inr (Nat.le_trans a.fr.size h)), a.fr.trans f a.own⟩
theorem Acc.below {S S2 : Nat → Prop} {w w2 w3 : World} (a : Acc S w S2 w2) (hb : Below w2.heap.size w2 w3) : Acc S w S2 w3 := a.step (fun _ h => .inl h) (Fr.of_below hb)
theorem Acc.done {W0 : World} {S S2 : Nat → Prop} {w w2 : World} {L : Nat} {s : ByteArray} {t : St} (a : Acc S w S2 w2) (H : Lx W0 S2 w2 L s t) : Done W0 S w L s t w2 := ⟨S2, a.own, H, a.fr⟩

theorem accept_t {v s : ByteArray} {t : St} (h : acceptB v s t = true) : accept v s t = next s t := by unfold accept; rw [if_pos h]
theorem accept_f {v s : ByteArray} {t : St} (h : acceptB v s t = false) : accept v s t = t := by unfold accept; rw [if_neg (by rw [h]; decide)]

theorem next_same (s : ByteArray) (t : St) : (next s t).sb = t.sb ∧ (next s t).sr = t.sr ∧ (next s t).err = t.err ∧ (next s t).toks = t.toks ∧ (next s t).q = t.q ∧ (next s t).dis = t.dis := by
  unfold next
  split <;> exact ⟨rfl, rfl, rfl, rfl, rfl, rfl⟩

/-- A block of one's own beside the lexer. -/
def Own (S : Nat → Prop) (w : World) (K : Nat) (c : Array Value) : Prop := (∃ T, w.heap[K]? = some (.cells c T (0, 0))) ∧ ¬ S K
theorem Own.made {W0 w w' : World} {S S' : Nat → Prop} {L : Nat} {s : ByteArray} {t : St} {c : Array Value} {T : TypeId} (H : Lx W0 S w L s t) (hS : ∀ k, S' k → S k ∨ (w.alloc (.cells c T)).heap.size ≤ k) (hf : Fr S (w.alloc (.cells c T)) w') : Own S' w' w.heap.size c := by
  have h0 : ¬ S w.heap.size := fun h => by have := H.lt _ h; omega
  have h1 : (w.alloc (.cells c T)).heap[w.heap.size]? = some (.cells c T (0, 0)) := heap_alloc_at rfl
  have h2 : w.heap.size < (w.alloc (.cells c T)).heap.size := (Array.getElem?_eq_some_iff.1 h1).1
  exact ⟨⟨T, (hf.block _ h2 h0).trans h1⟩, fun hk => (hS _ hk).elim h0 (fun h => by omega)⟩
theorem Own.below {S : Nat → Prop} {w w' : World} {K : Nat} {c : Array Value} (h : Own S w K c) (hb : Below w.heap.size w w') : Own S w' K c := by
  obtain ⟨⟨T, h0⟩, h1⟩ := h
  exact ⟨⟨T, (hb.block K (Array.getElem?_eq_some_iff.1 h0).1).trans h0⟩, h1⟩
theorem Own.keep {S S' : Nat → Prop} {w w' : World} {K : Nat} {c : Array Value} (h : Own S w K c) (hS : ∀ k, S' k → S k ∨ w.heap.size ≤ k) (hf : Fr S w w') : Own S' w' K c := by
  obtain ⟨⟨T, h0⟩, h1⟩ := h
  have hl := (Array.getElem?_eq_some_iff.1 h0).1
  exact ⟨⟨T, (hf.block K hl h1).trans h0⟩, fun hk => (hS _ hk).elim h1 (fun h => by omega)⟩
theorem Own.cell {S : Nat → Prop} {w : World} {K : Nat} {c : Array Value} (h : Own S w K c) (i : Nat) : w.cell? ⟨K, i, none⟩ = c[i]? := by
  obtain ⟨⟨T, h0⟩, _⟩ := h
  exact cell_of_block h0 i

end Go.Proofs.YtdpdgppjeekcmaaFmt
