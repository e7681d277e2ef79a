/-
  What the laws of n003_66 share.
-/
import Derived.Test.YtoopnllpocioiaaGreatFmtZ66b
namespace Go.Proofs.YtoopnllpocioiaaGreatFmt
open Go Go.Lib Go.RowKit Go.Proofs

theorem advance_int {W0 w : World} {S : Nat → Prop} {L : Nat} {s : ByteArray} {a k : Nat} {l : List Tok} (H : Lx W0 S w L s (mk s a k l)) (x : Int) (k' : Nat) (hx : (k : Int) + x = k') (hm : x ≤ 2097152) (h0 : 0 ≤ x) :
    Calls Tryz.prog 16 #[.pointer (some ⟨L, 0, none⟩), .int .i64 x] w fun e w' => e = .returned (.tuple #[]) ∧ Done W0 S w L s (mk s a k' l) w' := by
  obtain ⟨m, rfl⟩ := Int.eq_ofNat_of_zero_le h0
  obtain rfl : k' = k + m := by omega
  exact advance_any H m (by omega)
theorem minCnt_any (s : ByteArray) (i : Nat) (w : World) : Calls Tryz.prog 13 #[.int .i64 i, .int .i64 (runes s)] w fun e w' => e = .returned (.int .i64 (cnts s i)) ∧ w = w' := by
  rw [cnts_min]
  exact minInt_any i (runes s) w
theorem byteCnt_any (s : ByteArray) (i : Nat) (w : World) (hs : s.size ≤ 1048576) :
    Calls Tryz.prog 14 #[.string s, .int .i64 (cnts s i)] w fun e w' => e = .returned (.int .i64 (offs s i)) ∧ Below w.heap.size w w' := by
  have := byteOffset_any s (cnts s i) w hs
  rw [cnts_min, offs_min] at this
  rw [cnts_min]
  exact this

def SaysBool (w : World) (e : Ending) (w' : World) : Prop := ∃ b, e = .returned (.bool b) ∧ w = w'

/-- A token of one's own beside the lexer. -/
structure Beside (S : Nat → Prop) (w : World) (K : Nat) (x : Tok) : Prop where
  own : w.heap[K]? = some (.cells #[.int .i64 x.frm, .int .i64 x.to, .string x.kind, .string x.value] 35 (0, 0))
  not : ¬ S K
theorem Beside.made {W0 w : World} {S : Nat → Prop} {L : Nat} {s : ByteArray} {t : St} (H : Lx W0 S w L s t) (x : Tok) : Beside S (w.alloc (.cells #[.int .i64 x.frm, .int .i64 x.to, .string x.kind, .string x.value] 35)) w.heap.size x :=
  ⟨heap_alloc_at rfl, fun h => by have := H.lt _ h; omega⟩
theorem Beside.lt {S : Nat → Prop} {w : World} {K : Nat} {x : Tok} (h : Beside S w K x) : K < w.heap.size := (Array.getElem?_eq_some_iff.1 h.own).1
theorem Beside.keep {S S' : Nat → Prop} {w w' : World} {K : Nat} {x : Tok} (h : Beside S w K x) (hS : ∀ k, S' k → S k ∨ w.heap.size ≤ k) (hf : Fr S w w') : Beside S' w' K x :=
  ⟨(hf.block K h.lt h.not).trans h.own, fun hk => (hS K hk).elim h.not (fun hh => by have := h.lt; omega)⟩
theorem Beside.below {S : Nat → Prop} {w w' : World} {K : Nat} {x : Tok} (h : Beside S w K x) (hb : Below w.heap.size w w') : Beside S w' K x := ⟨(hb.block K h.lt).trans h.own, h.not⟩
theorem Beside.cells {S : Nat → Prop} {w : World} {K : Nat} {x : Tok} (h : Beside S w K x) : w.cell? ⟨K, 0, none⟩ = some (.int .i64 x.frm) ∧ w.cell? ⟨K, 1, none⟩ = some (.int .i64 x.to) ∧ w.cell? ⟨K, 2, none⟩ = some (.string x.kind) ∧ w.cell? ⟨K, 3, none⟩ = some (.string x.value) :=
  ⟨cell_of_block h.own 0, cell_of_block h.own 1, cell_of_block h.own 2, cell_of_block h.own 3⟩

theorem four_below {K : Nat} {v0 v1 v2 v3 : Value} {W u w' : World} (h : u.cell? ⟨K, 0, none⟩ = some v0 ∧ u.cell? ⟨K, 1, none⟩ = some v1 ∧ u.cell? ⟨K, 2, none⟩ = some v2 ∧ u.cell? ⟨K, 3, none⟩ = some v3 ∧ Below W.heap.size W u) (hb : Below u.heap.size u w') :
    w'.cell? ⟨K, 0, none⟩ = some v0 ∧ w'.cell? ⟨K, 1, none⟩ = some v1 ∧ w'.cell? ⟨K, 2, none⟩ = some v2 ∧ w'.cell? ⟨K, 3, none⟩ = some v3 ∧ Below W.heap.size W w' := by
  obtain ⟨h0, h1, h2, h3, h4⟩ := h
  have f : ∀ {o : Nat} {v : Value}, u.cell? ⟨K, o, none⟩ = some v → w'.cell? ⟨K, o, none⟩ = some v := fun {o v} h => by
    rw [← h]
    unfold World.cell?
    rw [hb.block K (World.block_lt_of_cell? u ⟨K, o, none⟩ h)]
  exact ⟨f h0, f h1, f h2, f h3, h4.trans (hb.mono h4.size)⟩

end Go.Proofs.YtoopnllpocioiaaGreatFmt
