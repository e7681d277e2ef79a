/-
  Walks: the queue's Len, grow (out of nothing), Enqueue, Dequeue.
-/
import Derived.Test.YtdpdgppjeekcmaaFmtBase
namespace Go.Proofs.YtdpdgppjeekcmaaFmt
open Go Go.Lib Go.RowKit Go.Proofs

theorem ringLen_any {S : Nat → Prop} {R : Nat} {toks : List Tok} {w : World} (hr : RingW S w R toks) :
    Calls Tryf.prog 35 #[.pointer (some ⟨R, 0, none⟩)] w fun e w' => e = .returned (.int .i64 toks.length) ∧ w = w' := by
  obtain ⟨dv, back, hR, h⟩ := hr
  have c2 : w.cell? ⟨R, 2, none⟩ = some (.int .i64 toks.length) := cell_of_block hR 2
  have HR := Lib.hid hR
  clear hR h
  go_enter Tryf.func35, Tryf.ntmps35
  go_wp2_with fail
  go_ret
  exact ⟨rfl, rfl⟩

/-- Ten zero tokens. -/
def row40 : Array Value := (List.replicate 10 [Value.int .i64 0, Value.int .i64 0, Value.string ⟨#[]⟩, Value.string ⟨#[]⟩]).flatten.toArray
theorem row40_size : row40.size = 40 := by kernel_rfl
set_option maxRecDepth 100000 in
theorem make10 (u : World) : (Instr.makeSlice 94 (.int .i64 10) (.int .i64 10)).run Tryf.prog u = .ok (.slice (some ⟨u.heap.size, 0, none⟩) 10 10) (u.alloc (.cells row40 67)) := by kernel_rfl

theorem heap_alloc_at {w : World} {o : Obj} {n : Nat} (h : n = w.heap.size) : (w.alloc o).heap[n]? = some o := by
  subst h
  show (w.heap.push o)[w.heap.size]? = some o
  simp

set_option maxRecDepth 100000 in
theorem ringGrow_first (R : Nat) (w : World) (hR : w.heap[R]? = some (.cells #[.slice none 0 0, .int .i64 0, .int .i64 0, .int .i64 10] 96 (0, 0))) :
    Calls Tryf.prog 101 #[.pointer (some ⟨R, 0, none⟩)] w fun e w' => e = .returned (.tuple #[]) ∧ ∃ D c, w.heap.size ≤ D ∧ D < w'.heap.size ∧ Array.size c = 40 ∧ w'.heap[D]? = some (.cells c 67 (0, 0)) ∧ OnlyL R 96 #[.slice (some ⟨D, 0, none⟩) 10 10, .int .i64 0, .int .i64 0, .int .i64 10] w w' := by
  have c0 : w.cell? ⟨R, 0, none⟩ = some (.slice none 0 0) := cell_of_block hR 0
  have c1 : w.cell? ⟨R, 1, none⟩ = some (.int .i64 0) := cell_of_block hR 1
  have c2 : w.cell? ⟨R, 2, none⟩ = some (.int .i64 0) := cell_of_block hR 2
  have c3 : w.cell? ⟨R, 3, none⟩ = some (.int .i64 10) := cell_of_block hR 3
  have fz := free_of_block hR
  have l0 : R < w.heap.size := (Array.getElem?_eq_some_iff.1 hR).1
  have l1 : R < w.heap.size + 1 := by omega
  have HR := Lib.hid hR
  clear hR
  go_enter Tryf.func101, Tryf.ntmps101
  go_wp2_with fail
  have hmk := make10
  go_region
  all_goals go_wp2_with fail
  all_goals go_end0
  all_goals refine ⟨rfl, w.heap.size, row40, Nat.le_refl _, by simp [World.alloc], row40_size, ?_, OnlyL.cast (by repeat (first | exact OnlyL.refl HR.out | apply OnlyL.setCell | apply OnlyL.drew | apply OnlyL.drewN | apply OnlyL.alloc)) ?_⟩
  all_goals first
    | (show (World.alloc _ _).heap[w.heap.size]? = _; exact heap_alloc_at (by simp [World.setCell]))
    | simp

/-- Four cells of a row of tokens set. -/
def set4 (c : Array Value) (p : Nat) (a b d e : Value) : Array Value := (((c.setIfInBounds (p * 4) a).setIfInBounds (p * 4 + 1) b).setIfInBounds (p * 4 + 2) d).setIfInBounds (p * 4 + 3) e
theorem set4_size (c : Array Value) (p : Nat) (a b d e : Value) : (set4 c p a b d e).size = c.size := by simp [set4]
theorem set4_same (c : Array Value) (p : Nat) (a b d e : Value) (h : p * 4 + 3 < c.size) (j : Nat) (hj : j < 4) : (set4 c p a b d e)[4 * p + j]? = [a, b, d, e][j]? := by
  have e0 : 4 * p = p * 4 := Nat.mul_comm _ _
  have cases4 : j = 0 ∨ j = 1 ∨ j = 2 ∨ j = 3 := by omega
  unfold set4
  rcases cases4 with rfl | rfl | rfl | rfl <;> simp [Array.getElem?_setIfInBounds, e0] <;> omega
theorem set4_other (c : Array Value) (p q : Nat) (a b d e : Value) (h : q ≠ p) (j : Nat) (hj : j < 4) : (set4 c p a b d e)[4 * q + j]? = c[4 * q + j]? := by
  unfold set4
  rw [Array.getElem?_setIfInBounds_ne (by omega), Array.getElem?_setIfInBounds_ne (by omega), Array.getElem?_setIfInBounds_ne (by omega), Array.getElem?_setIfInBounds_ne (by omega)]

end Go.Proofs.YtdpdgppjeekcmaaFmt
