/-
  Walks: the queue's Enqueue and Dequeue.
-/
import Derived.Test.YtdpdgppjeekcmaaFmtRing
import Derived.BigRegion
namespace Go.Proofs.YtdpdgppjeekcmaaFmt
open Go Go.Lib Go.RowKit Go.Proofs

def tokVal (k : Tok) : Value := .agg #[.int .i64 k.frm, .int .i64 k.to, .string k.kind, .string k.value]

set_option maxHeartbeats 1000000 in
set_option maxRecDepth 100000 in
/-- Enqueue onto a row that lies. -/
theorem enqueue_full (R D back n : Nat) (c : Array Value) (k : Tok) (w : World) (hR : w.heap[R]? = some (.cells #[.slice (some ⟨D, 0, none⟩) 10 10, .int .i64 back, .int .i64 n, .int .i64 10] 96 (0, 0)))
    (hD : w.heap[D]? = some (.cells c 67 (0, 0))) (hcs : c.size = 40) (hb : back < 10) (hn : n ≤ 9) :
    Calls Tryf.prog 78 #[.pointer (some ⟨R, 0, none⟩), tokVal k] w fun e w' => e = .returned (.tuple #[]) ∧
      ∃ w1, OnlyL D 67 (set4 c ((back + n) % 10) (.int .i64 k.frm) (.int .i64 k.to) (.string k.kind) (.string k.value)) w w1 ∧ OnlyL R 96 #[.slice (some ⟨D, 0, none⟩) 10 10, .int .i64 back, .int .i64 (n + 1 : Nat), .int .i64 10] w1 w' := by
  have c0 : w.cell? ⟨R, 0, none⟩ = some (.slice (some ⟨D, 0, none⟩) 10 10) := cell_of_block hR 0
  have c1 : w.cell? ⟨R, 1, none⟩ = some (.int .i64 back) := cell_of_block hR 1
  have c2 : w.cell? ⟨R, 2, none⟩ = some (.int .i64 n) := cell_of_block hR 2
  have fzR := free_of_block hR
  have fzD := free_of_block hD
  have l0 : R < w.heap.size := (Array.getElem?_eq_some_iff.1 hR).1
  have l1 : R < w.heap.size + 1 := by omega
  have m0 : D < w.heap.size := (Array.getElem?_eq_some_iff.1 hD).1
  have m1 : D < w.heap.size + 1 := by omega
  have hRD : R ≠ D := by intro e; rw [e, hD] at hR; exact kinds_ne (by decide) hR
  obtain ⟨p, hp⟩ : ∃ p, (back + n) % 10 = p := ⟨_, rfl⟩
  have hp10 : p < 10 := by omega
  rw [hp]
  have hex : ∀ j, j < 40 → ∃ v, w.cell? ⟨D, j, none⟩ = some v := fun j hj => ⟨_, (cell_of_block hD j).trans (Array.getElem?_eq_getElem (by rw [hcs]; exact hj))⟩
  obtain ⟨v0, d0⟩ := hex (p * 4) (by omega)
  obtain ⟨v1, d1⟩ := hex (p * 4 + 1) (by omega)
  obtain ⟨v2, d2⟩ := hex (p * 4 + 2) (by omega)
  obtain ⟨v3, d3⟩ := hex (p * 4 + 3) (by omega)
  have e10 : ((n : Int) == 10) = false := by simp; omega
  have hpi : ((back : Int) + (n : Int)) % 10 = (p : Int) := by omega
  have n0 : (0 : Int) ≤ (n : Int) := by omega
  have k0 : (0 : Int) ≤ (p : Int) := by omega
  have k1 : (p : Int) < 10 := by omega
  have bb0 : (0 : Int) ≤ (back : Int) := by omega
  have bb1 : (back : Int) < 10 := by omega
  have nn1 : (n : Int) ≤ 9 := by omega
  have HR := Lib.hid hR
  have HD := Lib.hid hD
  clear hR hD hex hcs hp
  unfold tokVal
  go_enter Tryf.func78, Tryf.ntmps78
  go_wp2_with fail
  go_region
  all_goals go_wp2_with fail
  all_goals go_region
  all_goals go_wp2_with fail
  all_goals go_region
  all_goals go_wp2_with fail
  all_goals go_end0
  all_goals
    have ho1 : OnlyL D 67 (set4 c p (.int .i64 k.frm) (.int .i64 k.to) (.string k.kind) (.string k.value)) w ((((w.setCell ⟨D, p * 4, none⟩ (.int .i64 k.frm)).setCell ⟨D, p * 4 + 1, none⟩ (.int .i64 k.to)).setCell ⟨D, p * 4 + 2, none⟩ (.string k.kind)).setCell ⟨D, p * 4 + 3, none⟩ (.string k.value)) :=
      ((((OnlyL.refl HD.out).setCell (p * 4) _).setCell (p * 4 + 1) _).setCell (p * 4 + 2) _).setCell (p * 4 + 3) _
    obtain ⟨w1, hw1⟩ : ∃ x, x = ((((w.setCell ⟨D, p * 4, none⟩ (.int .i64 k.frm)).setCell ⟨D, p * 4 + 1, none⟩ (.int .i64 k.to)).setCell ⟨D, p * 4 + 2, none⟩ (.string k.kind)).setCell ⟨D, p * 4 + 3, none⟩ (.string k.value)) := ⟨_, rfl⟩
    rw [← hw1] at ho1 ⊢
    clear hw1
    refine ⟨rfl, w1, ho1, OnlyL.cast (by repeat (first | apply OnlyL.setCell | apply OnlyL.drew | apply OnlyL.drewN | apply OnlyL.alloc | exact OnlyL.refl ((ho1.others R l0 hRD).trans HR.out))) ?_⟩
    simp

set_option maxHeartbeats 1000000 in
set_option maxRecDepth 100000 in
/-- Enqueue onto nothing: the row is made first. -/
theorem enqueue_nil (R : Nat) (k : Tok) (w : World) (hR : w.heap[R]? = some (.cells #[.slice none 0 0, .int .i64 0, .int .i64 0, .int .i64 10] 96 (0, 0))) :
    Calls Tryf.prog 78 #[.pointer (some ⟨R, 0, none⟩), tokVal k] w fun e w' => e = .returned (.tuple #[]) ∧
      ∃ D c w1 w2, w.heap.size ≤ D ∧ D < w1.heap.size ∧ Array.size c = 40 ∧ OnlyL R 96 #[.slice (some ⟨D, 0, none⟩) 10 10, .int .i64 0, .int .i64 0, .int .i64 10] w w1 ∧
        OnlyL D 67 (set4 c 0 (.int .i64 k.frm) (.int .i64 k.to) (.string k.kind) (.string k.value)) w1 w2 ∧ OnlyL R 96 #[.slice (some ⟨D, 0, none⟩) 10 10, .int .i64 0, .int .i64 1, .int .i64 10] w2 w' := by
  have c0 : w.cell? ⟨R, 0, none⟩ = some (.slice none 0 0) := cell_of_block hR 0
  have c2 : w.cell? ⟨R, 2, none⟩ = some (.int .i64 0) := cell_of_block hR 2
  have l0 : R < w.heap.size := (Array.getElem?_eq_some_iff.1 hR).1
  have l1 : R < w.heap.size + 1 := by omega
  have HR := Lib.hid hR
  clear hR
  unfold tokVal
  go_enter Tryf.func78, Tryf.ntmps78
  go_wp2_with fail
  go_region
  all_goals go_wp2_with fail
  have hR1 : ((w.alloc (.cells #[.int .i64 k.frm, .int .i64 k.to, .string k.kind, .string k.value] 67)).drew).heap[R]? = some (.cells #[.slice none 0 0, .int .i64 0, .int .i64 0, .int .i64 10] 96 (0, 0)) := (Below.heap_alloc _ _ _ l0).trans HR.out
  refine (ringGrow_first R _ hR1).mono ?_
  rintro e w1 ⟨rfl, D, c, hD0, hD1, hcs, hD, ho1⟩
  have g0 : w1.cell? ⟨w.heap.size, 0, none⟩ = some (.int .i64 k.frm) := ho1.cell (by simp) (by show w.heap.size ≠ R; omega)
  have g1 : w1.cell? ⟨w.heap.size, 1, none⟩ = some (.int .i64 k.to) := ho1.cell (by simp) (by show w.heap.size ≠ R; omega)
  have g2 : w1.cell? ⟨w.heap.size, 2, none⟩ = some (.string k.kind) := ho1.cell (by simp) (by show w.heap.size ≠ R; omega)
  have g3 : w1.cell? ⟨w.heap.size, 3, none⟩ = some (.string k.value) := ho1.cell (by simp) (by show w.heap.size ≠ R; omega)
  have hR2 : w1.heap[R]? = _ := ho1.own
  have r0 : w1.cell? ⟨R, 0, none⟩ = some (.slice (some ⟨D, 0, none⟩) 10 10) := cell_of_block hR2 0
  have r1 : w1.cell? ⟨R, 1, none⟩ = some (.int .i64 0) := cell_of_block hR2 1
  have r2 : w1.cell? ⟨R, 2, none⟩ = some (.int .i64 0) := cell_of_block hR2 2
  have fzR := free_of_block hR2
  have fzD := free_of_block hD
  have hex : ∀ j, j < 40 → ∃ v, w1.cell? ⟨D, j, none⟩ = some v := fun j hj => ⟨_, (cell_of_block hD j).trans (Array.getElem?_eq_getElem (by rw [hcs]; exact hj))⟩
  obtain ⟨v0, d0⟩ := hex 0 (by omega)
  obtain ⟨v1, d1⟩ := hex 1 (by omega)
  obtain ⟨v2, d2⟩ := hex 2 (by omega)
  obtain ⟨v3, d3⟩ := hex 3 (by omega)
  have hDs : w.heap.size + 1 ≤ D := by simpa using hD0
  have hRD : R ≠ D := by omega
  have lR : R < w1.heap.size := (Array.getElem?_eq_some_iff.1 hR2).1
  have HR2 := Lib.hid hR2
  have HD := Lib.hid hD
  have Hcs := Lib.hid hcs
  have HO := Lib.hid ho1
  clear hR2 hD hcs ho1 hR1 hex
  go_wp2_with fail
  go_region
  all_goals go_wp2_with fail
  all_goals go_region
  all_goals go_wp2_with fail
  all_goals go_end0
  all_goals
    have ho2 : OnlyL D 67 (set4 c 0 (.int .i64 k.frm) (.int .i64 k.to) (.string k.kind) (.string k.value)) w1 ((((w1.setCell ⟨D, 0, none⟩ (.int .i64 k.frm)).setCell ⟨D, 1, none⟩ (.int .i64 k.to)).setCell ⟨D, 2, none⟩ (.string k.kind)).setCell ⟨D, 3, none⟩ (.string k.value)) :=
      ((((OnlyL.refl HD.out).setCell 0 _).setCell 1 _).setCell 2 _).setCell 3 _
    obtain ⟨w2, hw2⟩ : ∃ x, x = ((((w1.setCell ⟨D, 0, none⟩ (.int .i64 k.frm)).setCell ⟨D, 1, none⟩ (.int .i64 k.to)).setCell ⟨D, 2, none⟩ (.string k.kind)).setCell ⟨D, 3, none⟩ (.string k.value)) := ⟨_, rfl⟩
    rw [← hw2] at ho2 ⊢
    clear hw2
    refine ⟨rfl, D, c, w1, w2, by omega, hD1, Hcs.out, (((OnlyL.refl HR.out).alloc _).drew).trans HO.out, ho2, OnlyL.cast (by repeat (first | apply OnlyL.setCell | apply OnlyL.drew | apply OnlyL.drewN | apply OnlyL.alloc | exact OnlyL.refl ((ho2.others R lR hRD).trans HR2.out))) ?_⟩
    simp

/-- Enqueue: the token stands last. -/
theorem enqueue_any {S : Nat → Prop} {R : Nat} {toks : List Tok} {w : World} (hr : RingW S w R toks) (hlt : ∀ k, S k → k < w.heap.size) (hSR : S R) (hn : toks.length ≤ 9) (k : Tok) :
    Calls Tryf.prog 78 #[.pointer (some ⟨R, 0, none⟩), tokVal k] w fun e w' => e = .returned (.tuple #[]) ∧ RDone S R (toks ++ [k]) w w' := by
  obtain ⟨dv, back, hR, h⟩ := hr
  rcases h with ⟨rfl, rfl, rfl⟩ | ⟨D, c, rfl, hS, hD, hcs, hb, hn10, ht⟩
  · refine (enqueue_nil R k w hR).mono ?_
    rintro e w' ⟨rfl, D, c, w1, w2, hD0, hD1, hcs, ho1, ho2, ho3⟩
    have lR : R < w.heap.size := hlt R hSR
    have hRD : R ≠ D := by omega
    have hlast : w'.heap[D]? = some (.cells (set4 c 0 (.int .i64 k.frm) (.int .i64 k.to) (.string k.kind) (.string k.value)) 67 (0, 0)) := (ho3.others D (Nat.lt_of_lt_of_le hD1 ho2.size) (fun e => hRD e.symm)).trans ho2.own
    refine ⟨rfl, fun i => S i ∨ i = D, fun i hi => .inl hi, fun i hi => hi.elim .inl (fun e => .inr (e ▸ hD0)), fun i hi => ?_, ⟨ho3.os.trans (ho2.os.trans ho1.os), ho3.tape.trans (ho2.tape.trans ho1.tape), ho3.output.trans (ho2.output.trans ho1.output), Nat.le_trans ho1.size (Nat.le_trans ho2.size ho3.size), fun i hi hiR _ => ?_⟩, .slice (some ⟨D, 0, none⟩) 10 10, 0, ?_, .inr ⟨D, _, rfl, .inr rfl, hlast, by rw [set4_size]; exact hcs, by decide, by simp, fun i x hx j hj => ?_⟩⟩
    · rcases hi with hi | hi
      · exact Nat.lt_of_lt_of_le (hlt i hi) (Nat.le_trans ho1.size (Nat.le_trans ho2.size ho3.size))
      · rw [hi]; exact Nat.lt_of_lt_of_le hD1 (Nat.le_trans ho2.size ho3.size)
    · have i1 : i < w1.heap.size := Nat.lt_of_lt_of_le hi ho1.size
      exact (ho3.others i (Nat.lt_of_lt_of_le i1 ho2.size) hiR).trans ((ho2.others i i1 (by omega)).trans (ho1.others i hi hiR))
    · exact ho3.own
    · have hi0 : i = 0 := by
        rcases i with _ | i
        · rfl
        · simp at hx
      subst hi0
      have hxk : x = k := by simpa using hx.symm
      subst hxk
      have := set4_same c 0 (.int .i64 x.frm) (.int .i64 x.to) (.string x.kind) (.string x.value) (by rw [hcs]; decide) j hj
      exact this
  · refine (enqueue_full R D back toks.length c k w hR hD hcs hb hn).mono ?_
    rintro e w' ⟨rfl, w1, ho1, ho2⟩
    have lR : R < w.heap.size := hlt R hSR
    have hRD : R ≠ D := by intro e; rw [e, hD] at hR; exact kinds_ne (by decide) hR
    have hlast := (ho2.others D (Nat.lt_of_lt_of_le (hlt D hS) ho1.size) (fun e => hRD e.symm)).trans ho1.own
    refine ⟨rfl, S, fun _ h => h, fun _ h => .inl h, fun i hi => Nat.lt_of_lt_of_le (hlt i hi) (Nat.le_trans ho1.size ho2.size), ⟨ho2.os.trans ho1.os, ho2.tape.trans ho1.tape, ho2.output.trans ho1.output, Nat.le_trans ho1.size ho2.size, fun i hi hiR hc => ?_⟩, .slice (some ⟨D, 0, none⟩) 10 10, back, ?_, .inr ⟨D, _, rfl, hS, hlast, by rw [set4_size]; exact hcs, hb, by simp; omega, fun i x hx j hj => ?_⟩⟩
    · have hiD : i ≠ D := fun e => hc c (e ▸ hS) (e ▸ hD)
      exact (ho2.others i (Nat.lt_of_lt_of_le hi ho1.size) hiR).trans (ho1.others i hi hiD)
    · rw [ho2.own]; simp
    · by_cases hil : i < toks.length
      · rw [List.getElem?_append_left hil] at hx
        have hil2 : i < 10 := by omega
        rw [set4_other _ _ _ _ _ _ _ (by omega) j hj]
        exact ht i x hx j hj
      · have hi2 : i = toks.length := by
          have := (List.getElem?_eq_some_iff.1 hx).1
          simp at this
          omega
        subst hi2
        have hxk : x = k := by simpa using hx.symm
        subst hxk
        exact set4_same c _ (.int .i64 x.frm) (.int .i64 x.to) (.string x.kind) (.string x.value) (by rw [hcs]; omega) j hj

set_option maxHeartbeats 2000000 in
set_option maxRecDepth 100000 in
theorem dequeue_some (R D back n : Nat) (c : Array Value) (k : Tok) (w : World) (hR : w.heap[R]? = some (.cells #[.slice (some ⟨D, 0, none⟩) 10 10, .int .i64 back, .int .i64 (n + 1 : Nat), .int .i64 10] 96 (0, 0)))
    (hD : w.heap[D]? = some (.cells c 67 (0, 0))) (hcs : c.size = 40) (hb : back < 10) (hn : n ≤ 9)
    (q0 : c[back * 4]? = some (.int .i64 k.frm)) (q1 : c[back * 4 + 1]? = some (.int .i64 k.to)) (q2 : c[back * 4 + 2]? = some (.string k.kind)) (q3 : c[back * 4 + 3]? = some (.string k.value)) :
    Calls Tryf.prog 36 #[.pointer (some ⟨R, 0, none⟩)] w fun e w' => e = .returned (.tuple #[tokVal k, .bool true]) ∧
      ∃ w1, OnlyL D 67 (set4 c back (.int .i64 0) (.int .i64 0) (.string ⟨#[]⟩) (.string ⟨#[]⟩)) w w1 ∧ OnlyL R 96 #[.slice (some ⟨D, 0, none⟩) 10 10, .int .i64 ((back + 1) % 10 : Nat), .int .i64 (n : Nat), .int .i64 10] w1 w' := by
  have c0 : w.cell? ⟨R, 0, none⟩ = some (.slice (some ⟨D, 0, none⟩) 10 10) := cell_of_block hR 0
  have c1 : w.cell? ⟨R, 1, none⟩ = some (.int .i64 back) := cell_of_block hR 1
  have c2 : w.cell? ⟨R, 2, none⟩ = some (.int .i64 ((n : Int) + 1)) := cell_of_block hR 2
  have fzR := free_of_block hR
  have fzD := free_of_block hD
  have l0 : R < w.heap.size := (Array.getElem?_eq_some_iff.1 hR).1
  have l1 : R < w.heap.size + 1 := by omega
  have m0 : D < w.heap.size := (Array.getElem?_eq_some_iff.1 hD).1
  have m1 : D < w.heap.size + 1 := by omega
  have hRD : R ≠ D := by intro e; rw [e, hD] at hR; exact kinds_ne (by decide) hR
  have d0 : w.cell? ⟨D, back * 4, none⟩ = some (.int .i64 k.frm) := (cell_of_block hD _).trans q0
  have d1 : w.cell? ⟨D, back * 4 + 1, none⟩ = some (.int .i64 k.to) := (cell_of_block hD _).trans q1
  have d2 : w.cell? ⟨D, back * 4 + 2, none⟩ = some (.string k.kind) := (cell_of_block hD _).trans q2
  have d3 : w.cell? ⟨D, back * 4 + 3, none⟩ = some (.string k.value) := (cell_of_block hD _).trans q3
  have e10 : ((n : Int) + 1 == 0) = false := by simp; omega
  have n0 : (0 : Int) ≤ (n : Int) := by omega
  have bb0 : (0 : Int) ≤ (back : Int) := by omega
  have bb1 : (back : Int) < 10 := by omega
  have nn1 : (n : Int) ≤ 9 := by omega
  have HR := Lib.hid hR
  have HD := Lib.hid hD
  have Hq := Lib.hid hcs
  clear hR hD hcs q0 q1 q2 q3
  unfold tokVal
  go_enter Tryf.func36, Tryf.ntmps36
  go_wp2_with fail
  go_region
  all_goals go_wp2_with fail
  all_goals go_region
  all_goals go_wp2_with fail
  all_goals
    have ho1 : OnlyL D 67 (set4 c back (.int .i64 0) (.int .i64 0) (.string ⟨#[]⟩) (.string ⟨#[]⟩)) w ((((w.setCell ⟨D, back * 4, none⟩ (.int .i64 0)).setCell ⟨D, back * 4 + 1, none⟩ (.int .i64 0)).setCell ⟨D, back * 4 + 2, none⟩ (.string ⟨#[]⟩)).setCell ⟨D, back * 4 + 3, none⟩ (.string ⟨#[]⟩)) :=
      ((((OnlyL.refl HD.out).setCell (back * 4) _).setCell (back * 4 + 1) _).setCell (back * 4 + 2) _).setCell (back * 4 + 3) _
    refine bodyPost_ret (v := .tuple #[.agg #[.int .i64 k.frm, .int .i64 k.to, .string k.kind, .string k.value], .bool true]) (by simp [results, Tryf.results36, go_sem]) rfl ?_
    obtain ⟨w1, hw1⟩ : ∃ x, x = ((((w.setCell ⟨D, back * 4, none⟩ (.int .i64 0)).setCell ⟨D, back * 4 + 1, none⟩ (.int .i64 0)).setCell ⟨D, back * 4 + 2, none⟩ (.string ⟨#[]⟩)).setCell ⟨D, back * 4 + 3, none⟩ (.string ⟨#[]⟩)) := ⟨_, rfl⟩
    rw [← hw1] at ho1 ⊢
    clear hw1
    refine ⟨rfl, w1, ho1, OnlyL.cast (by repeat (first | apply OnlyL.setCell | apply OnlyL.drew | apply OnlyL.drewN | apply OnlyL.alloc | exact OnlyL.refl ((ho1.others R l0 hRD).trans HR.out))) ?_⟩
    simp

set_option maxRecDepth 100000 in
theorem dequeue_none (R : Nat) (dv b : Value) (w : World) (hR : w.heap[R]? = some (.cells #[dv, b, .int .i64 0, .int .i64 10] 96 (0, 0))) :
    Calls Tryf.prog 36 #[.pointer (some ⟨R, 0, none⟩)] w fun e w' => e = .returned (.tuple #[.agg #[.int .i64 0, .int .i64 0, .string ⟨#[]⟩, .string ⟨#[]⟩], .bool false]) ∧ ∃ xs d, w' = grow w xs d := by
  have c2 : w.cell? ⟨R, 2, none⟩ = some (.int .i64 0) := cell_of_block hR 2
  have l0 : R < w.heap.size := (Array.getElem?_eq_some_iff.1 hR).1
  have HR := Lib.hid hR
  clear hR
  go_enter Tryf.func36, Tryf.ntmps36
  go_wp2_with fail
  exact bodyPost_ret (v := .tuple #[.agg #[.int .i64 0, .int .i64 0, .string ⟨#[]⟩, .string ⟨#[]⟩], .bool false]) (by simp [results, Tryf.results36, go_sem]) rfl ⟨rfl, grow_of (by repeat (first | exact Below.refl _ _ | apply below_drew | apply below_drewN | apply below_alloc | apply below_grow))⟩

/-- Dequeue: the first token leaves. -/
theorem dequeue_any {S : Nat → Prop} {R : Nat} {k : Tok} {toks : List Tok} {w : World} (hr : RingW S w R (k :: toks)) (hlt : ∀ k, S k → k < w.heap.size) :
    Calls Tryf.prog 36 #[.pointer (some ⟨R, 0, none⟩)] w fun e w' => e = .returned (.tuple #[tokVal k, .bool true]) ∧ RDone S R toks w w' := by
  obtain ⟨dv, back, hR, h⟩ := hr
  rcases h with ⟨_, _, h⟩ | ⟨D, c, rfl, hS, hD, hcs, hb, hn10, ht⟩
  · cases h
  · have hn : toks.length ≤ 9 := by simp at hn10; omega
    have h0 := ht 0 k rfl
    have hq : ∀ j, j < 4 → c[back * 4 + j]? = (tokCells k)[j]? := fun j hj => by
      have := h0 j hj
      rw [show (back + 0) % 10 = back by omega, Nat.mul_comm] at this
      exact this
    refine (dequeue_some R D back toks.length c k w hR hD hcs hb hn (hq 0 (by decide)) (hq 1 (by decide)) (hq 2 (by decide)) (hq 3 (by decide))).mono ?_
    rintro e w' ⟨rfl, w1, ho1, ho2⟩
    have hRD : R ≠ D := by intro e; rw [e, hD] at hR; exact kinds_ne (by decide) hR
    have hlast := (ho2.others D (Nat.lt_of_lt_of_le (hlt D hS) ho1.size) (fun e => hRD e.symm)).trans ho1.own
    refine ⟨rfl, S, fun _ h => h, fun _ h => .inl h, fun i hi => Nat.lt_of_lt_of_le (hlt i hi) (Nat.le_trans ho1.size ho2.size), ⟨ho2.os.trans ho1.os, ho2.tape.trans ho1.tape, ho2.output.trans ho1.output, Nat.le_trans ho1.size ho2.size, fun i hi hiR hc => ?_⟩, .slice (some ⟨D, 0, none⟩) 10 10, (back + 1) % 10, ho2.own, .inr ⟨D, _, rfl, hS, hlast, by rw [set4_size]; exact hcs, by omega, by omega, fun i x hx j hj => ?_⟩⟩
    · have hiD : i ≠ D := fun e => hc c (e ▸ hS) (e ▸ hD)
      exact (ho2.others i (Nat.lt_of_lt_of_le hi ho1.size) hiR).trans (ho1.others i hi hiD)
    · have hil := (List.getElem?_eq_some_iff.1 hx).1
      rw [set4_other _ _ _ _ _ _ _ (by omega) j hj]
      have := ht (i + 1) x (by simpa using hx) j hj
      rw [show ((back + 1) % 10 + i) % 10 = (back + (i + 1)) % 10 by omega]
      exact this

end Go.Proofs.YtdpdgppjeekcmaaFmt
