/-
  Walks: fmt.Errorf without operands, unhex, zzNewlines (printed by genuna.py).
-/
import Derived.Test.YtdpdgppjeekcmaaFmtErr
import Derived.Test.YtdpdgppjeekcmaaFmtJA
import Derived.OwnWalk
namespace Go.Proofs.YtdpdgppjeekcmaaFmt
open Go Go.Lib Go.RowKit Go.Proofs
open Go.Extern.Stop Go.Stop Go.Extern

@[go_sem] theorem fx_callE (args : Array Value) (w : World) : (callFunc 103 args).run Tryf.prog w = ((FmtStop.errorf #[9, 102] #[80] args).run Tryf.prog w).andThen fun v w' => .ok (.value v) w' :=
  run_callFunc_extern Tryf.func103 (by kernel_rfl) (by kernel_rfl) (by kernel_rfl) (by kernel_rfl) args w
@[go_sem] theorem fx_ptrE (w : World) : (FmtStop.ptrTo "errors.errorString").run Tryf.prog w = .ok 144 w := by kernel_rfl
@[go_sem] theorem fx_elemE (w : World) : (elemOf 144).run Tryf.prog w = .ok 146 w := by kernel_rfl
@[go_sem] theorem fx_isE (w : World) : (FmtDoors.textMethod 144 "Error").run Tryf.prog w = .ok true w := by kernel_rfl

/-- What fmt.Errorf gives: a new error that holds a text. -/
def ErrMade (w : World) (e : Ending) (w' : World) : Prop := ∃ E m, e = .returned (.iface 144 (.pointer (some ⟨E, 0, none⟩))) ∧ w.heap.size ≤ E ∧ w'.heap[E]? = some (.cells #[.string m] 146 (0, 0)) ∧ Below w.heap.size w w'
theorem errorsNew_any (m : ByteArray) (w : World) : Calls Tryf.prog 104 #[.string m] w fun e w' => e = .returned (.iface 144 (.pointer (some ⟨w.heap.size, 0, none⟩))) ∧ w.alloc (.cells #[.string m] 146) = w' := by
  go_enter Tryf.func104, Tryf.ntmps104
  go_wp2_with fail
  go_ret
  exact ⟨rfl, rfl⟩

@[go_sem] theorem fx_pE0 : FmtStop.printed? ⟨#[117, 110, 97, 98, 108, 101, 32, 116, 111, 32, 117, 110, 101, 115, 99, 97, 112, 101, 32, 115, 116, 114, 105, 110, 103]⟩ 0 = some [] := by kernel_rfl
@[go_sem] theorem fx_rE0 (w : World) : (FmtDoors.printed ⟨#[117, 110, 97, 98, 108, 101, 32, 116, 111, 32, 117, 110, 101, 115, 99, 97, 112, 101, 32, 115, 116, 114, 105, 110, 103]⟩ 0).run Tryf.prog w = .ok [] w := by kernel_rfl
set_option maxRecDepth 100000 in
theorem errorf_0 {F : Stop.Interp} (w : World) (hF : F.answers w.tape) : Calls Tryf.prog 82 #[.string ⟨#[117, 110, 97, 98, 108, 101, 32, 116, 111, 32, 117, 110, 101, 115, 99, 97, 112, 101, 32, 115, 116, 114, 105, 110, 103]⟩, .slice none 0 0] w (ErrMade w) := by
  have hF' := answers_open hF
  go_enter Tryf.func82, Tryf.ntmps82
  go_wp2_with fail
  refine (errorsNew_any _ _).mono ?_
  rintro e w1 ⟨rfl, rfl⟩
  go_wp2_with fail
  go_ret
  exact ⟨_, _, rfl, Nat.le_refl _, heap_alloc_at rfl, (by repeat (first | exact Below.refl _ _ | apply below_drew | apply below_drewN | apply below_alloc | apply below_grow))⟩

@[go_sem] theorem fx_pE1 : FmtStop.printed? ⟨#[117, 110, 97, 98, 108, 101, 32, 116, 111, 32, 117, 110, 101, 115, 99, 97, 112, 101, 32, 115, 116, 114, 105, 110, 103, 44, 32, 102, 111, 117, 110, 100, 32, 39, 92, 39, 32, 97, 115, 32, 108, 97, 115, 116, 32, 99, 104, 97, 114, 97, 99, 116, 101, 114]⟩ 0 = some [] := by kernel_rfl
@[go_sem] theorem fx_rE1 (w : World) : (FmtDoors.printed ⟨#[117, 110, 97, 98, 108, 101, 32, 116, 111, 32, 117, 110, 101, 115, 99, 97, 112, 101, 32, 115, 116, 114, 105, 110, 103, 44, 32, 102, 111, 117, 110, 100, 32, 39, 92, 39, 32, 97, 115, 32, 108, 97, 115, 116, 32, 99, 104, 97, 114, 97, 99, 116, 101, 114]⟩ 0).run Tryf.prog w = .ok [] w := by kernel_rfl
set_option maxRecDepth 100000 in
theorem errorf_1 {F : Stop.Interp} (w : World) (hF : F.answers w.tape) : Calls Tryf.prog 82 #[.string ⟨#[117, 110, 97, 98, 108, 101, 32, 116, 111, 32, 117, 110, 101, 115, 99, 97, 112, 101, 32, 115, 116, 114, 105, 110, 103, 44, 32, 102, 111, 117, 110, 100, 32, 39, 92, 39, 32, 97, 115, 32, 108, 97, 115, 116, 32, 99, 104, 97, 114, 97, 99, 116, 101, 114]⟩, .slice none 0 0] w (ErrMade w) := by
  have hF' := answers_open hF
  go_enter Tryf.func82, Tryf.ntmps82
  go_wp2_with fail
  refine (errorsNew_any _ _).mono ?_
  rintro e w1 ⟨rfl, rfl⟩
  go_wp2_with fail
  go_ret
  exact ⟨_, _, rfl, Nat.le_refl _, heap_alloc_at rfl, (by repeat (first | exact Below.refl _ _ | apply below_drew | apply below_drewN | apply below_alloc | apply below_grow))⟩

@[go_sem] theorem fx_pE2 : FmtStop.printed? ⟨#[117, 110, 97, 98, 108, 101, 32, 116, 111, 32, 117, 110, 101, 115, 99, 97, 112, 101, 32, 111, 99, 116, 97, 108, 32, 115, 101, 113, 117, 101, 110, 99, 101, 32, 105, 110, 32, 115, 116, 114, 105, 110, 103]⟩ 0 = some [] := by kernel_rfl
@[go_sem] theorem fx_rE2 (w : World) : (FmtDoors.printed ⟨#[117, 110, 97, 98, 108, 101, 32, 116, 111, 32, 117, 110, 101, 115, 99, 97, 112, 101, 32, 111, 99, 116, 97, 108, 32, 115, 101, 113, 117, 101, 110, 99, 101, 32, 105, 110, 32, 115, 116, 114, 105, 110, 103]⟩ 0).run Tryf.prog w = .ok [] w := by kernel_rfl
set_option maxRecDepth 100000 in
theorem errorf_2 {F : Stop.Interp} (w : World) (hF : F.answers w.tape) : Calls Tryf.prog 82 #[.string ⟨#[117, 110, 97, 98, 108, 101, 32, 116, 111, 32, 117, 110, 101, 115, 99, 97, 112, 101, 32, 111, 99, 116, 97, 108, 32, 115, 101, 113, 117, 101, 110, 99, 101, 32, 105, 110, 32, 115, 116, 114, 105, 110, 103]⟩, .slice none 0 0] w (ErrMade w) := by
  have hF' := answers_open hF
  go_enter Tryf.func82, Tryf.ntmps82
  go_wp2_with fail
  refine (errorsNew_any _ _).mono ?_
  rintro e w1 ⟨rfl, rfl⟩
  go_wp2_with fail
  go_ret
  exact ⟨_, _, rfl, Nat.le_refl _, heap_alloc_at rfl, (by repeat (first | exact Below.refl _ _ | apply below_drew | apply below_drewN | apply below_alloc | apply below_grow))⟩


theorem unhex_any (b : Nat) (hb : b < 256) (w : World) : Calls Tryf.prog 105 #[.int .u8 b] w fun e w' => e = .returned (.tuple #[.int .i32 (unhexV b), .bool (unhexB' b)]) ∧ w = w' := by
  have key : ∀ (e : Ending) (w' : World), True := fun _ _ => trivial
  by_cases h1 : 48 ≤ b ∧ b ≤ 57
  · have e1 : unhexV b = (b : Int) - 48 := by unfold unhexV; rw [if_pos h1]
    have e2 : unhexB' b = true := by unfold unhexB'; simp; omega
    rw [e1, e2]
    have a1 : (48 : Int) ≤ (b : Int) := by omega
    have a2 : (b : Int) ≤ 57 := by omega
    clear e1 e2
    go_enter Tryf.func105, Tryf.ntmps105
    go_wp2_with fail
    go_ret2
    exact ⟨rfl, rfl⟩
  by_cases h2 : 97 ≤ b ∧ b ≤ 102
  · have e1 : unhexV b = (b : Int) - 97 + 10 := by unfold unhexV; rw [if_neg h1, if_pos h2]
    have e2 : unhexB' b = true := by unfold unhexB'; simp; omega
    rw [e1, e2]
    have a1 : (48 : Int) ≤ (b : Int) := by omega
    have a2 : ¬ (b : Int) ≤ 57 := by omega
    have a3 : (97 : Int) ≤ (b : Int) := by omega
    have a4 : (b : Int) ≤ 102 := by omega
    clear e1 e2
    go_enter Tryf.func105, Tryf.ntmps105
    go_wp2_with fail
    go_ret2
    exact ⟨rfl, rfl⟩
  by_cases h3 : 65 ≤ b ∧ b ≤ 70
  · have e1 : unhexV b = (b : Int) - 65 + 10 := by unfold unhexV; rw [if_neg h1, if_neg h2, if_pos h3]
    have e2 : unhexB' b = true := by unfold unhexB'; simp; omega
    rw [e1, e2]
    have a1 : (48 : Int) ≤ (b : Int) := by omega
    have a2 : ¬ (b : Int) ≤ 57 := by omega
    have a3 : ¬ (97 : Int) ≤ (b : Int) := by omega
    have a4 : (65 : Int) ≤ (b : Int) := by omega
    have a5 : (b : Int) ≤ 70 := by omega
    clear e1 e2
    go_enter Tryf.func105, Tryf.ntmps105
    go_wp2_with fail
    go_ret2
    exact ⟨rfl, rfl⟩
  have e1 : unhexV b = 0 := by unfold unhexV; rw [if_neg h1, if_neg h2, if_neg h3]
  have e2 : unhexB' b = false := by
    unfold unhexB'
    simp only [Bool.or_eq_false_iff, Bool.and_eq_false_iff, decide_eq_false_iff_not]
    omega
  rw [e1, e2]
  clear e1 e2
  have c1 : (b : Int) < 48 ∨ (57 < (b : Int) ∧ (b : Int) < 65) ∨ (70 < (b : Int) ∧ (b : Int) < 97) ∨ 102 < (b : Int) := by omega
  rcases c1 with c | ⟨c, c'⟩ | ⟨c, c'⟩ | c
  all_goals
    go_enter Tryf.func105, Tryf.ntmps105
    go_wp2_with fail
    go_ret2
    exact ⟨rfl, rfl⟩


end Go.Proofs.YtdpdgppjeekcmaaFmt
