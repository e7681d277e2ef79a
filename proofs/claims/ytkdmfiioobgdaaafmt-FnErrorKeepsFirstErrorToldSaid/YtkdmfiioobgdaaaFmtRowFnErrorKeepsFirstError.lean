/-
  FnErrorKeepsFirstError: of two errors the first stays; the told and tied card, as given; no condition of ours.
-/
import Derived.Test.YtkdmfiioobgdaaaFmtCards
import Derived.Test.YtkdmfiioobgdaaaFmtTie
import Derived.Test.YtkdmfiioobgdaaaFmtTabs
import Derived.ProofKit
import Derived.Stop.JoinedTold
import Derived.Stop.LaidErr
import Derived.Lay
import Derived.MakeChecks
import Derived.SevenTiedAt
import Derived.SizedLaws
import Derived.Deep.DeepWitnessRef
import Derived.Test.YtkdmfiioobgdaaaFmtL49ek
namespace Go.Proofs.YtkdmfiioobgdaaaFmt
open Go Go.Lib Go.RowKit Go.Proofs
open Go.ChangeShapes Go.WideShapes Go.ChangeAt
open Go.ChangeMaps (open_string shut_string)
open Go.Extern.Stop Go.Stop Go.Extern
set_option maxRecDepth 100000

set_option maxHeartbeats 4000000 in
theorem fnErrorKeepsFirstError_lifted (os : Os) (started : os.Started) (H : Type) (enc : TypeId × Value → H) :
    ReturnsInTold none {} Tryf.checked os 6 .any Input.okWide ((OpenSpec.ofChange Rows.fnErrorKeepsFirstErrorSpec).preRow enc Tryf.prog Tryf.f6 Rows.fnErrorKeepsFirstErrorRow.domain false Rows.fnErrorKeepsFirstErrorRow.laid) (fun F => ((OpenSpec.ofChange Rows.fnErrorKeepsFirstErrorSpec).at F).post enc Tryf.prog Tryf.f6 false true false false) (aloneAtReturn Tryf.prog) nothingAlways := by
  refine returnsInTold_of_row (C := Tryf.checked) (s := OpenSpec.ofChange Rows.fnErrorKeepsFirstErrorSpec) (by kernel_rfl) own_knob started (by kernel_rfl) Tryf.func6 (witness_of #[.string ⟨#[]⟩, .int .i64 0, .int .i64 0] 8 rfl (by kernel_rfl) (by kernel_rfl) (by kernel_rfl)) ?_
  intro F W base args ds gs before _ hF hval0 hW hcnd0 _ hsz hL _
  have hval : ∀ (j : Nat) t v, Tryf.f6.params[j]? = some t → args[j]? = some v → Value.okWide Tryf.prog W .any base t v := hval0
  have hW' := hW
  obtain ⟨p, q, hA0, hV0, rfl, _, _⟩ := hW
  have hA : DataW.TrodAll enc Tryf.prog W 0 (fun _ => true) true Tryf.f6.params.toList args.toList ds p := hA0
  rw [Tryf.params6] at hA hval
  obtain ⟨v0, v1, v2, d0, d1, d2, p0, p1, p2, rfl, rfl, rfl, h0, h1, h2⟩ := trodAll_three hA
  obtain ⟨rfl, rfl⟩ := trodVars_none hV0
  obtain ⟨s, rfl, rfl, rfl, ws⟩ := open_string Tryf.underlying9 (hval 0 9 v0 rfl rfl) h0
  obtain ⟨k1, rfl, rfl, rfl, wk1⟩ := open_int Tryf.underlying3 (hval 1 3 v1 rfl rfl) h1
  obtain ⟨k2, rfl, rfl, rfl, wk2⟩ := open_int Tryf.underlying3 (hval 2 3 v2 rfl rfl) h2
  clear hA0 hV0 hval0
  have hT : Tabs W := tabs_of_laid hL
  refine (EK_walk hT F.told hF s k1 k2 ws (i64_bounds wk1).1 (i64_bounds wk1).2 (i64_bounds wk2).1 (i64_bounds wk2).2).mono ?_
  rintro e W' ⟨rfl, bel⟩
  refine ⟨_, rfl, _, _, _, [], [], [], hW', ?_, ?_, rfl, bel.frame _, fun h => by cases h⟩
  · exact trodAll_mk1 (shut_bool Tryf.underlying4 _)
  · exact trodAll_mk3 (shut_string Tryf.underlying9 ws) (shut_int Tryf.underlying3 wk1) (shut_int Tryf.underlying3 wk2)

theorem fnErrorKeepsFirstError_holds : Rows.FnErrorKeepsFirstErrorToldSaid :=
  Claim7.holds_of_told_tied_any_at .later 6 Tryf.f6 "fmt.Sprintf, its operands' methods called" ["fmt.errorf"] [] _ _ _ _ _ (by kernel_rfl) rfl rfl rfl laid_out (by kernel_rfl) rfl ⟨rfl, rfl, rfl, rfl, rfl, rfl, rfl⟩ rfl rfl (by kernel_rfl) (by kernel_rfl) Tryf.func6 (by kernel_rfl)
    (of_decide_eq_true (by kernel_rfl)) (of_decide_eq_true (by kernel_rfl)) the_stops.symm rfl the_knobs.symm (by kernel_rfl)
    (by kernel_rfl) (by kernel_rfl) (by kernel_rfl) (by kernel_rfl) (by kernel_rfl) (by kernel_rfl) (by kernel_rfl) (by kernel_rfl) (by kernel_rfl) rfl (by kernel_rfl) rfl rfl
    rfl rfl
    rfl (by kernel_rfl) (by kernel_rfl) (by kernel_rfl) (by decide) (by kernel_rfl) fnErrorKeepsFirstError_row_tie
    (OpenClaim.moreEntering_of (by kernel_rfl) (by kernel_rfl) (by kernel_rfl) (by kernel_rfl) (by kernel_rfl) (by kernel_rfl) (by kernel_rfl) (by kernel_rfl) (by kernel_rfl) (by kernel_rfl))
    ⟨_, WideRow.started_initial, the_quiet _⟩
    (fun os started _ H enc _ => fnErrorKeepsFirstError_lifted os started H enc)
#print axioms fnErrorKeepsFirstError_holds

end Go.Proofs.YtkdmfiioobgdaaaFmt
