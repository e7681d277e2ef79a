/-
  FnWordIsSourceSlice: for every text and all counts, the lexer's word is the source between the two rune boundaries; the told and tied card, as given; no condition of ours.
-/
import Derived.Test.YteicfaehbndlcaaFmtCards
import Derived.Test.YteicfaehbndlcaaFmtTie
import Derived.Test.YteicfaehbndlcaaFmtTabs
import Derived.ProofKit
import Derived.Stop.JoinedTold
import Derived.Stop.LaidErr
import Derived.Lay
import Derived.MakeChecks
import Derived.SevenTiedAt
import Derived.SizedLaws
import Derived.Deep.DeepWitnessRef
import Derived.Test.YteicfaehbndlcaaFmtL75c
namespace Go.Proofs.YteicfaehbndlcaaFmt
open Go Go.Lib Go.RowKit Go.Proofs
open Go.ChangeShapes Go.WideShapes Go.ChangeAt
open Go.ChangeMaps (open_string shut_string)
open Go.Extern.Stop Go.Stop Go.Extern
set_option maxRecDepth 100000

set_option maxHeartbeats 4000000 in
theorem fnWordIsSourceSlice_lifted (os : Os) (started : os.Started) (H : Type) (enc : TypeId × Value → H) :
    ReturnsInTold none {} Tryf.checked os 4 .any Input.okWide ((OpenSpec.ofChange Rows.fnWordIsSourceSliceSpec).preRow enc Tryf.prog Tryf.f4 Rows.fnWordIsSourceSliceRow.domain false Rows.fnWordIsSourceSliceRow.laid) (fun F => ((OpenSpec.ofChange Rows.fnWordIsSourceSliceSpec).at F).post enc Tryf.prog Tryf.f4 false true false false) (aloneAtReturn Tryf.prog) nothingAlways := by
  refine returnsInTold_of_row (C := Tryf.checked) (s := OpenSpec.ofChange Rows.fnWordIsSourceSliceSpec) (by kernel_rfl) own_knob started (by kernel_rfl) Tryf.func4 (witness_of #[.string ⟨#[]⟩, .int .i64 0, .int .i64 0] 8 rfl (by kernel_rfl) (by kernel_rfl) (by kernel_rfl)) ?_
  intro F W base args ds gs before _ hF hval0 hW hcnd0 _ hsz hL _
  have hval : ∀ (j : Nat) t v, Tryf.f4.params[j]? = some t → args[j]? = some v → Value.okWide Tryf.prog W .any base t v := hval0
  have hW' := hW
  obtain ⟨p, q, hA0, hV0, rfl, _, _⟩ := hW
  have hA : DataW.TrodAll enc Tryf.prog W 0 (fun _ => true) true Tryf.f4.params.toList args.toList ds p := hA0
  rw [Tryf.params4] at hA hval
  obtain ⟨v0, v1, v2, d0, d1, d2, p0, p1, p2, rfl, rfl, rfl, h0, h1, h2⟩ := trodAll_three hA
  obtain ⟨rfl, rfl⟩ := trodVars_none hV0
  obtain ⟨s, rfl, rfl, rfl, ws⟩ := open_string Tryf.underlying9 (hval 0 9 v0 rfl rfl) h0
  obtain ⟨a, rfl, rfl, rfl, wa⟩ := open_int Tryf.underlying3 (hval 1 3 v1 rfl rfl) h1
  obtain ⟨b, rfl, rfl, rfl, wb⟩ := open_int Tryf.underlying3 (hval 2 3 v2 rfl rfl) h2
  clear hA0 hV0 hval0
  have hT : Tabs W := tabs_of_laid hL
  refine (wordIsSourceSlice_walk hT F.told hF s a b ws (i64_bounds wa).1 (i64_bounds wa).2 (i64_bounds wb).1 (i64_bounds wb).2).mono ?_
  rintro e W' ⟨rfl, bel⟩
  refine ⟨_, rfl, _, _, _, [], [], [], hW', ?_, ?_, rfl, bel.frame _, fun h => by cases h⟩
  · exact trodAll_mk1 (shut_bool Tryf.underlying4 _)
  · exact trodAll_mk3 (shut_string Tryf.underlying9 ws) (shut_int Tryf.underlying3 wa) (shut_int Tryf.underlying3 wb)

theorem fnWordIsSourceSlice_holds : Rows.FnWordIsSourceSliceToldSaid :=
  Claim7.holds_of_told_tied_any_at .later 4 Tryf.f4 "fmt.Sprintf, its operands' methods called" ["fmt.errorf"] [] _ _ _ _ _ (by kernel_rfl) rfl rfl rfl laid_out (by kernel_rfl) rfl ⟨rfl, rfl, rfl, rfl, rfl, rfl, rfl⟩ rfl rfl (by kernel_rfl) (by kernel_rfl) Tryf.func4 (by kernel_rfl)
    (of_decide_eq_true (by kernel_rfl)) (of_decide_eq_true (by kernel_rfl)) the_stops.symm rfl the_knobs.symm (by kernel_rfl)
    (by kernel_rfl) (by kernel_rfl) (by kernel_rfl) (by kernel_rfl) (by kernel_rfl) (by kernel_rfl) (by kernel_rfl) (by kernel_rfl) (by kernel_rfl) rfl (by kernel_rfl) rfl rfl
    rfl rfl
    rfl (by kernel_rfl) (by kernel_rfl) (by kernel_rfl) (by decide) (by kernel_rfl) fnWordIsSourceSlice_row_tie
    (OpenClaim.moreEntering_of (by kernel_rfl) (by kernel_rfl) (by kernel_rfl) (by kernel_rfl) (by kernel_rfl) (by kernel_rfl) (by kernel_rfl) (by kernel_rfl) (by kernel_rfl) (by kernel_rfl))
    ⟨_, WideRow.started_initial, the_quiet _⟩
    (fun os started _ H enc _ => fnWordIsSourceSlice_lifted os started H enc)
#print axioms fnWordIsSourceSlice_holds

end Go.Proofs.YteicfaehbndlcaaFmt
