/-
  FnScanStringMatchesEscapeGrammar: scanString is the grammar of escapes; the told and tied card, as given; no condition of ours.
-/
import Derived.Test.YtdpdgppjeekcmaaFmtCards
import Derived.Test.YtdpdgppjeekcmaaFmtTie
import Derived.Test.YtdpdgppjeekcmaaFmtTabs
import Derived.ProofKit
import Derived.Stop.JoinedTold
import Derived.Stop.LaidErr
import Derived.Lay
import Derived.MakeChecks
import Derived.SevenTiedAt
import Derived.SizedLaws
import Derived.Deep.DeepWitnessRef
import Derived.Test.YtdpdgppjeekcmaaFmtL69e
namespace Go.Proofs.YtdpdgppjeekcmaaFmt
open Go Go.Lib Go.RowKit Go.Proofs
open Go.ChangeShapes Go.WideShapes Go.ChangeAt
open Go.ChangeMaps (open_string shut_string)
open Go.Extern.Stop Go.Stop Go.Extern
set_option maxRecDepth 100000

set_option maxHeartbeats 4000000 in
theorem fnScanStringMatchesEscapeGrammar_lifted (os : Os) (started : os.Started) (H : Type) (enc : TypeId × Value → H) :
    ReturnsInTold none {} Tryf.checked os 8 .any Input.okWide ((OpenSpec.ofChange Rows.fnScanStringMatchesEscapeGrammarSpec).preRow enc Tryf.prog Tryf.f8 Rows.fnScanStringMatchesEscapeGrammarRow.domain false Rows.fnScanStringMatchesEscapeGrammarRow.laid) (fun F => ((OpenSpec.ofChange Rows.fnScanStringMatchesEscapeGrammarSpec).at F).post enc Tryf.prog Tryf.f8 false true false false) (aloneAtReturn Tryf.prog) nothingAlways := by
  refine returnsInTold_of_row (C := Tryf.checked) (s := OpenSpec.ofChange Rows.fnScanStringMatchesEscapeGrammarSpec) (by kernel_rfl) own_knob started (by kernel_rfl) Tryf.func8 (witness_of #[.string ⟨#[]⟩, .bool false] 8 rfl (by kernel_rfl) (by kernel_rfl) (by kernel_rfl)) ?_
  intro F W base args ds gs before _ hF hval0 hW hcnd0 _ hsz hL _
  have hval : ∀ (j : Nat) t v, Tryf.f8.params[j]? = some t → args[j]? = some v → Value.okWide Tryf.prog W .any base t v := hval0
  have hW' := hW
  obtain ⟨p, q, hA0, hV0, rfl, _, _⟩ := hW
  have hA : DataW.TrodAll enc Tryf.prog W 0 (fun _ => true) true Tryf.f8.params.toList args.toList ds p := hA0
  rw [Tryf.params8] at hA hval
  obtain ⟨v0, v1, d0, d1, p0, p1, rfl, rfl, rfl, h0, h1⟩ := trodAll_two hA
  obtain ⟨rfl, rfl⟩ := trodVars_none hV0
  obtain ⟨body, rfl, rfl, rfl, wbody⟩ := open_string Tryf.underlying9 (hval 0 9 v0 rfl rfl) h0
  obtain ⟨single, rfl, rfl, rfl⟩ := open_bool Tryf.underlying4 (hval 1 4 v1 rfl rfl) h1
  clear hA0 hV0 hval0
  have hT : Tabs W := tabs_of_laid hL
  refine (EG_walk hT F.told hF body single wbody).mono ?_
  rintro e W' ⟨rfl, bel⟩
  refine ⟨_, rfl, _, _, _, [], [], [], hW', ?_, ?_, rfl, bel.frame _, fun h => by cases h⟩
  · exact trodAll_mk1 (shut_bool Tryf.underlying4 _)
  · exact trodAll_mk2 (shut_string Tryf.underlying9 wbody) (shut_bool Tryf.underlying4 single)

theorem fnScanStringMatchesEscapeGrammar_holds : Rows.FnScanStringMatchesEscapeGrammarToldSaid :=
  Claim7.holds_of_told_tied_any_at .later 8 Tryf.f8 "fmt.Sprintf, its operands' methods called" ["fmt.errorf"] [] _ _ _ _ _ (by kernel_rfl) rfl rfl rfl laid_out (by kernel_rfl) rfl ⟨rfl, rfl, rfl, rfl, rfl, rfl, rfl⟩ rfl rfl (by kernel_rfl) (by kernel_rfl) Tryf.func8 (by kernel_rfl)
    (of_decide_eq_true (by kernel_rfl)) (of_decide_eq_true (by kernel_rfl)) the_stops.symm rfl the_knobs.symm (by kernel_rfl)
    (by kernel_rfl) (by kernel_rfl) (by kernel_rfl) (by kernel_rfl) (by kernel_rfl) (by kernel_rfl) (by kernel_rfl) (by kernel_rfl) (by kernel_rfl) rfl (by kernel_rfl) rfl rfl
    rfl rfl
    rfl (by kernel_rfl) (by kernel_rfl) (by kernel_rfl) (by decide) (by kernel_rfl) fnScanStringMatchesEscapeGrammar_row_tie
    (OpenClaim.moreEntering_of (by kernel_rfl) (by kernel_rfl) (by kernel_rfl) (by kernel_rfl) (by kernel_rfl) (by kernel_rfl) (by kernel_rfl) (by kernel_rfl) (by kernel_rfl) (by kernel_rfl))
    ⟨_, WideRow.started_initial, the_quiet _⟩
    (fun os started _ H enc _ => fnScanStringMatchesEscapeGrammar_lifted os started H enc)
#print axioms fnScanStringMatchesEscapeGrammar_holds

end Go.Proofs.YtdpdgppjeekcmaaFmt
