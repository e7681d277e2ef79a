/-
  FnEmitValueBackToBack: emitValue commits; the told and tied card, as given; no condition of ours.
-/
import Derived.Test.YtoopnllpocioiaaGreatFmtCards
import Derived.Test.YtoopnllpocioiaaGreatFmtTie
import Derived.Test.YtoopnllpocioiaaGreatFmtTabs
import Derived.ProofKit
import Derived.Stop.JoinedTold
import Derived.Stop.LaidErr
import Derived.Lay
import Derived.MakeChecks
import Derived.SevenTiedAt
import Derived.SizedLaws
import Derived.Deep.DeepWitnessRef
import Derived.Test.YtoopnllpocioiaaGreatFmtFive
import Derived.Test.YtoopnllpocioiaaGreatFmtL66EVB
namespace Go.Proofs.YtoopnllpocioiaaGreatFmt
open Go Go.Lib Go.RowKit Go.Proofs
open Go.ChangeShapes Go.WideShapes Go.ChangeAt
open Go.ChangeMaps (open_string shut_string)
open Go.Extern.Stop Go.Stop Go.Extern
set_option maxRecDepth 100000

set_option maxHeartbeats 4000000 in
theorem fnEmitValueBackToBack_lifted (os : Os) (started : os.Started) (H : Type) (enc : TypeId × Value → H) :
    ReturnsInTold none {} Tryz.checked os 8 .any Input.okWide ((OpenSpec.ofChange Rows.fnEmitValueBackToBackSpec).preRow enc Tryz.prog Tryz.f8 Rows.fnEmitValueBackToBackRow.domain false Rows.fnEmitValueBackToBackRow.laid) (fun F => ((OpenSpec.ofChange Rows.fnEmitValueBackToBackSpec).at F).post enc Tryz.prog Tryz.f8 false true false false) (aloneAtReturn Tryz.prog) nothingAlways := by
  refine returnsInTold_of_row (C := Tryz.checked) (s := OpenSpec.ofChange Rows.fnEmitValueBackToBackSpec) (by kernel_rfl) own_knob started (by kernel_rfl) Tryz.func8 (witness_of #[.string ⟨#[]⟩, .string ⟨#[]⟩, .string ⟨#[]⟩, .string ⟨#[]⟩, .int .i64 0] 8 rfl (by kernel_rfl) (by kernel_rfl) (by kernel_rfl)) ?_
  intro F W base args ds gs before _ hF hval0 hW hcnd0 _ hsz hL _
  have hval : ∀ (j : Nat) t v, Tryz.f8.params[j]? = some t → args[j]? = some v → Value.okWide Tryz.prog W .any base t v := hval0
  have hW' := hW
  obtain ⟨p, q, hA0, hV0, rfl, _, _⟩ := hW
  have hA : DataW.TrodAll enc Tryz.prog W 0 (fun _ => true) true Tryz.f8.params.toList args.toList ds p := hA0
  rw [Tryz.params8] at hA hval
  obtain ⟨v0, v1, v2, v3, v4, d0, d1, d2, d3, d4, p0, p1, p2, p3, p4, rfl, rfl, rfl, h0, h1, h2, h3, h4⟩ := trodAll_five hA
  obtain ⟨rfl, rfl⟩ := trodVars_none hV0
  obtain ⟨s, rfl, rfl, rfl, ws⟩ := open_string Tryz.underlying9 (hval 0 9 v0 rfl rfl) h0
  obtain ⟨k, rfl, rfl, rfl, wk⟩ := open_string Tryz.underlying9 (hval 1 9 v1 rfl rfl) h1
  obtain ⟨v1, rfl, rfl, rfl, wv1⟩ := open_string Tryz.underlying9 (hval 2 9 v2 rfl rfl) h2
  obtain ⟨v2, rfl, rfl, rfl, wv2⟩ := open_string Tryz.underlying9 (hval 3 9 v3 rfl rfl) h3
  obtain ⟨i, rfl, rfl, rfl, wi⟩ := open_int Tryz.underlying3 (hval 4 3 v4 rfl rfl) h4
  clear hA0 hV0 hval0
  have hT : Tabs W := tabs_of_laid hL
  refine (EVB_walk hT F.told hF s k v1 v2 i ws wk wv1 wv2 (i64_bounds wi).1 (i64_bounds wi).2).mono ?_
  rintro e W' ⟨rfl, bel⟩
  refine ⟨_, rfl, _, _, _, [], [], [], hW', ?_, ?_, rfl, bel.frame _, fun h => by cases h⟩
  · exact trodAll_mk1 (shut_bool Tryz.underlying4 _)
  · exact trodAll_mk5 (shut_string Tryz.underlying9 ws) (shut_string Tryz.underlying9 wk) (shut_string Tryz.underlying9 wv1) (shut_string Tryz.underlying9 wv2) (shut_int Tryz.underlying3 wi)

theorem fnEmitValueBackToBack_holds : Rows.FnEmitValueBackToBackToldSaid :=
  Claim7.holds_of_told_tied_any_at .later 8 Tryz.f8 "fmt.Sprintf, its operands' methods called" ["fmt.errorf"] [] _ _ _ _ _ (by kernel_rfl) rfl rfl rfl laid_out (by kernel_rfl) rfl ⟨rfl, rfl, rfl, rfl, rfl, rfl, rfl⟩ rfl rfl (by kernel_rfl) (by kernel_rfl) Tryz.func8 (by kernel_rfl)
    (of_decide_eq_true (by kernel_rfl)) (of_decide_eq_true (by kernel_rfl)) the_stops.symm rfl the_knobs.symm (by kernel_rfl)
    (by kernel_rfl) (by kernel_rfl) (by kernel_rfl) (by kernel_rfl) (by kernel_rfl) (by kernel_rfl) (by kernel_rfl) (by kernel_rfl) (by kernel_rfl) rfl (by kernel_rfl) rfl rfl
    rfl rfl
    rfl (by kernel_rfl) (by kernel_rfl) (by kernel_rfl) (by decide) (by kernel_rfl) fnEmitValueBackToBack_row_tie
    (OpenClaim.moreEntering_of (by kernel_rfl) (by kernel_rfl) (by kernel_rfl) (by kernel_rfl) (by kernel_rfl) (by kernel_rfl) (by kernel_rfl) (by kernel_rfl) (by kernel_rfl) (by kernel_rfl))
    ⟨_, WideRow.started_initial, the_quiet _⟩
    (fun os started _ H enc _ => fnEmitValueBackToBack_lifted os started H enc)
#print axioms fnEmitValueBackToBack_holds

end Go.Proofs.YtoopnllpocioiaaGreatFmt
