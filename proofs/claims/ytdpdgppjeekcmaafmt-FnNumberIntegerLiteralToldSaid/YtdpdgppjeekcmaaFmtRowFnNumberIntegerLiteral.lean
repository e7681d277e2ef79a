/-
  FnNumberIntegerLiteral: a written integer is one Number token; the told and tied card, as given; no condition of ours.
-/
import Derived.Test.YtdpdgppjeekcmaaFmtCards
import Derived.Test.YtdpdgppjeekcmaaFmtTie
import Derived.Test.YtdpdgppjeekcmaaFmtTabs
import Derived.ProofKit
import Derived.Stop.JoinedTold
import Derived.Stop.LaidErr
import Derived.Lay
import Derived.MakeChecks
import Derived.SevenTiedAt
import Derived.SizedLaws
import Derived.Deep.DeepWitnessRef
import Derived.Test.YtdpdgppjeekcmaaFmtFive
import Derived.Test.YtdpdgppjeekcmaaFmtL69a
namespace Go.Proofs.YtdpdgppjeekcmaaFmt
open Go Go.Lib Go.RowKit Go.Proofs
open Go.ChangeShapes Go.WideShapes Go.ChangeAt
open Go.ChangeMaps (open_string shut_string)
open Go.Extern.Stop Go.Stop Go.Extern
set_option maxRecDepth 100000

set_option maxHeartbeats 4000000 in
theorem fnNumberIntegerLiteral_lifted (os : Os) (started : os.Started) (H : Type) (enc : TypeId × Value → H) :
    ReturnsInTold none {} Tryf.checked os 3 .any Input.okWide ((OpenSpec.ofChange Rows.fnNumberIntegerLiteralSpec).preRow enc Tryf.prog Tryf.f3 Rows.fnNumberIntegerLiteralRow.domain false Rows.fnNumberIntegerLiteralRow.laid) (fun F => ((OpenSpec.ofChange Rows.fnNumberIntegerLiteralSpec).at F).post enc Tryf.prog Tryf.f3 false true false false) (aloneAtReturn Tryf.prog) nothingAlways := by
  refine returnsInTold_of_row (C := Tryf.checked) (s := OpenSpec.ofChange Rows.fnNumberIntegerLiteralSpec) (by kernel_rfl) own_knob started (by kernel_rfl) Tryf.func3 (witness_of #[.int .u64 0, .int .u8 0, .bool false, .bool false, .bool false] 8 rfl (by kernel_rfl) (by kernel_rfl) (by kernel_rfl)) ?_
  intro F W base args ds gs before _ hF hval0 hW hcnd0 _ hsz hL _
  have hval : ∀ (j : Nat) t v, Tryf.f3.params[j]? = some t → args[j]? = some v → Value.okWide Tryf.prog W .any base t v := hval0
  have hW' := hW
  obtain ⟨p, q, hA0, hV0, rfl, _, _⟩ := hW
  have hA : DataW.TrodAll enc Tryf.prog W 0 (fun _ => true) true Tryf.f3.params.toList args.toList ds p := hA0
  rw [Tryf.params3] at hA hval
  obtain ⟨v0, v1, v2, v3, v4, d0, d1, d2, d3, d4, p0, p1, p2, p3, p4, rfl, rfl, rfl, h0, h1, h2, h3, h4⟩ := trodAll_five hA
  obtain ⟨rfl, rfl⟩ := trodVars_none hV0
  obtain ⟨x, rfl, rfl, rfl, wx⟩ := open_int Tryf.underlying22 (hval 0 22 v0 rfl rfl) h0
  obtain ⟨sel, rfl, rfl, rfl, wsel⟩ := open_int Tryf.underlying5 (hval 1 5 v1 rfl rfl) h1
  obtain ⟨up, rfl, rfl, rfl⟩ := open_bool Tryf.underlying4 (hval 2 4 v2 rfl rfl) h2
  obtain ⟨ud, rfl, rfl, rfl⟩ := open_bool Tryf.underlying4 (hval 3 4 v3 rfl rfl) h3
  obtain ⟨sp, rfl, rfl, rfl⟩ := open_bool Tryf.underlying4 (hval 4 4 v4 rfl rfl) h4
  clear hA0 hV0 hval0
  have hT : Tabs W := tabs_of_laid hL
  refine (NIL_walk hT F.told hF x sel up ud sp (u64_bounds wx).1 (u64_bounds wx).2 (u8_bounds wsel).1 (u8_bounds wsel).2).mono ?_
  rintro e W' ⟨rfl, bel⟩
  refine ⟨_, rfl, _, _, _, [], [], [], hW', ?_, ?_, rfl, bel.frame _, fun h => by cases h⟩
  · exact trodAll_mk1 (shut_bool Tryf.underlying4 _)
  · exact trodAll_mk5 (shut_int Tryf.underlying22 wx) (shut_int Tryf.underlying5 wsel) (shut_bool Tryf.underlying4 up) (shut_bool Tryf.underlying4 ud) (shut_bool Tryf.underlying4 sp)

theorem fnNumberIntegerLiteral_holds : Rows.FnNumberIntegerLiteralToldSaid :=
  Claim7.holds_of_told_tied_any_at .later 3 Tryf.f3 "fmt.Sprintf, its operands' methods called" ["fmt.errorf"] [] _ _ _ _ _ (by kernel_rfl) rfl rfl rfl laid_out (by kernel_rfl) rfl ⟨rfl, rfl, rfl, rfl, rfl, rfl, rfl⟩ rfl rfl (by kernel_rfl) (by kernel_rfl) Tryf.func3 (by kernel_rfl)
    (of_decide_eq_true (by kernel_rfl)) (of_decide_eq_true (by kernel_rfl)) the_stops.symm rfl the_knobs.symm (by kernel_rfl)
    (by kernel_rfl) (by kernel_rfl) (by kernel_rfl) (by kernel_rfl) (by kernel_rfl) (by kernel_rfl) (by kernel_rfl) (by kernel_rfl) (by kernel_rfl) rfl (by kernel_rfl) rfl rfl
    rfl rfl
    rfl (by kernel_rfl) (by kernel_rfl) (by kernel_rfl) (by decide) (by kernel_rfl) fnNumberIntegerLiteral_row_tie
    (OpenClaim.moreEntering_of (by kernel_rfl) (by kernel_rfl) (by kernel_rfl) (by kernel_rfl) (by kernel_rfl) (by kernel_rfl) (by kernel_rfl) (by kernel_rfl) (by kernel_rfl) (by kernel_rfl))
    ⟨_, WideRow.started_initial, the_quiet _⟩
    (fun os started _ H enc _ => fnNumberIntegerLiteral_lifted os started H enc)
#print axioms fnNumberIntegerLiteral_holds

end Go.Proofs.YtdpdgppjeekcmaaFmt
