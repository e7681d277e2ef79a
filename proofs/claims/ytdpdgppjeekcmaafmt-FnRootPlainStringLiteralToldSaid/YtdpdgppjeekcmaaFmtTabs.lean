/-
  From what a row lists to Go's tables in the world.
-/
import Derived.Test.YtdpdgppjeekcmaaFmtRows
import Derived.Test.YtdpdgppjeekcmaaFmtBase
import Derived.PinnedBridge
import Derived.Lib.LaidU8
import Derived.Lib.LaidTab
import Derived.Lib.LaidRTab
import Derived.MakeChecks
import Derived.Stop.LaidErr
import Derived.Lay
import Derived.ProofKit
import Derived.Stop.JoinedTold
import Derived.Deep.DeepWitnessRef
namespace Go.Proofs.YtdpdgppjeekcmaaFmt
open Go Go.Lib Go.RowKit Go.Proofs
set_option maxRecDepth 100000

/-- What every row of this seat lists. -/
def theLaid : List (String × DataW Unit) := [("unicode/utf8.acceptRanges", Rows.laid_unicode_utf8_acceptRanges), ("unicode.White_Space", Rows.laid_unicode_White_Space), ("unicode.properties", Rows.laid_unicode_properties), ("unicode.Digit", Rows.laid_unicode_Digit), ("unicode.Letter", Rows.laid_unicode_Letter), ("unicode/utf8.first", Rows.laid_unicode_utf8_first)]

theorem e_accept : (Rows.laid_unicode_utf8_acceptRanges : DataW Unit) = Lib.acceptData := by kernel_rfl
theorem e_white : (Rows.laid_unicode_White_Space : DataW Unit) = Lib.whiteData := by kernel_rfl
theorem e_props : (Rows.laid_unicode_properties : DataW Unit) = Lib.tabData .u8 Lib.propertiesTab := by kernel_rfl
theorem e_digit : (Rows.laid_unicode_Digit : DataW Unit) = rtabData digitT := Pinned.digit_eq
theorem e_letter : (Rows.laid_unicode_Letter : DataW Unit) = rtabData letterT := Pinned.letter_eq
theorem e_first : (Rows.laid_unicode_utf8_first : DataW Unit) = Lib.firstData := Pinned.utf8First_eq

theorem tabs_of_laid {W : World} (h0 : laidMetH Tryf.prog theLaid W) : Tabs W := by
  have h : laidMet Tryf.prog theLaid W := by rw [MakeChecks.laidMetH_plain _ _ _ (by kernel_rfl)] at h0; exact h0
  unfold theLaid at h
  rw [e_accept, e_white, e_props, e_digit, e_letter, e_first] at h
  refine ⟨?_, ?_, ?_, ?_, ?_⟩
  · exact utf8Tabs_of_reads (ρ := Tryf.lays260_ren) { Tryf.lays260 with } ⟨by kernel_rfl, by kernel_rfl, by kernel_rfl, by kernel_rfl, by kernel_rfl, by kernel_rfl, by kernel_rfl⟩ (Lib.laidMet.reads h (by simp)) (Lib.laidMet.reads h (by simp))
  · exact whiteTab_of_reads (ρ := Tryf.lays199_ren) { Tryf.lays199 with } (by constructor <;> kernel_rfl) (Lib.laidMet.reads h (by simp))
  · exact rvar_of_reads (ρ := Tryf.lays261_ren) { Tryf.lays261 with } (by constructor <;> kernel_rfl) (by kernel_rfl) (by kernel_rfl) (Lib.laidMet.reads h (n := "unicode.Digit") (by simp))
  · exact Lib.tabIs_of_head (t := 126) (e := 5) (n := 256) gProps (by kernel_rfl) (by kernel_rfl) (by kernel_rfl) (by kernel_rfl) (by kernel_rfl) (laidMet.tail (laidMet.tail h))
  · exact rvar_of_reads (ρ := Tryf.lays261_ren) { Tryf.lays261 with } (by constructor <;> kernel_rfl) (by kernel_rfl) (by kernel_rfl) (Lib.laidMet.reads h (n := "unicode.Letter") (by simp))

/-! ### The witness: the listed variables laid in a world of their own -/
noncomputable def wit (os : Os) : World := World.laidAll Tryf.prog os theLaid
theorem wit_shaped (os : Os) (args : Array Value) : ((wit os).forCall (fun _ _ => 0) ⟨#[], args, []⟩).Shaped Tryf.prog := by unfold wit; exact World.shaped_of_ZipB (by kernel_rfl) (by kernel_rfl)
theorem wit_laid (os : Os) (args : Array Value) : laidMetH Tryf.prog theLaid ((wit os).forCall (fun _ _ => 0) ⟨#[], args, []⟩).memory := by
  rw [MakeChecks.laidMetH_plain _ _ _ (by kernel_rfl)]
  unfold wit
  exact laidMet_laidAll _ (by kernel_rfl) (by kernel_rfl)

theorem witness_gen {C : Checked} {H : Type} {enc : TypeId × Value → H} {os : Os} {f : FuncId} {fn : Func} {s : OpenSpec} {conds : List PathCond} {laid : List (String × DataW Unit)} (w0 : World) (args : Array Value) (hos : w0.os = os)
    (hsh : (w0.forCall (fun _ _ => 0) ⟨#[], args, []⟩).Shaped C.prog)
    (hok : Input.okWideB C.prog (w0.forCall (fun _ _ => 0) ⟨#[], args, []⟩) f ⟨#[], args, []⟩ = true)
    (hrow : s.preRow enc C.prog fn conds false laid (w0.forCall (fun _ _ => 0) ⟨#[], args, []⟩).memory args) (F : Stop.Interp) :
    ∃ (w : World) (tape : Tape) (i : Input), w.os = os ∧ (w.forCall tape i).Shaped C.prog ∧ i.vars = [] ∧ Input.okWide C.prog (w.forCall tape i) .any w.heap.size f i ∧
      s.preRow enc C.prog fn conds false laid (w.forCall tape i).memory i.args ∧ ({} : Assume).holds C.prog (lone (Frame.enter C.prog f i.args .normal) [] (w.forCall tape i)) ∧ F.answers tape :=
  ⟨w0, F.over fun _ _ => 0, ⟨#[], args, []⟩, hos, hsh, (Input.okWide_of_okWideB (base := 0) hok).1, (Input.okWide_of_okWideB hok).2, hrow, by
    simp only [Assume.holds]
    exact ⟨by simp, by simp, fun h => by simp at h, by simp, by simp⟩, F.over_answers _⟩

theorem witness_of {H : Type} {enc : TypeId × Value → H} {os : Os} {f : FuncId} {fn : Func} {s : OpenSpec} {conds : List PathCond} (args : Array Value) (fuel : Nat) (hk : s.cond = none)
    (hok : Input.okWideB Tryf.prog ((wit os).forCall (fun _ _ => 0) ⟨#[], args, []⟩) f ⟨#[], args, []⟩ = true)
    (hpre : s.bare.preB enc Tryf.prog fn conds false ((wit os).forCall (fun _ _ => 0) ⟨#[], args, []⟩).memory args fuel = true) (hsz : s.bare.sizedB enc Tryf.prog fn false ((wit os).forCall (fun _ _ => 0) ⟨#[], args, []⟩).memory args fuel = true) (F : Stop.Interp) :
    ∃ (w : World) (tape : Tape) (i : Input), w.os = os ∧ (w.forCall tape i).Shaped Tryf.prog ∧ i.vars = [] ∧ Input.okWide Tryf.prog (w.forCall tape i) .any w.heap.size f i ∧
      s.preRow enc Tryf.prog fn conds false theLaid (w.forCall tape i).memory i.args ∧ ({} : Assume).holds Tryf.prog (lone (Frame.enter Tryf.prog f i.args .normal) [] (w.forCall tape i)) ∧ F.answers tape :=
  witness_gen (C := Tryf.checked) (wit os) args (World.laidAll_os _ _ _) (wit_shaped os args) hok (OpenSpec.preRow_of_B hk fuel hpre hsz (wit_laid os args)) F

theorem own_knob : ownKnob Tryf.prog.godebug = none := by kernel_rfl
theorem laid_out : laidOutB Tryf.pinned.checked.prog = true := by kernel_rfl
theorem the_stops : Tryf.pinned.checked.prog.stops = ["fmt.Sprintf, its operands' methods called", "fmt.errorf"] := by kernel_rfl
theorem the_knobs : Tryf.pinned.checked.prog.stopKnobs = [] := by kernel_rfl
theorem the_quiet (os : Os) : Stop.quiet Tryf.pinned.checked.prog os := by
  intro k hk
  rw [the_knobs] at hk
  cases hk

theorem i64_bounds {x : Int} (h : (Lit.int .i64 x).wf = true) : -9223372036854775808 ≤ x ∧ x ≤ 9223372036854775807 := by
  simp [Lit.wf, IntKind.min, IntKind.max, IntKind.signed, IntKind.bits] at h
  omega
theorem i32_bounds {x : Int} (h : (Lit.int .i32 x).wf = true) : -2147483648 ≤ x ∧ x ≤ 2147483647 := by
  simp [Lit.wf, IntKind.min, IntKind.max, IntKind.signed, IntKind.bits] at h
  omega

end Go.Proofs.YtdpdgppjeekcmaaFmt
