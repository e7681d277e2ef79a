/-
  Walk: every state, as Next calls it.
-/
import Derived.Test.YtkplkccjeacniaaGreatFmtRootD
import Derived.Test.YtkplkccjeacniaaGreatFmtNumber2
import Derived.Test.YtkplkccjeacniaaGreatFmtComm
import Derived.Test.YtkplkccjeacniaaGreatFmtIdent
import Derived.Test.YtkplkccjeacniaaGreatFmtJB
namespace Go.Proofs.YtkplkccjeacniaaGreatFmt
open Go Go.Lib Go.RowKit Go.Proofs
open Go.Extern.Stop Go.Stop Go.Extern

/-- A state's function. -/
def fOf : Q → Nat
  | .root => 28
  | .number => 50
  | .questionMark => 51
  | .slash => 52
  | .pointer => 53
  | .dot => 57
  | .identifier => 59
  | .not => 87
  | .singleLine => 82
  | .multiLine => 83

theorem state_any {F : Stop.Interp} {W0 w : World} {S : Nat → Prop} {L : Nat} {s : ByteArray} {t : St} (hF : F.answers W0.tape) (H : Lx W0 S w L s t) (q : Q) (G : Good s q t) (hn : t.toks = []) :
    Calls Tryz.prog (fOf q) #[.pointer (some ⟨L, 0, none⟩)] w fun e w' => e = .returned (qVal (state q s t).1) ∧ Done W0 S w L s (state q s t).2 w' := by
  have h9 : t.toks.length ≤ 9 := by rw [hn]; simp
  have h8 : t.toks.length ≤ 8 := by rw [hn]; simp
  have hle := G.bd.le
  cases q with
  | root => exact root_any hF H hle h9 (fun h => G.backRoot (peek_lt h)) (fun h => by have := (G.root rfl).1; have := next_gt (peek_lt h); omega)
  | number => exact number_any hF H hle h9
  | questionMark => exact questionMark_any H hle h9
  | slash => exact slash_any H hle h9
  | pointer => exact pointer_any H (G.back (by decide)) h8
  | dot => exact dot_any H (G.back (by decide)) (peek_lt (by rw [(G.dot rfl).1]; decide)) h9
  | identifier => exact identifier_any H (G.back (by decide)) h9
  | not => exact not_any H (G.back (by decide)) h8
  | singleLine => exact singleLine_any H
  | multiLine => exact multiLine_any hF H

end Go.Proofs.YtkplkccjeacniaaGreatFmt
