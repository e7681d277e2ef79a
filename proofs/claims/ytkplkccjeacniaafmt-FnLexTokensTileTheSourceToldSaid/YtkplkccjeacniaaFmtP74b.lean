/-
  Every text is lexed to an end. No program stands in this text.
-/
import Derived.Test.YtkplkccjeacniaaFmtJB
import Derived.Test.YtkplkccjeacniaaFmtSteps
namespace Go.Proofs.YtkplkccjeacniaaFmt
open Go Go.Lib

theorem inv_begin (s : ByteArray) : Inv s start := fun _ q hq => by
  have e : q = .root := by change some Q.root = some q at hq; cases hq; rfl
  subst e
  exact ⟨.zero, .zero, Nat.le_refl _, (fun h => by cases h), fun _ => ⟨rfl, rfl⟩, (fun h => by cases h), (fun h => by cases h), (fun h => by cases h), (fun h => by rcases h with h | h | h | h <;> cases h)⟩

/-- What a text comes to: its tokens, and where the lexer stands behind them. -/
structure Lexed (s : ByteArray) (t : St) (l : List Tok) (u : St) : Prop where
  out : Out s t l u
  ended : Ended s t l u
  drain : ∀ n, l.length < n → drain s n t = (l, u)
  len : l.length ≤ s.size + 1
  stop : nextS s u = (none, u)
  inv : Inv s u

theorem lexed (s : ByteArray) : ∃ l u, Lexed s start l u := by
  obtain ⟨l, u, ho, he⟩ := out_exists s _ _ start rfl rfl (inv_begin s) rfl
  refine ⟨l, u, ho, he, fun n hn => out_drain ho (inv_begin s) rfl n hn, ?_, (out_end ho).1, fun h1 q hq => ?_⟩
  · by_cases hu : u.err = none
    · obtain ⟨_, _, _, hb, _, _, _, l', rfl, ht⟩ := he.ok hu
      have h1 := tiled_len ht
      have h2 := hb.n_le
      rw [List.length_append]
      simp
      omega
    · obtain ⟨m, hm, ht⟩ := he.bad hu
      have h1 := tiled_len ht
      omega
  · obtain ⟨h2, _⟩ := he.ok h1
    rw [h2] at hq
    cases hq

end Go.Proofs.YtkplkccjeacniaaFmt
