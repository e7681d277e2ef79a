/-
  Walks: IsAlphabetic, IsAlphaNumeric, IsSpace.
-/
import Derived.Test.YtdpdgppjeekcmaaFmtBase
import Derived.Shelf.Unicode.PredsPay
namespace Go.Proofs.YtdpdgppjeekcmaaFmt
open Go Go.Lib Go.RowKit Go.Proofs

theorem alpha_any {w : World} (hT : Tabs w) (r : Int) (h0 : -2147483648 ≤ r) (h1 : r ≤ 2147483647) :
    Calls Tryf.prog 92 #[.int .i32 r] w fun e w' => e = .returned (.bool (alpha r)) ∧ ∃ xs d, w' = grow w xs d := by
  by_cases a : r = 95
  · subst a
    go_enter Tryf.func92, Tryf.ntmps92
    go_wp2_with fail
    go_ret
    exact ⟨rfl, grow_of (by repeat (first | exact Below.refl _ _ | apply below_drew | apply below_drewN | apply below_alloc | apply below_grow))⟩
  · by_cases b : r = 36
    · subst b
      go_enter Tryf.func92, Tryf.ntmps92
      go_wp2_with fail
      go_ret
      exact ⟨rfl, grow_of (by repeat (first | exact Below.refl _ _ | apply below_drew | apply below_drewN | apply below_alloc | apply below_grow))⟩
    · have e1 : (r == 95) = false := by simpa using a
      have e2 : (r == 36) = false := by simpa using b
      have e3 : alpha r = isLetterU r := by unfold alpha; simp [a, b]
      rw [e3]
      obtain ⟨v, hv⟩ : ∃ v, isLetterU r = v := ⟨_, rfl⟩
      have Hv := Lib.hid hv
      rw [hv]
      clear hv e3
      go_enter Tryf.func92, Tryf.ntmps92
      go_wp2_with fail
      refine (Tryf.unicode_IsLetter_all r _ h0 h1 hT.props hT.letter).mono ?_
      rintro e w' ⟨rfl, hb⟩
      rw [Hv.out]
      obtain ⟨xs, d, rfl⟩ := grow_of hb
      go_wp2_with fail
      go_ret
      exact ⟨rfl, xs, d, rfl⟩

theorem alnum_any {w : World} (hT : Tabs w) (r : Int) (h0 : -2147483648 ≤ r) (h1 : r ≤ 2147483647) :
    Calls Tryf.prog 61 #[.int .i32 r] w fun e w' => e = .returned (.bool (alnum r)) ∧ ∃ xs d, w' = grow w xs d := by
  obtain ⟨v, hv⟩ : ∃ v, alpha r = v := ⟨_, rfl⟩
  obtain ⟨u, hu⟩ : ∃ u, isDigitU r = u := ⟨_, rfl⟩
  have e3 : alnum r = (v || u) := by unfold alnum; rw [hv, hu]
  rw [e3]
  have Hv := Lib.hid hv
  have Hu := Lib.hid hu
  clear hv hu e3
  cases v with
  | true =>
    go_enter Tryf.func61, Tryf.ntmps61
    go_wp2_with fail
    refine (alpha_any hT r h0 h1).mono ?_
    rintro e w' ⟨rfl, xs, d, rfl⟩
    rw [Hv.out]
    go_wp2_with fail
    go_ret
    exact ⟨rfl, xs, d, rfl⟩
  | false =>
    go_enter Tryf.func61, Tryf.ntmps61
    go_wp2_with fail
    refine (alpha_any hT r h0 h1).mono ?_
    rintro e w' ⟨rfl, xs, d, rfl⟩
    rw [Hv.out]
    have hb := grow_below w xs d
    go_wp2_with fail
    refine (Tryf.unicode_IsDigit_all r _ h0 h1 (hT.below hb).digit).mono ?_
    rintro e w' ⟨rfl, hb2⟩
    rw [Hu.out]
    have hb3 := hb.trans (hb2.mono hb.size)
    go_wp2_with fail
    go_ret
    exact ⟨by simp, grow_of hb3⟩

theorem isSpace_any {w : World} (hT : Tabs w) (r : Int) (h0 : -2147483648 ≤ r) (h1 : r ≤ 2147483647) :
    Calls Tryf.prog 48 #[.int .i32 r] w fun e w' => e = .returned (.bool (Lib.isSpaceZ r)) ∧ ∃ xs d, w' = grow w xs d := by
  go_enter Tryf.func48, Tryf.ntmps48
  go_wp2_with fail
  refine (Tryf.unicode_IsSpace_any r _ h0 h1 hT.white).mono ?_
  rintro e w' ⟨rfl, hb⟩
  obtain ⟨xs, d, rfl⟩ := grow_of hb
  go_wp2_with fail
  go_ret
  exact ⟨rfl, xs, d, rfl⟩

end Go.Proofs.YtdpdgppjeekcmaaFmt
