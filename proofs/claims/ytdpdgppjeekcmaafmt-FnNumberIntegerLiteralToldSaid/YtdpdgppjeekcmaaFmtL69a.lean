/-
  Walk of a law of n003_69: a written integer is one Number token.
-/
import Derived.Test.YtdpdgppjeekcmaaFmtRender69c
namespace Go.Proofs.YtdpdgppjeekcmaaFmt
open Go Go.Lib Go.RowKit Go.Proofs
open Go.Extern.Stop Go.Stop Go.Extern

theorem u64_bounds {x : Int} (h : (Lit.int .u64 x).wf = true) : 0 ≤ x ∧ x ≤ 18446744073709551615 := by
  simp [Lit.wf, IntKind.min, IntKind.max, IntKind.signed, IntKind.bits] at h
  omega
theorem u8_bounds {x : Int} (h : (Lit.int .u8 x).wf = true) : 0 ≤ x ∧ x ≤ 255 := by
  simp [Lit.wf, IntKind.min, IntKind.max, IntKind.signed, IntKind.bits] at h
  omega

set_option maxHeartbeats 4000000 in
set_option maxRecDepth 100000 in
theorem NIL_walk {W : World} (hT : Tabs W) (F : Stop.Interp) (hF : F.answers W.tape) (x sel : Int) (up ud sp : Bool) (lx : 0 ≤ x) (ux : x ≤ 18446744073709551615) (ls : 0 ≤ sel) (us : sel ≤ 255) :
    Calls Tryf.prog 3 #[.int .u64 x, .int .u8 sel, .bool up, .bool ud, .bool sp] W fun e w' => e = .returned (.bool true) ∧ Below W.heap.size W w' := by
  obtain ⟨x, rfl⟩ := Int.eq_ofNat_of_zero_le lx
  obtain ⟨sel, rfl⟩ := Int.eq_ofNat_of_zero_le ls
  have hm : ((sel : Int) % 4) = ((sel % 4 : Nat) : Int) := by omega
  have Hm := Lib.hid hm
  clear hm
  have go : ∀ (T : ByteArray) (w1 : World), LitText T → Below W.heap.size W w1 → ∀ s : ByteArray, (s = T ∨ s = T ++ ⟨#[32]⟩) → Calls Tryf.prog 10 #[.string s] w1 fun e w' => e = .returned (.tuple #[.bool false, .bool true, .int .i64 1, .string kNumber, .string T, .int .i64 0, .int .i64 T.size, .int .i64 T.size, .int .i64 T.size]) ∧ Below W.heap.size W w' := by
    intro T w1 hl hb s hs
    have h1 := hl.2 s hs
    have hsz : s.size ≤ 1099511627776 := by
      have := hl.1
      rcases hs with rfl | rfl
      · omega
      · rw [ByteArray.size_append]
        have : (⟨#[32]⟩ : ByteArray).size = 1 := rfl
        omega
    have hx : s.extract 0 T.size = T := by
      obtain ⟨rest, _, he⟩ := stop_of hs
      apply ByteArray.ext
      apply Array.ext'
      rw [Lib.extract_data, he]
      simp only [List.drop_zero, Nat.sub_zero]
      rw [Lib.size_eq]
      exact List.take_left
    have h2 := zzNumberStep_ok hF hT hb s hsz (adv T.size start) h1
    have e1 : (adv T.size start).eb = T.size := by show 0 + T.size = _; omega
    have e2 : (adv T.size start).er = T.size := by show 0 + T.size = _; omega
    rw [e1, e2, hx] at h2
    exact h2
  have Go := Lib.hid go
  clear go
  cases sp with
  | false =>
    go_enter Tryf.func3, Tryf.ntmps3
    go_wp2_with fail
    rw [Hm.out]
    refine (zzRender_any x (sel % 4) up ud (by omega) (by omega) _).mono ?_
    rintro e w1 ⟨T, rfl, hl, hb⟩
    have Hl := Lib.hid hl
    clear hl
    go_wp2_with fail
    refine (Go.out T _ Hl.out hb T (.inl rfl)).mono ?_
    rintro e w2 ⟨rfl, hb2⟩
    unfold kNumber
    go_wp2_with fail
    go_ret
    refine ⟨?_, hb2⟩
    simp only [Array.getD_eq_getD_getElem?, List.getElem?_toArray, List.getElem?_cons_succ, List.getElem?_cons_zero, Option.getD_some]
  | true =>
    go_enter Tryf.func3, Tryf.ntmps3
    go_wp2_with fail
    rw [Hm.out]
    refine (zzRender_any x (sel % 4) up ud (by omega) (by omega) _).mono ?_
    rintro e w1 ⟨T, rfl, hl, hb⟩
    have hT66 := hl.1
    have Hl := Lib.hid hl
    clear hl
    go_wp2_with fail
    refine (Go.out T w1 Hl.out hb _ (Or.inr rfl)).mono ?_
    rintro e w2 ⟨rfl, hb2⟩
    unfold kNumber
    go_wp2_with fail
    go_ret
    refine ⟨?_, hb2⟩
    simp only [Array.getD_eq_getD_getElem?, List.getElem?_toArray, List.getElem?_cons_succ, List.getElem?_cons_zero, Option.getD_some]

end Go.Proofs.YtdpdgppjeekcmaaFmt
