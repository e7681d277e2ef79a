/-
  Walk of a law of n003_69: an accepted string literal does not see what follows.
-/
import Derived.Test.YtdpdgppjeekcmaaFmtZ69S
import Derived.Test.YtdpdgppjeekcmaaFmtSim2
namespace Go.Proofs.YtdpdgppjeekcmaaFmt
open Go Go.Lib Go.RowKit Go.Proofs
open Go.Extern.Stop Go.Stop Go.Extern

def SaysB (w : World) (e : Ending) (w' : World) : Prop := ∃ b, e = .returned (.bool b) ∧ w = w'

set_option maxRecDepth 100000 in
theorem zzBytes_SIF (s k : ByteArray) (b : Bool) (w : World) (ws : s.size ≤ maxLen) (wk : k.size ≤ maxLen) : Calls Tryf.prog 24 #[.string s, .string k, .bool b] w (SaysB w) := by
  unfold maxLen at ws wk
  by_cases z0 : (1048576 : Int) < (s.size : Int)
  · go_enter Tryf.func24, Tryf.ntmps24
    go_wp2_with fail
    go_ret
    exact ⟨_, rfl, rfl⟩
  by_cases z1 : (1048576 : Int) < (k.size : Int)
  · go_enter Tryf.func24, Tryf.ntmps24
    go_wp2_with fail
    go_ret
    exact ⟨_, rfl, rfl⟩
  have zw1 : IntKind.i64.wrap ((s.size : Int) + (k.size : Int)) = (s.size : Int) + (k.size : Int) := by rw [IntKind.wrap_i64]; omega
  by_cases y1 : (1048576 : Int) < (s.size : Int) + (k.size : Int)
  · go_enter Tryf.func24, Tryf.ntmps24
    go_wp2_with fail
    go_ret
    exact ⟨_, rfl, rfl⟩
  go_enter Tryf.func24, Tryf.ntmps24
  go_wp2_with fail
  go_ret
  exact ⟨_, rfl, rfl⟩

theorem zzQuote_any (b : Bool) (w : World) : Calls Tryf.prog 12 #[.bool b] w fun e w' => e = .returned (.tuple #[.string ⟨#[if b then 39 else 34]⟩, .int .u8 (if b then 39 else 34)]) ∧ w' = w := by
  cases b
  · go_enter Tryf.func12, Tryf.ntmps12
    go_wp2_with fail
    go_ret2
    exact ⟨rfl, rfl⟩
  · go_enter Tryf.func12, Tryf.ntmps12
    go_wp2_with fail
    go_ret2
    exact ⟨rfl, rfl⟩

set_option maxHeartbeats 4000000 in
set_option maxRecDepth 100000 in
theorem SIF_in {W : World} (hT : Tabs W) (F : Stop.Interp) (hF : F.answers W.tape) (body rest : ByteArray) (sg : Bool) (hs : body.size ≤ 65536) (hk : rest.size ≤ 65536) :
    Calls Tryf.prog 7 #[.string body, .string rest, .bool sg] W fun e w' => e = .returned (.bool true) ∧ Below W.heap.size W w' := by
  have bs : ¬ (65536 : Int) < (body.size : Int) := by omega
  have bk : ¬ (65536 : Int) < (rest.size : Int) := by omega
  have hz : Calls Tryf.prog 24 #[.string body, .string rest, .bool sg] W (SaysB W) := zzBytes_SIF body rest sg W (by unfold maxLen; omega) (by unfold maxLen; omega)
  obtain ⟨q, hq⟩ : ∃ q : Nat, q = (if sg then 39 else 34) := ⟨_, rfl⟩
  obtain ⟨Q, hQ⟩ : ∃ Q : ByteArray, Q = ⟨#[if sg then 39 else 34]⟩ := ⟨_, rfl⟩
  have hq2 : q = 39 ∨ q = 34 := by rw [hq]; cases sg <;> simp
  have hQs : Q.size = 1 := by rw [hQ]; rfl
  have hQb : byt Q 0 = q := by rw [hQ, hq]; cases sg <;> rfl
  have hqi : (if sg = true then 39 else 34 : Int) = (q : Int) := by rw [hq]; cases sg <;> rfl
  obtain ⟨A, hA⟩ : ∃ A, Q ++ body = A := ⟨_, rfl⟩
  have hAs : A.size = body.size + 1 := by rw [← hA, ByteArray.size_append]; omega
  have hA0 : byt A 0 = q := by rw [← hA, byt_left (by omega)]; exact hQb
  have hqm : (q : Int) ≠ -1 := by omega
  obtain ⟨n, t1, hsc⟩ : ∃ n t1, scanString A q hqm (next A start) = (n, t1) := ⟨_, _, rfl⟩
  have h1 := zzScanString_any hF hT (Below.refl _ W) A (by omega) q hqm n t1 hsc
  have hzq := zzQuote_any sg W
  rw [← hQ, hqi] at hzq
  have Hzq := Lib.hid hzq
  have Hz := Lib.hid hz
  have HA := Lib.hid hA
  have wq : IntKind.i32.wrap (q : Int) = (q : Int) := by rw [IntKind.wrap_i32]; omega
  have hcat : Q.size + body.size ≤ 65537 := by omega
  clear hz hzq hA hq hQ hqi hQb
  go_enter Tryf.func7, Tryf.ntmps7
  go_wp2_with fail
  refine Hz.out.mono ?_
  rintro e w' ⟨b, rfl, rfl⟩
  cases b
  · go_wp2_with fail
    go_ret
    exact ⟨rfl, Below.refl _ _⟩
  go_wp2_with fail
  refine Hzq.out.mono ?_
  rintro e w' ⟨rfl, rfl⟩
  go_wp2_with fail
  rw [HA.out]
  refine h1.mono ?_
  rintro e w2 ⟨rfl, hb2⟩
  by_cases he : t1.err = none
  · have hd : decide (t1.err = none) = true := decide_eq_true he
    rw [hd]
    obtain ⟨g1, g2, g3, g4, g5, g6⟩ := ign_main A rest q (by omega) hqm (by omega) hA0 n t1 hsc he
    obtain ⟨B, hB⟩ : ∃ B, A.extract 0 t1.eb ++ rest = B := ⟨_, rfl⟩
    rw [hB] at g6
    have hBs : B.size ≤ 1099511627776 := by rw [← hB, ByteArray.size_append, ByteArray.size_extract]; omega
    have h2 := zzScanString_any hF hT hb2 B hBs q hqm n t1 g6
    rw [hd] at h2
    have hi : t1.eb - 1 < A.size := by omega
    rw [byt_of hi] at g3
    have c1 : ¬ (t1.eb : Int) < 2 := by omega
    have c2 : ¬ (A.size : Int) < (t1.eb : Int) := by omega
    have c3 : ((t1.eb : Int) - 1).toNat = t1.eb - 1 := by omega
    have c4 : ¬ (n : Int) < 0 := by omega
    have c5 : ¬ (t1.eb : Int) - 2 < (n : Int) := by omega
    have c6 : ¬ (t1.eb : Int) < (t1.er : Int) := by omega
    have c7 : (0 : Int) ≤ (t1.eb : Int) - 1 := by omega
    have c8 : (t1.eb : Int) - 1 < (A.size : Int) := by omega
    have c9 : (((A[t1.eb - 1]'hi).toNat : Int) != (q : Int)) = false := by rw [g3]; simp
    have H2 := Lib.hid h2
    have HB := Lib.hid hB
    clear h2 hB g3 g6 hd he hsc hBs
    go_wp2_with fail
    rw [HB.out]
    refine H2.out.mono ?_
    rintro e w3 ⟨rfl, hb3⟩
    go_wp2_with fail
    go_ret
    exact ⟨rfl, hb3⟩
  · have hd : decide (t1.err = none) = false := decide_eq_false he
    rw [hd]
    clear hd he hsc
    go_wp2_with fail
    go_ret
    exact ⟨rfl, hb2⟩

set_option maxHeartbeats 4000000 in
set_option maxRecDepth 100000 in
theorem SIF_walk {W : World} (hT : Tabs W) (F : Stop.Interp) (hF : F.answers W.tape) (body rest : ByteArray) (sg : Bool) (ws : body.size ≤ maxLen) (wk : rest.size ≤ maxLen) :
    Calls Tryf.prog 7 #[.string body, .string rest, .bool sg] W fun e w' => e = .returned (.bool true) ∧ Below W.heap.size W w' := by
  by_cases gs : (65536 : Int) < (body.size : Int)
  · go_enter Tryf.func7, Tryf.ntmps7
    go_wp2_with fail
    refine (zzBytes_SIF body rest sg W ws wk).mono ?_
    rintro e w' ⟨b, rfl, rfl⟩
    cases b
    · go_wp2_with fail
      go_ret
      exact ⟨rfl, Below.refl _ _⟩
    · go_wp2_with fail
      go_ret
      exact ⟨rfl, Below.refl _ _⟩
  by_cases gk : (65536 : Int) < (rest.size : Int)
  · go_enter Tryf.func7, Tryf.ntmps7
    go_wp2_with fail
    refine (zzBytes_SIF body rest sg W ws wk).mono ?_
    rintro e w' ⟨b, rfl, rfl⟩
    cases b
    · go_wp2_with fail
      go_ret
      exact ⟨rfl, Below.refl _ _⟩
    · go_wp2_with fail
      go_ret
      exact ⟨rfl, Below.refl _ _⟩
  exact SIF_in hT F hF body rest sg (by omega) (by omega)

end Go.Proofs.YtdpdgppjeekcmaaFmt
