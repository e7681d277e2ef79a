/-
  Walk of a law of n003_69: scanString is the grammar of escapes.
-/
import Derived.Test.YtdpdgppjeekcmaaFmtZ69S
import Derived.Test.YtdpdgppjeekcmaaFmtZ69q
import Derived.Test.YtdpdgppjeekcmaaFmtZ69m
import Derived.Test.YtdpdgppjeekcmaaFmtP69F
namespace Go.Proofs.YtdpdgppjeekcmaaFmt
open Go Go.Lib Go.RowKit Go.Proofs
open Go.Extern.Stop Go.Stop Go.Extern

def SaysB (w : World) (e : Ending) (w' : World) : Prop := ∃ b, e = .returned (.bool b) ∧ w = w'
theorem rc_trans {a b c : World} (h : Below a.heap.size a b) (k : Below b.heap.size b c) : Below a.heap.size a c := h.trans (k.mono h.size)

set_option maxRecDepth 100000 in
theorem zzBytes_EG (s : ByteArray) (b : Bool) (w : World) (ws : s.size ≤ maxLen) : Calls Tryf.prog 26 #[.string s, .bool b] w (SaysB w) := by
  unfold maxLen at ws
  by_cases z0 : (1048576 : Int) < (s.size : Int)
  · go_enter Tryf.func26, Tryf.ntmps26
    go_wp2_with fail
    go_ret
    exact ⟨_, rfl, rfl⟩
  go_enter Tryf.func26, Tryf.ntmps26
  go_wp2_with fail
  go_ret
  exact ⟨_, rfl, rfl⟩

theorem zzQuote_any (b : Bool) (w : World) : Calls Tryf.prog 12 #[.bool b] w fun e w' => e = .returned (.tuple #[.string ⟨#[if b then 39 else 34]⟩, .int .u8 (if b then 39 else 34)]) ∧ w' = w := by
  cases b
  · go_enter Tryf.func12, Tryf.ntmps12
    go_wp2_with fail
    go_ret2
    exact ⟨rfl, rfl⟩
  · go_enter Tryf.func12, Tryf.ntmps12
    go_wp2_with fail
    go_ret2
    exact ⟨rfl, rfl⟩

set_option maxHeartbeats 4000000 in
set_option maxRecDepth 100000 in
theorem EG_in {W : World} (hT : Tabs W) (F : Stop.Interp) (hF : F.answers W.tape) (body : ByteArray) (sg : Bool) (hs : body.size ≤ 65536) :
    Calls Tryf.prog 8 #[.string body, .bool sg] W fun e w' => e = .returned (.bool true) ∧ Below W.heap.size W w' := by
  have bs : ¬ (65536 : Int) < (body.size : Int) := by omega
  have hz := zzBytes_EG body sg W (by unfold maxLen; omega)
  obtain ⟨q, hq⟩ : ∃ q : Nat, q = (if sg then 39 else 34) := ⟨_, rfl⟩
  obtain ⟨Q, hQ⟩ : ∃ Q : ByteArray, Q = ⟨#[if sg then 39 else 34]⟩ := ⟨_, rfl⟩
  have hq2 : q = 39 ∨ q = 34 := by rw [hq]; cases sg <;> simp
  have hQs : Q.size = 1 := by rw [hQ]; rfl
  have hQb : byt Q 0 = q := by rw [hQ, hq]; cases sg <;> rfl
  have hqi : (if sg = true then 39 else 34 : Int) = (q : Int) := by rw [hq]; cases sg <;> rfl
  obtain ⟨A, hA⟩ : ∃ A, Q ++ body = A := ⟨_, rfl⟩
  have hAs : A.size = body.size + 1 := by rw [← hA, ByteArray.size_append]; omega
  have hqm : (q : Int) ≠ -1 := by omega
  have hlaw := str_law hA.symm hQs hQb (by omega) hqm (by omega)
  have hmod := zzModelScanString_any body q (by omega)
  have hzq := zzQuote_any sg W
  rw [← hQ, hqi] at hzq
  have Hzq := Lib.hid hzq
  have Hz := Lib.hid hz
  have HA := Lib.hid hA
  have wq : IntKind.i32.wrap (q : Int) = (q : Int) := by rw [IntKind.wrap_i32]; omega
  have hcat : Q.size + body.size ≤ 65537 := by omega
  clear hz hzq hA hq hQ hqi hQb
  cases hm : modelStr body q (body.size + 1) 0 0 with
  | some r =>
    obtain ⟨n, e⟩ := r
    obtain ⟨N, hN, hle, hsc⟩ := hlaw.1 n e hm
    have hscan := zzScanString_any hF hT (Below.refl _ W) A (by omega) q hqm n (taken e N) hsc
    rw [show decide ((taken e N).err = none) = true from rfl, show (taken e N).eb = e from rfl, show (taken e N).er = N from rfl] at hscan
    rw [hm] at hmod
    have hrc := zzRuneCount_any (A.extract 0 e) (by rw [ByteArray.size_extract]; omega)
    have hrc2 : ∀ w, Calls Tryf.prog 16 #[.string (A.extract 0 e)] w fun e w' => e = .returned (.int .i64 N) ∧ Below w.heap.size w w' := fun w => (hrc w).mono (by
      rintro e w' ⟨N2, rfl, h2, hb⟩
      rw [h2.cnt_inj hN]
      exact ⟨rfl, hb⟩)
    have Hscan := Lib.hid hscan
    have Hmod := Lib.hid hmod
    have Hrc := Lib.hid hrc2
    have e1 : (e : Int) ≤ (A.size : Int) := by omega
    have e2 : (0 : Int) ≤ (e : Int) := by omega
    clear hscan hmod hrc hrc2 hlaw hN hsc hm
    unfold modVal at Hmod
    go_enter Tryf.func8, Tryf.ntmps8
    go_wp2_with fail
    refine Hz.out.mono ?_
    rintro e w' ⟨b, rfl, rfl⟩
    cases b
    · go_wp2_with fail
      go_ret
      exact ⟨rfl, Below.refl _ _⟩
    go_wp2_with fail
    refine Hzq.out.mono ?_
    rintro e w' ⟨rfl, rfl⟩
    go_wp2_with fail
    rw [HA.out]
    refine Hscan.out.mono ?_
    rintro e w2 ⟨rfl, hb2⟩
    go_wp2_with fail
    refine (Hmod.out _).mono ?_
    rintro e w3 ⟨rfl, hb3⟩
    have hb03 := rc_trans hb2 hb3
    clear hb2 hb3
    go_wp2_with (go_at_call 16; refine (Hrc.out _).mono ?_; rintro e w4 ⟨rfl, hb4⟩)
    go_ret
    exact ⟨rfl, rc_trans hb03 (Below.trans (by repeat (first | exact Below.refl _ _ | apply below_drew | apply below_drewN | apply below_alloc | apply below_grow)) hb4)⟩
  | none =>
    obtain ⟨n, t1, hsc, herr⟩ := hlaw.2 hm
    have hscan := zzScanString_any hF hT (Below.refl _ W) A (by omega) q hqm n t1 hsc
    rw [decide_eq_false herr] at hscan
    rw [hm] at hmod
    have Hscan := Lib.hid hscan
    have Hmod := Lib.hid hmod
    clear hscan hmod hlaw hsc hm herr
    unfold modVal at Hmod
    go_enter Tryf.func8, Tryf.ntmps8
    go_wp2_with fail
    refine Hz.out.mono ?_
    rintro e w' ⟨b, rfl, rfl⟩
    cases b
    · go_wp2_with fail
      go_ret
      exact ⟨rfl, Below.refl _ _⟩
    go_wp2_with fail
    refine Hzq.out.mono ?_
    rintro e w' ⟨rfl, rfl⟩
    go_wp2_with fail
    rw [HA.out]
    refine Hscan.out.mono ?_
    rintro e w2 ⟨rfl, hb2⟩
    go_wp2_with fail
    refine (Hmod.out _).mono ?_
    rintro e w3 ⟨rfl, hb3⟩
    go_wp2_with fail
    go_ret
    exact ⟨rfl, rc_trans hb2 hb3⟩

set_option maxHeartbeats 4000000 in
set_option maxRecDepth 100000 in
theorem EG_walk {W : World} (hT : Tabs W) (F : Stop.Interp) (hF : F.answers W.tape) (body : ByteArray) (sg : Bool) (ws : body.size ≤ maxLen) :
    Calls Tryf.prog 8 #[.string body, .bool sg] W fun e w' => e = .returned (.bool true) ∧ Below W.heap.size W w' := by
  by_cases gs : (65536 : Int) < (body.size : Int)
  · go_enter Tryf.func8, Tryf.ntmps8
    go_wp2_with fail
    refine (zzBytes_EG body sg W ws).mono ?_
    rintro e w' ⟨b, rfl, rfl⟩
    cases b
    · go_wp2_with fail
      go_ret
      exact ⟨rfl, Below.refl _ _⟩
    · go_wp2_with fail
      go_ret
      exact ⟨rfl, Below.refl _ _⟩
  exact EG_in hT F hF body sg (by omega)

end Go.Proofs.YtdpdgppjeekcmaaFmt
