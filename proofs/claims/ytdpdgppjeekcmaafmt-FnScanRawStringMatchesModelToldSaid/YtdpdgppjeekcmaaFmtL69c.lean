/-
  Walk of a law of n003_69: scanRawString is the law's model.
-/
import Derived.Test.YtdpdgppjeekcmaaFmtZ69R
import Derived.Test.YtdpdgppjeekcmaaFmtZ69o
namespace Go.Proofs.YtdpdgppjeekcmaaFmt
open Go Go.Lib Go.RowKit Go.Proofs
open Go.Extern.Stop Go.Stop Go.Extern

def SaysB (w : World) (e : Ending) (w' : World) : Prop := ∃ b, e = .returned (.bool b) ∧ w = w'
theorem str_self (v : ByteArray) : (v.toList == v.toList) = true := by simp
theorem rc_trans {a b c : World} (h : Below a.heap.size a b) (k : Below b.heap.size b c) : Below a.heap.size a c := h.trans (k.mono h.size)

set_option maxRecDepth 100000 in
theorem zzBytes_RM (s : ByteArray) (w : World) (ws : s.size ≤ maxLen) : Calls Tryf.prog 22 #[.string s] w (SaysB w) := by
  unfold maxLen at ws
  by_cases z0 : (1048576 : Int) < (s.size : Int)
  · go_enter Tryf.func22, Tryf.ntmps22
    go_wp2_with fail
    go_ret
    exact ⟨_, rfl, rfl⟩
  go_enter Tryf.func22, Tryf.ntmps22
  go_wp2_with fail
  go_ret
  exact ⟨_, rfl, rfl⟩

set_option maxHeartbeats 4000000 in
set_option maxRecDepth 100000 in
theorem RM_in {W : World} (hT : Tabs W) (F : Stop.Interp) (hF : F.answers W.tape) (body : ByteArray) (hs : body.size ≤ 65536) :
    Calls Tryf.prog 6 #[.string body] W fun e w' => e = .returned (.bool true) ∧ Below W.heap.size W w' := by
  have bs : ¬ (65536 : Int) < (body.size : Int) := by omega
  have hz := zzBytes_RM body W (by unfold maxLen; omega)
  obtain ⟨Q, hQ⟩ : ∃ Q : ByteArray, Q = ⟨#[96]⟩ := ⟨_, rfl⟩
  have hQs : Q.size = 1 := by rw [hQ]; rfl
  have hQb : byt Q 0 < 128 := by rw [hQ]; decide
  obtain ⟨A, hA⟩ : ∃ A, Q ++ body = A := ⟨_, rfl⟩
  have hAs : A.size = body.size + 1 := by rw [← hA, ByteArray.size_append]; omega
  have hlaw := raw_model hA.symm hQs hQb
  have hn1 := (next_quote (A := A) (by omega) (by rw [← hA, byt_l (by omega)]; exact hQb)).1
  have he1 : (next A start).eb = 1 := by rw [hn1]; rfl
  have hmod := zzModelRaw_any body (by omega)
  rw [hQ] at hA
  have HA := Lib.hid hA
  have Hz := Lib.hid hz
  have Hmod := Lib.hid hmod
  have hcat : 1 + body.size ≤ 65537 := by omega
  clear hz hA hmod hQ hQs hQb hn1
  obtain ⟨b, n, j, p, hm⟩ : ∃ b n j p, rawM body 0 0 0 = (b, n, j, p) := ⟨_, _, _, _, rfl⟩
  cases b with
  | true =>
    obtain ⟨N, hN, hG, hv, hj, hnb⟩ := hlaw.1 n j p hm
    have hscan := zzScanRaw_ok hF hT (Below.refl _ W) A (by omega) he1 (by omega) n p (j + 2) N hG
    rw [hv] at hscan
    rw [hm] at Hmod
    have hN2 := hN.n_le
    rw [ByteArray.size_extract] at hN2
    obtain ⟨V, hV⟩ : ∃ V, rawKeep body j p = V := ⟨_, rfl⟩
    have hmv : rawVal body (true, n, j, p) = .tuple #[.bool true, .int .i64 n, .int .i64 (j + 2 : Nat), .string V] := by rw [← hV]; rfl
    rw [hV] at hscan
    rw [hmv] at Hmod
    have hrc := zzRuneCount_any (A.extract 0 (j + 2)) (by rw [ByteArray.size_extract]; omega)
    have hrc2 : ∀ w, Calls Tryf.prog 16 #[.string (A.extract 0 (j + 2))] w fun e w' => e = .returned (.int .i64 N) ∧ Below w.heap.size w w' := fun w => (hrc w).mono (by
      rintro e w' ⟨N2, rfl, h2, hb⟩
      rw [h2.cnt_inj hN]
      exact ⟨rfl, hb⟩)
    have Hscan := Lib.hid hscan
    have Hrc := Lib.hid hrc2
    have vs := str_self V
    obtain ⟨e, he⟩ : ∃ e, e = j + 2 := ⟨_, rfl⟩
    rw [← he] at Hscan Hmod Hrc hj
    have e1 : (e : Int) ≤ (A.size : Int) := by omega
    have e2 : (0 : Int) ≤ (e : Int) := by omega
    clear hscan hrc hrc2 hlaw hN hG hv hV hmv hm he
    go_enter Tryf.func6, Tryf.ntmps6
    go_wp2_with fail
    refine Hz.out.mono ?_
    rintro e w' ⟨b, rfl, rfl⟩
    cases b
    · go_wp2_with fail
      go_ret
      exact ⟨rfl, Below.refl _ _⟩
    go_wp2_with fail
    rw [HA.out]
    refine Hscan.out.mono ?_
    rintro e w2 ⟨rfl, hb2⟩
    go_wp2_with fail
    refine (Hmod.out _).mono ?_
    rintro e w3 ⟨rfl, hb3⟩
    have hb03 := rc_trans hb2 hb3
    clear hb2 hb3
    go_wp2_with (go_at_call 16; refine (Hrc.out _).mono ?_; rintro e w4 ⟨rfl, hb4⟩)
    go_ret
    exact ⟨rfl, rc_trans hb03 (Below.trans (by repeat (first | exact Below.refl _ _ | apply below_drew | apply below_drewN | apply below_alloc | apply below_grow)) hb4)⟩
  | false =>
    obtain ⟨n2, e2, t1, hG⟩ := hlaw.2 (by rw [hm])
    have hscan := zzScanRaw_bad hF hT (Below.refl _ W) A (by omega) he1 (by omega) n2 e2 t1 hG
    rw [hm] at Hmod
    have Hscan := Lib.hid hscan
    clear hscan hlaw hG hm
    unfold rawVal at Hmod
    go_enter Tryf.func6, Tryf.ntmps6
    go_wp2_with fail
    refine Hz.out.mono ?_
    rintro e w' ⟨b, rfl, rfl⟩
    cases b
    · go_wp2_with fail
      go_ret
      exact ⟨rfl, Below.refl _ _⟩
    go_wp2_with fail
    rw [HA.out]
    refine Hscan.out.mono ?_
    rintro e w2 ⟨rfl, hb2⟩
    go_wp2_with fail
    refine (Hmod.out _).mono ?_
    rintro e w3 ⟨rfl, hb3⟩
    go_wp2_with fail
    go_ret
    exact ⟨rfl, rc_trans hb2 hb3⟩

set_option maxHeartbeats 4000000 in
set_option maxRecDepth 100000 in
theorem RM_walk {W : World} (hT : Tabs W) (F : Stop.Interp) (hF : F.answers W.tape) (body : ByteArray) (ws : body.size ≤ maxLen) :
    Calls Tryf.prog 6 #[.string body] W fun e w' => e = .returned (.bool true) ∧ Below W.heap.size W w' := by
  by_cases gs : (65536 : Int) < (body.size : Int)
  · go_enter Tryf.func6, Tryf.ntmps6
    go_wp2_with fail
    refine (zzBytes_RM body W ws).mono ?_
    rintro e w' ⟨b, rfl, rfl⟩
    cases b
    · go_wp2_with fail
      go_ret
      exact ⟨rfl, Below.refl _ _⟩
    · go_wp2_with fail
      go_ret
      exact ⟨rfl, Below.refl _ _⟩
  exact RM_in hT F hF body (by omega)

end Go.Proofs.YtdpdgppjeekcmaaFmt
