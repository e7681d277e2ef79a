/-
  Walk of a law of n003_69: root at a quoted text without escapes.
-/
import Derived.Test.YtdpdgppjeekcmaaFmtZ69t
import Derived.Test.YtdpdgppjeekcmaaFmtZ69o
namespace Go.Proofs.YtdpdgppjeekcmaaFmt
open Go Go.Lib Go.RowKit Go.Proofs
open Go.Extern.Stop Go.Stop Go.Extern

def SaysB (w : World) (e : Ending) (w' : World) : Prop := ∃ b, e = .returned (.bool b) ∧ w = w'
theorem str_self (v : ByteArray) : (v.toList == v.toList) = true := by simp
theorem rc_trans {a b c : World} (h : Below a.heap.size a b) (k : Below b.heap.size b c) : Below a.heap.size a c := h.trans (k.mono h.size)

set_option maxRecDepth 100000 in
theorem zzBytes_RP (s k : ByteArray) (b : Bool) (w : World) (ws : s.size ≤ maxLen) (wk : k.size ≤ maxLen) : Calls Tryf.prog 11 #[.string s, .string k, .bool b] w (SaysB w) := by
  unfold maxLen at ws wk
  by_cases z0 : (1048576 : Int) < (s.size : Int)
  · go_enter Tryf.func11, Tryf.ntmps11
    go_wp2_with fail
    go_ret
    exact ⟨_, rfl, rfl⟩
  by_cases z1 : (1048576 : Int) < (k.size : Int)
  · go_enter Tryf.func11, Tryf.ntmps11
    go_wp2_with fail
    go_ret
    exact ⟨_, rfl, rfl⟩
  have zw1 : IntKind.i64.wrap ((s.size : Int) + (k.size : Int)) = (s.size : Int) + (k.size : Int) := by rw [IntKind.wrap_i64]; omega
  by_cases y1 : (1048576 : Int) < (s.size : Int) + (k.size : Int)
  · go_enter Tryf.func11, Tryf.ntmps11
    go_wp2_with fail
    go_ret
    exact ⟨_, rfl, rfl⟩
  go_enter Tryf.func11, Tryf.ntmps11
  go_wp2_with fail
  go_ret
  exact ⟨_, rfl, rfl⟩

theorem zzQuote_any (b : Bool) (w : World) : Calls Tryf.prog 12 #[.bool b] w fun e w' => e = .returned (.tuple #[.string ⟨#[if b then 39 else 34]⟩, .int .u8 (if b then 39 else 34)]) ∧ w' = w := by
  cases b
  · go_enter Tryf.func12, Tryf.ntmps12
    go_wp2_with fail
    go_ret2
    exact ⟨rfl, rfl⟩
  · go_enter Tryf.func12, Tryf.ntmps12
    go_wp2_with fail
    go_ret2
    exact ⟨rfl, rfl⟩

set_option maxHeartbeats 4000000 in
set_option maxRecDepth 100000 in
theorem RP_in {W : World} (hT : Tabs W) (F : Stop.Interp) (hF : F.answers W.tape) (body rest : ByteArray) (sg : Bool) (hs : body.size ≤ 65536) (hk : rest.size ≤ 65536) :
    Calls Tryf.prog 4 #[.string body, .string rest, .bool sg] W fun e w' => e = .returned (.bool true) ∧ Below W.heap.size W w' := by
  have bs : ¬ (65536 : Int) < (body.size : Int) := by omega
  have bk : ¬ (65536 : Int) < (rest.size : Int) := by omega
  have hz := zzBytes_RP body rest sg W (by unfold maxLen; omega) (by unfold maxLen; omega)
  obtain ⟨q, hq⟩ : ∃ q : UInt8, q = (if sg then 39 else 34) := ⟨_, rfl⟩
  obtain ⟨Q, hQ⟩ : ∃ Q : ByteArray, Q = ⟨#[if sg then 39 else 34]⟩ := ⟨_, rfl⟩
  have hq2 : q.toNat = 39 ∨ q.toNat = 34 := by rw [hq]; cases sg <;> simp
  have hQs : Q.size = 1 := by rw [hQ]; rfl
  have hQb : byt Q 0 = q.toNat := by rw [hQ, hq]; cases sg <;> rfl
  have hqi : (if sg = true then 39 else 34 : Int) = (q.toNat : Int) := by rw [hq]; cases sg <;> rfl
  have hzq := zzQuote_any sg W
  rw [← hQ, hqi] at hzq
  have hh1 := zzHasByte_any body q (by omega)
  have hh2 := zzHasByte_any body 92 (by omega)
  have hh3 := zzHasByte_any body 10 (by omega)
  obtain ⟨L1, hL1⟩ : ∃ L : ByteArray, Q ++ body = L := ⟨_, rfl⟩
  obtain ⟨L2, hL2⟩ : ∃ L : ByteArray, L1 ++ Q = L := ⟨_, rfl⟩
  obtain ⟨A, hA⟩ : ∃ L : ByteArray, L2 ++ rest = L := ⟨_, rfl⟩
  have l1 : L1.size = 1 + body.size := by rw [← hL1, ByteArray.size_append, hQs]
  have l2 : L2.size = body.size + 2 := by rw [← hL2, ByteArray.size_append, hQs]; omega
  have l3 : A.size = body.size + 2 + rest.size := by rw [← hA, ByteArray.size_append]; omega
  have c1 : Q.size + body.size ≤ 65537 := by omega
  have c2 : L1.size + Q.size ≤ 65538 := by omega
  have c3 : L2.size + rest.size ≤ 131074 := by omega
  have hlaw := fun (hno : ∀ x, x < body.size → byt body x ≠ q.toNat ∧ byt body x ≠ 92 ∧ byt body x ≠ 10) => plain_root (rest := rest) hq2 Q hQs hQb hno hs
  rw [hL1, hL2, hA] at hlaw
  have hstep := fun (hno : ∀ x, x < body.size → byt body x ≠ q.toNat ∧ byt body x ≠ 92 ∧ byt body x ≠ 10) (w : World) (hlow : Below W.heap.size W w) => zzRootStep_ok hF hT hlow A (by omega) (body.size + 2) (runesTo body 0 + 2) ⟨(normGo body 0).toArray⟩ (hlaw hno)
  obtain ⟨V, hV⟩ : ∃ V : ByteArray, V = ⟨(normGo body 0).toArray⟩ := ⟨_, rfl⟩
  have hnorm := zzNormalize_any body (by omega)
  rw [← hV] at hstep hnorm
  have hrc := zzRuneCount_any body (by omega)
  have hct := bd_count body
  have hrt := hct.n_le
  obtain ⟨rt, hrt0⟩ : ∃ rt, runesTo body 0 = rt := ⟨_, rfl⟩
  rw [hrt0] at hct hrt hstep
  have hrc1 : ∀ w, Calls Tryf.prog 16 #[.string body] w fun e w' => e = .returned (.int .i64 rt) ∧ Below w.heap.size w w' := fun w => (hrc w).mono (by
    rintro e w' ⟨N2, rfl, h2, hb⟩
    rw [h2.cnt_inj hct]
    exact ⟨rfl, hb⟩)
  have vs := str_self V
  have ks := str_self kString
  have Hz := Lib.hid hz
  have Hzq := Lib.hid hzq
  have H1 := Lib.hid hh1
  have H2 := Lib.hid hh2
  have H3 := Lib.hid hh3
  have HL1 := Lib.hid hL1
  have HL2 := Lib.hid hL2
  have HA := Lib.hid hA
  have Hstep := Lib.hid hstep
  have Hnorm := Lib.hid hnorm
  have Hrc := Lib.hid hrc1
  have Hq2 := Lib.hid hq2
  clear hz hzq hh1 hh2 hh3 hL1 hL2 hA hstep hnorm hrc hrc1 hq hQ hqi hQb hlaw hct hV hrt0 hq2
  go_enter Tryf.func4, Tryf.ntmps4
  go_wp2_with fail
  refine Hz.out.mono ?_
  rintro e w' ⟨b, rfl, rfl⟩
  cases b
  · go_wp2_with fail
    go_ret
    exact ⟨rfl, Below.refl _ _⟩
  go_wp2_with fail
  refine Hzq.out.mono ?_
  rintro e w' ⟨rfl, rfl⟩
  go_wp2_with fail
  refine (H1.out _).mono ?_
  rintro e w1 ⟨b1, rfl, n1, hb1⟩
  cases b1
  rotate_left
  · go_wp2_with fail
    go_ret
    exact ⟨rfl, hb1⟩
  have N1 := Lib.hid (n1 rfl)
  clear n1
  go_wp2_with fail
  refine (H2.out _).mono ?_
  rintro e w2 ⟨b2, rfl, n2, hb2⟩
  have hb12 := rc_trans hb1 (Below.trans (by repeat (first | exact Below.refl _ _ | apply below_drew | apply below_drewN | apply below_alloc | apply below_grow)) hb2)
  clear hb1 hb2
  cases b2
  rotate_left
  · go_wp2_with fail
    go_ret
    exact ⟨rfl, hb12⟩
  have N2 := Lib.hid (n2 rfl)
  clear n2
  go_wp2_with fail
  refine (H3.out _).mono ?_
  rintro e w3 ⟨b3, rfl, n3, hb3⟩
  have hb13 := rc_trans hb12 (Below.trans (by repeat (first | exact Below.refl _ _ | apply below_drew | apply below_drewN | apply below_alloc | apply below_grow)) hb3)
  clear hb12 hb3
  cases b3
  rotate_left
  · go_wp2_with fail
    go_ret
    exact ⟨rfl, hb13⟩
  have N3 := Lib.hid (n3 rfl)
  clear n3
  go_wp2_with fail
  rw [HL1.out, HL2.out, HA.out]
  refine (Hstep.out (fun x hx => ⟨N1.out x hx, N2.out x hx, N3.out x hx⟩) _ (by repeat (first | exact hb13 | apply below_drew | apply below_drewN | apply below_alloc | apply below_grow))).mono ?_
  rintro e w4 ⟨rfl, hb4⟩
  obtain ⟨r2, hr2⟩ : ∃ r2, rt + 2 = r2 := ⟨_, rfl⟩
  obtain ⟨b2, hb2⟩ : ∃ b2, body.size + 2 = b2 := ⟨_, rfl⟩
  rw [hr2, hb2]
  have r20 : (rt : Int) + 2 = (r2 : Int) := by omega
  have b20 : (body.size : Int) + 2 = (b2 : Int) := by omega
  unfold kString
  clear hr2 hb2
  go_wp2_with (first | (go_at_call 15; refine (Hnorm.out _).mono ?_; rintro e w5 ⟨rfl, hb5⟩; have hb9 : Below w4.heap.size w4 w5 := (by first | exact hb5 | exact rc_trans (by assumption) hb5)) | (go_at_call 16; refine (Hrc.out _).mono ?_; rintro e w6 ⟨rfl, hb6⟩; have hb8 : Below w4.heap.size w4 w6 := rc_trans (by assumption) hb6))
  go_ret
  exact ⟨rfl, rc_trans hb4 hb8⟩

set_option maxHeartbeats 4000000 in
set_option maxRecDepth 100000 in
theorem RP_walk {W : World} (hT : Tabs W) (F : Stop.Interp) (hF : F.answers W.tape) (body rest : ByteArray) (sg : Bool) (ws : body.size ≤ maxLen) (wk : rest.size ≤ maxLen) :
    Calls Tryf.prog 4 #[.string body, .string rest, .bool sg] W fun e w' => e = .returned (.bool true) ∧ Below W.heap.size W w' := by
  by_cases gs : (65536 : Int) < (body.size : Int)
  · go_enter Tryf.func4, Tryf.ntmps4
    go_wp2_with fail
    refine (zzBytes_RP body rest sg W ws wk).mono ?_
    rintro e w' ⟨b, rfl, rfl⟩
    cases b
    · go_wp2_with fail
      go_ret
      exact ⟨rfl, Below.refl _ _⟩
    · go_wp2_with fail
      go_ret
      exact ⟨rfl, Below.refl _ _⟩
  by_cases gk : (65536 : Int) < (rest.size : Int)
  · go_enter Tryf.func4, Tryf.ntmps4
    go_wp2_with fail
    refine (zzBytes_RP body rest sg W ws wk).mono ?_
    rintro e w' ⟨b, rfl, rfl⟩
    cases b
    · go_wp2_with fail
      go_ret
      exact ⟨rfl, Below.refl _ _⟩
    · go_wp2_with fail
      go_ret
      exact ⟨rfl, Below.refl _ _⟩
  exact RP_in hT F hF body rest sg (by omega) (by omega)

end Go.Proofs.YtdpdgppjeekcmaaFmt
