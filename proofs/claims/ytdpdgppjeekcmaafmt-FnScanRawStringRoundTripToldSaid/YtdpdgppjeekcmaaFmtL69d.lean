/-
  Walk of a law of n003_69: a text with its backticks doubled, between two, reads back as the text.
-/
import Derived.Test.YtdpdgppjeekcmaaFmtZ69R
import Derived.Test.YtdpdgppjeekcmaaFmtZ69n
namespace Go.Proofs.YtdpdgppjeekcmaaFmt
open Go Go.Lib Go.RowKit Go.Proofs
open Go.Extern.Stop Go.Stop Go.Extern

def SaysB (w : World) (e : Ending) (w' : World) : Prop := ∃ b, e = .returned (.bool b) ∧ w = w'
theorem str_self (v : ByteArray) : (v.toList == v.toList) = true := by simp
theorem rc_trans {a b c : World} (h : Below a.heap.size a b) (k : Below b.heap.size b c) : Below a.heap.size a c := h.trans (k.mono h.size)

set_option maxRecDepth 100000 in
theorem zzBytes_RT (s k : ByteArray) (w : World) (ws : s.size ≤ maxLen) (wk : k.size ≤ maxLen) : Calls Tryf.prog 17 #[.string s, .string k] w (SaysB w) := by
  unfold maxLen at ws wk
  by_cases z0 : (1048576 : Int) < (s.size : Int)
  · go_enter Tryf.func17, Tryf.ntmps17
    go_wp2_with fail
    go_ret
    exact ⟨_, rfl, rfl⟩
  by_cases z1 : (1048576 : Int) < (k.size : Int)
  · go_enter Tryf.func17, Tryf.ntmps17
    go_wp2_with fail
    go_ret
    exact ⟨_, rfl, rfl⟩
  have zw1 : IntKind.i64.wrap ((s.size : Int) + (k.size : Int)) = (s.size : Int) + (k.size : Int) := by rw [IntKind.wrap_i64]; omega
  by_cases y1 : (1048576 : Int) < (s.size : Int) + (k.size : Int)
  · go_enter Tryf.func17, Tryf.ntmps17
    go_wp2_with fail
    go_ret
    exact ⟨_, rfl, rfl⟩
  go_enter Tryf.func17, Tryf.ntmps17
  go_wp2_with fail
  go_ret
  exact ⟨_, rfl, rfl⟩

/-- What the scan of the literal comes to. -/
def LitPost (t D A : ByteArray) (N : Nat) (W : World) : Prop := Calls Tryf.prog 20 #[.string A] W fun e' w' => ∃ n : Nat, n + t.data.toList.count 96 = runesTo t 0 ∧ e' = .returned (.tuple #[.int .i64 n, .bool true, .int .i64 (D.size + 2 : Nat), .int .i64 N, .int .i64 1, .string t, .int .i64 0, .int .i64 N]) ∧ Below W.heap.size W w'

theorem lit_post {W w : World} (hT : Tabs W) (F : Stop.Interp) (hF : F.answers W.tape) (hlow : Below W.heap.size W w) {t D rest Q A : ByteArray} (hQ : Q = ⟨#[96]⟩) (hD : D = ⟨(dbl t.data.toList).toArray⟩) (hA : A = Q ++ D ++ Q ++ rest) (hAs : A.size ≤ 1099511627776) (hr : ¬ (0 < rest.size ∧ byt rest 0 = 96)) (h : ValidU t ∨ ∀ x, x < t.size → byt t x ≠ 96) :
    ∃ N, Bd (Q ++ D ++ Q) (Q ++ D ++ Q).size N ∧ Calls Tryf.prog 20 #[.string A] w fun e' w' => ∃ n : Nat, n + t.data.toList.count 96 = runesTo t 0 ∧ e' = .returned (.tuple #[.int .i64 n, .bool true, .int .i64 (D.size + 2 : Nat), .int .i64 N, .int .i64 1, .string t, .int .i64 0, .int .i64 N]) ∧ Below W.heap.size W w' := by
  have hQs : Q.size = 1 := by rw [hQ]; rfl
  have hQb : byt Q 0 < 128 := by rw [hQ]; decide
  have hA2 : A = Q ++ (D ++ (Q ++ rest)) := by rw [hA, ByteArray.append_assoc, ByteArray.append_assoc]
  obtain ⟨n, p, hm, hk, hc⟩ := round_law hQ hD (rfl : D ++ (Q ++ rest) = _) hr h
  have hAz : A.size = Q.size + D.size + Q.size + rest.size := by rw [hA]; simp only [ByteArray.size_append]
  obtain ⟨N, hN, hG, hv, hj, _⟩ := (raw_model hA2 hQs hQb).1 n D.size p hm
  have hn1 := (next_quote (A := A) (by omega) (by rw [hA2, byt_l (by omega)]; exact hQb)).1
  have he1 : (next A start).eb = 1 := by rw [hn1]; rfl
  have hlit : A.extract 0 (D.size + 2) = Q ++ D ++ Q := by
    apply ByteArray.ext
    apply Array.ext'
    rw [Lib.extract_data, hA, toList_app, List.drop_zero, List.take_left' (by rw [← Lib.size_eq]; simp only [ByteArray.size_append]; omega)]
  rw [hlit] at hN
  have hscan := zzScanRaw_ok hF hT hlow A hAs he1 (by omega) n p (D.size + 2) N hG
  rw [hv, hk] at hscan
  refine ⟨N, hN, hscan.mono ?_⟩
  rintro e w' ⟨rfl, hb⟩
  exact ⟨n, hc, rfl, hb⟩

set_option maxHeartbeats 4000000 in
set_option maxRecDepth 100000 in
theorem RT_in {W : World} (hT : Tabs W) (F : Stop.Interp) (hF : F.answers W.tape) (t rest : ByteArray) (hs : t.size ≤ 65536) (hk : rest.size ≤ 65536) :
    Calls Tryf.prog 5 #[.string t, .string rest] W fun e w' => e = .returned (.bool true) ∧ Below W.heap.size W w' := by
  have bs : ¬ (65536 : Int) < (t.size : Int) := by omega
  have bk : ¬ (65536 : Int) < (rest.size : Int) := by omega
  have hz := zzBytes_RT t rest W (by unfold maxLen; omega) (by unfold maxLen; omega)
  have hval := zzValidUTF8_any t (by omega)
  have hhas := zzHasByte_any t 96 (by omega)
  have hdbl := zzDouble_any t (by omega)
  have Hz := Lib.hid hz
  have Hval := Lib.hid hval
  have Hhas := Lib.hid hhas
  clear hz hval hhas
  obtain ⟨Q, hQ⟩ : ∃ Q : ByteArray, Q = ⟨#[96]⟩ := ⟨_, rfl⟩
  obtain ⟨D, hD⟩ : ∃ D : ByteArray, D = ⟨(dbl t.data.toList).toArray⟩ := ⟨_, rfl⟩
  have hDs : D.size ≤ 131072 := by
    rw [hD]
    show (dbl t.data.toList).toArray.size ≤ _
    have := dbl_le t.data.toList
    have := Lib.size_eq t
    simp
    omega
  rw [← hD] at hdbl
  have Hdbl := Lib.hid hdbl
  clear hdbl
  -- the literal and what follows it
  obtain ⟨L1, hL1⟩ : ∃ L : ByteArray, Q ++ D = L := ⟨_, rfl⟩
  obtain ⟨L2, hL2⟩ : ∃ L : ByteArray, L1 ++ Q = L := ⟨_, rfl⟩
  obtain ⟨A, hA⟩ : ∃ L : ByteArray, L2 ++ rest = L := ⟨_, rfl⟩
  have hQs : Q.size = 1 := by rw [hQ]; rfl
  have l1 : L1.size = 1 + D.size := by rw [← hL1, ByteArray.size_append, hQs]
  have l2 : L2.size = D.size + 2 := by rw [← hL2, ByteArray.size_append, hQs]; omega
  have l3 : A.size = D.size + 2 + rest.size := by rw [← hA, ByteArray.size_append]; omega
  have c1 : 1 + D.size ≤ 131073 := by omega
  have c2 : L1.size + 1 ≤ 131074 := by omega
  have c3 : L2.size + rest.size ≤ 262144 := by omega
  have hrc1 := zzRuneCount_any t (by omega)
  have hrc2 := zzRuneCount_any L2 (by omega)
  have hcb := zzCountByte_any t 96 (by omega)
  have hct := bd_count t
  have hLA : A = Q ++ D ++ Q ++ rest := by rw [← hA, ← hL2, ← hL1]
  have hLL : L2 = Q ++ D ++ Q := by rw [← hL2, ← hL1]
  have go : ¬ (0 < rest.size ∧ byt rest 0 = 96) → (ValidU t ∨ ∀ x, x < t.size → byt t x ≠ 96) → ∀ (w : World), Below W.heap.size W w → ∃ N, Bd L2 L2.size N ∧ Calls Tryf.prog 20 #[.string A] w fun e' w' => ∃ n : Nat, n + t.data.toList.count 96 = runesTo t 0 ∧ e' = .returned (.tuple #[.int .i64 n, .bool true, .int .i64 (D.size + 2 : Nat), .int .i64 N, .int .i64 1, .string t, .int .i64 0, .int .i64 N]) ∧ Below W.heap.size W w' := fun hr h w hlow => by
    have := lit_post hT F hF hlow hQ hD hLA (by omega) hr h
    rw [← hLL] at this
    exact this
  obtain ⟨cn, hcn⟩ : ∃ cn, t.data.toList.count 96 = cn := ⟨_, rfl⟩
  rw [show cntB t 96 = cn from hcn] at hcb
  rw [hcn] at go
  have hrt : runesTo t 0 ≤ t.size := hct.n_le
  obtain ⟨rt, hrt0⟩ : ∃ rt, runesTo t 0 = rt := ⟨_, rfl⟩
  rw [hrt0] at hct hrt go
  have hrc1' : ∀ w, Calls Tryf.prog 16 #[.string t] w fun e w' => e = .returned (.int .i64 rt) ∧ Below w.heap.size w w' := fun w => (hrc1 w).mono (by
    rintro e w' ⟨N2, rfl, h2, hb⟩
    rw [h2.cnt_inj hct]
    exact ⟨rfl, hb⟩)
  have Hgo := Lib.hid go
  have Hrc1 := Lib.hid hrc1'
  have Hrc2 := Lib.hid hrc2
  have Hcb := Lib.hid hcb
  rw [hQ] at hL1 hL2
  have HL1 := Lib.hid hL1
  have HL2 := Lib.hid hL2
  have HA := Lib.hid hA
  have ts := str_self t
  obtain ⟨d2, hd2⟩ : ∃ d2, d2 = D.size + 2 := ⟨_, rfl⟩
  rw [← hd2] at Hgo l2
  have hl2d : L2.size = d2 := l2
  clear hrc1 hrc1' hrc2 hcb hct go hL1 hL2 hA hLA hLL hQ hD hcn hrt0
  by_cases hr0 : 0 < rest.size ∧ byt rest 0 = 96
  · have r0 : (0 : Int) < (rest.size : Int) := by omega
    have kr := byt_of hr0.1
    have e96 : (((rest[0]'hr0.1).toNat : Int) == 96) = true := by rw [beq_iff_eq]; have := hr0.2; omega
    have hr1 := hr0.1
    clear kr
    go_enter Tryf.func5, Tryf.ntmps5
    go_wp2_with fail
    refine Hz.out.mono ?_
    rintro e w' ⟨b, rfl, rfl⟩
    cases b
    · go_wp2_with fail
      go_ret
      exact ⟨rfl, Below.refl _ _⟩
    go_wp2_with fail
    go_ret
    exact ⟨rfl, (by repeat (first | exact Below.refl _ _ | apply below_drew | apply below_drewN | apply below_alloc | apply below_grow))⟩
  -- the rest does not begin with a backtick
  have tail : ∀ (w1 : World), Below W.heap.size W w1 → True := fun _ _ => trivial
  clear tail
  have Hr0 := Lib.hid hr0
  have hsplit : (¬ (0 : Int) < (rest.size : Int)) ∨ ∃ h : 0 < rest.size, (0 : Int) < (rest.size : Int) ∧ (((rest[0]'h).toNat : Int) == 96) = false := by
    by_cases h : 0 < rest.size
    · refine .inr ⟨h, by omega, ?_⟩
      have kr := byt_of h
      rw [beq_eq_false_iff_ne]
      intro e
      exact hr0 ⟨h, by omega⟩
    · exact .inl (by omega)
  clear hr0
  rcases hsplit with r0 | ⟨hr1, r0, e96⟩
  · go_enter Tryf.func5, Tryf.ntmps5
    go_wp2_with fail
    refine Hz.out.mono ?_
    rintro e w' ⟨b, rfl, rfl⟩
    cases b
    · go_wp2_with fail
      go_ret
      exact ⟨rfl, Below.refl _ _⟩
    go_wp2_with fail
    refine (Hval.out _).mono ?_
    rintro e w1 ⟨bv, rfl, hbv, hb1⟩
    cases bv
    · clear hbv
      go_wp2_with fail
      refine (Hhas.out _).mono ?_
      rintro e w2 ⟨bh, rfl, hbh, hb2⟩
      have hb02 : Below W.heap.size W w2 := rc_trans hb1 (Below.trans (by repeat (first | exact Below.refl _ _ | apply below_drew | apply below_drewN | apply below_alloc | apply below_grow)) hb2)
      cases bh
      · have hno := hbh rfl
        have Hno := Lib.hid hno
        have Hb02 := Lib.hid hb02
        clear hno hbh hb1 hb2 hb02
        go_wp2_with fail
        refine (Hdbl.out _).mono ?_
        rintro e w3 ⟨rfl, hb3⟩
        have hb03 : Below W.heap.size W w3 := rc_trans Hb02.out (Below.trans (by repeat (first | exact Below.refl _ _ | apply below_drew | apply below_drewN | apply below_alloc | apply below_grow)) hb3)
        obtain ⟨N, hN, hscan⟩ := Hgo.out Hr0.out (.inr Hno.out) w3 hb03
        have hNs := hN.n_le
        have Hscan := Lib.hid hscan
        have HN := Lib.hid hN
        have Hb03 := Lib.hid hb03
        have hrl : ∀ w, Calls Tryf.prog 16 #[.string L2] w fun e w' => e = .returned (.int .i64 N) ∧ Below w.heap.size w w' := fun w => (Hrc2.out w).mono (by
          rintro e w' ⟨N2, rfl, h2, hb⟩
          rw [h2.cnt_inj HN.out]
          exact ⟨rfl, hb⟩)
        have Hrl := Lib.hid hrl
        clear hscan hN hb03 hb3 hrl
        go_wp2_with fail
        rw [HL1.out, HL2.out, HA.out]
        refine Hscan.out.mono ?_
        rintro e w4 ⟨n, hn, rfl, hb4⟩
        have e0 : ((n : Int) == (rt : Int) - (cn : Int)) = true := by rw [beq_iff_eq]; omega
        have e1 : IntKind.i64.wrap ((rt : Int) - (cn : Int)) = (rt : Int) - (cn : Int) := by rw [IntKind.wrap_i64]; omega
        clear hn
        go_wp2_with (first | (go_at_call 16; refine Calls.mono (by first | (with_reducible exact Hrl.out _) | (with_reducible exact Hrc1.out _)) ?_; rintro e w5 ⟨rfl, hb5⟩; have hb9 : Below w4.heap.size w4 w5 := (by first | exact hb5 | exact rc_trans (by assumption) hb5)) | (go_at_call 21; refine (Hcb.out _).mono ?_; rintro e w6 ⟨rfl, hb6⟩; have hb8 : Below w4.heap.size w4 w6 := rc_trans (by assumption) hb6))
        go_ret
        exact ⟨rfl, rc_trans hb4 hb8⟩
      · go_wp2_with fail
        go_ret
        exact ⟨rfl, hb02⟩
    · have hva := hbv rfl
      have Hva := Lib.hid hva
      have Hb02 := Lib.hid hb1
      clear hva hbv hb1
      go_wp2_with fail
      refine (Hdbl.out _).mono ?_
      rintro e w3 ⟨rfl, hb3⟩
      have hb03 : Below W.heap.size W w3 := rc_trans Hb02.out (Below.trans (by repeat (first | exact Below.refl _ _ | apply below_drew | apply below_drewN | apply below_alloc | apply below_grow)) hb3)
      obtain ⟨N, hN, hscan⟩ := Hgo.out Hr0.out (.inl Hva.out) w3 hb03
      have hNs := hN.n_le
      have Hscan := Lib.hid hscan
      have HN := Lib.hid hN
      have Hb03 := Lib.hid hb03
      have hrl : ∀ w, Calls Tryf.prog 16 #[.string L2] w fun e w' => e = .returned (.int .i64 N) ∧ Below w.heap.size w w' := fun w => (Hrc2.out w).mono (by
        rintro e w' ⟨N2, rfl, h2, hb⟩
        rw [h2.cnt_inj HN.out]
        exact ⟨rfl, hb⟩)
      have Hrl := Lib.hid hrl
      clear hscan hN hb03 hb3 hrl
      go_wp2_with fail
      rw [HL1.out, HL2.out, HA.out]
      refine Hscan.out.mono ?_
      rintro e w4 ⟨n, hn, rfl, hb4⟩
      have e0 : ((n : Int) == (rt : Int) - (cn : Int)) = true := by rw [beq_iff_eq]; omega
      have e1 : IntKind.i64.wrap ((rt : Int) - (cn : Int)) = (rt : Int) - (cn : Int) := by rw [IntKind.wrap_i64]; omega
      clear hn
      go_wp2_with (first | (go_at_call 16; refine Calls.mono (by first | (with_reducible exact Hrl.out _) | (with_reducible exact Hrc1.out _)) ?_; rintro e w5 ⟨rfl, hb5⟩; have hb9 : Below w4.heap.size w4 w5 := (by first | exact hb5 | exact rc_trans (by assumption) hb5)) | (go_at_call 21; refine (Hcb.out _).mono ?_; rintro e w6 ⟨rfl, hb6⟩; have hb8 : Below w4.heap.size w4 w6 := rc_trans (by assumption) hb6))
      go_ret
      exact ⟨rfl, rc_trans hb4 hb8⟩
  · go_enter Tryf.func5, Tryf.ntmps5
    go_wp2_with fail
    refine Hz.out.mono ?_
    rintro e w' ⟨b, rfl, rfl⟩
    cases b
    · go_wp2_with fail
      go_ret
      exact ⟨rfl, Below.refl _ _⟩
    go_wp2_with fail
    refine (Hval.out _).mono ?_
    rintro e w1 ⟨bv, rfl, hbv, hb1⟩
    cases bv
    · clear hbv
      go_wp2_with fail
      refine (Hhas.out _).mono ?_
      rintro e w2 ⟨bh, rfl, hbh, hb2⟩
      have hb02 : Below W.heap.size W w2 := rc_trans hb1 (Below.trans (by repeat (first | exact Below.refl _ _ | apply below_drew | apply below_drewN | apply below_alloc | apply below_grow)) hb2)
      cases bh
      · have hno := hbh rfl
        have Hno := Lib.hid hno
        have Hb02 := Lib.hid hb02
        clear hno hbh hb1 hb2 hb02
        go_wp2_with fail
        refine (Hdbl.out _).mono ?_
        rintro e w3 ⟨rfl, hb3⟩
        have hb03 : Below W.heap.size W w3 := rc_trans Hb02.out (Below.trans (by repeat (first | exact Below.refl _ _ | apply below_drew | apply below_drewN | apply below_alloc | apply below_grow)) hb3)
        obtain ⟨N, hN, hscan⟩ := Hgo.out Hr0.out (.inr Hno.out) w3 hb03
        have hNs := hN.n_le
        have Hscan := Lib.hid hscan
        have HN := Lib.hid hN
        have Hb03 := Lib.hid hb03
        have hrl : ∀ w, Calls Tryf.prog 16 #[.string L2] w fun e w' => e = .returned (.int .i64 N) ∧ Below w.heap.size w w' := fun w => (Hrc2.out w).mono (by
          rintro e w' ⟨N2, rfl, h2, hb⟩
          rw [h2.cnt_inj HN.out]
          exact ⟨rfl, hb⟩)
        have Hrl := Lib.hid hrl
        clear hscan hN hb03 hb3 hrl
        go_wp2_with fail
        rw [HL1.out, HL2.out, HA.out]
        refine Hscan.out.mono ?_
        rintro e w4 ⟨n, hn, rfl, hb4⟩
        have e0 : ((n : Int) == (rt : Int) - (cn : Int)) = true := by rw [beq_iff_eq]; omega
        have e1 : IntKind.i64.wrap ((rt : Int) - (cn : Int)) = (rt : Int) - (cn : Int) := by rw [IntKind.wrap_i64]; omega
        clear hn
        go_wp2_with (first | (go_at_call 16; refine Calls.mono (by first | (with_reducible exact Hrl.out _) | (with_reducible exact Hrc1.out _)) ?_; rintro e w5 ⟨rfl, hb5⟩; have hb9 : Below w4.heap.size w4 w5 := (by first | exact hb5 | exact rc_trans (by assumption) hb5)) | (go_at_call 21; refine (Hcb.out _).mono ?_; rintro e w6 ⟨rfl, hb6⟩; have hb8 : Below w4.heap.size w4 w6 := rc_trans (by assumption) hb6))
        go_ret
        exact ⟨rfl, rc_trans hb4 hb8⟩
      · go_wp2_with fail
        go_ret
        exact ⟨rfl, hb02⟩
    · have hva := hbv rfl
      have Hva := Lib.hid hva
      have Hb02 := Lib.hid hb1
      clear hva hbv hb1
      go_wp2_with fail
      refine (Hdbl.out _).mono ?_
      rintro e w3 ⟨rfl, hb3⟩
      have hb03 : Below W.heap.size W w3 := rc_trans Hb02.out (Below.trans (by repeat (first | exact Below.refl _ _ | apply below_drew | apply below_drewN | apply below_alloc | apply below_grow)) hb3)
      obtain ⟨N, hN, hscan⟩ := Hgo.out Hr0.out (.inl Hva.out) w3 hb03
      have hNs := hN.n_le
      have Hscan := Lib.hid hscan
      have HN := Lib.hid hN
      have Hb03 := Lib.hid hb03
      have hrl : ∀ w, Calls Tryf.prog 16 #[.string L2] w fun e w' => e = .returned (.int .i64 N) ∧ Below w.heap.size w w' := fun w => (Hrc2.out w).mono (by
        rintro e w' ⟨N2, rfl, h2, hb⟩
        rw [h2.cnt_inj HN.out]
        exact ⟨rfl, hb⟩)
      have Hrl := Lib.hid hrl
      clear hscan hN hb03 hb3 hrl
      go_wp2_with fail
      rw [HL1.out, HL2.out, HA.out]
      refine Hscan.out.mono ?_
      rintro e w4 ⟨n, hn, rfl, hb4⟩
      have e0 : ((n : Int) == (rt : Int) - (cn : Int)) = true := by rw [beq_iff_eq]; omega
      have e1 : IntKind.i64.wrap ((rt : Int) - (cn : Int)) = (rt : Int) - (cn : Int) := by rw [IntKind.wrap_i64]; omega
      clear hn
      go_wp2_with (first | (go_at_call 16; refine Calls.mono (by first | (with_reducible exact Hrl.out _) | (with_reducible exact Hrc1.out _)) ?_; rintro e w5 ⟨rfl, hb5⟩; have hb9 : Below w4.heap.size w4 w5 := (by first | exact hb5 | exact rc_trans (by assumption) hb5)) | (go_at_call 21; refine (Hcb.out _).mono ?_; rintro e w6 ⟨rfl, hb6⟩; have hb8 : Below w4.heap.size w4 w6 := rc_trans (by assumption) hb6))
      go_ret
      exact ⟨rfl, rc_trans hb4 hb8⟩

set_option maxHeartbeats 4000000 in
set_option maxRecDepth 100000 in
theorem RT_walk {W : World} (hT : Tabs W) (F : Stop.Interp) (hF : F.answers W.tape) (t rest : ByteArray) (wt : t.size ≤ maxLen) (wk : rest.size ≤ maxLen) :
    Calls Tryf.prog 5 #[.string t, .string rest] W fun e w' => e = .returned (.bool true) ∧ Below W.heap.size W w' := by
  by_cases gs : (65536 : Int) < (t.size : Int)
  · go_enter Tryf.func5, Tryf.ntmps5
    go_wp2_with fail
    refine (zzBytes_RT t rest W wt wk).mono ?_
    rintro e w' ⟨b, rfl, rfl⟩
    cases b
    · go_wp2_with fail
      go_ret
      exact ⟨rfl, Below.refl _ _⟩
    · go_wp2_with fail
      go_ret
      exact ⟨rfl, Below.refl _ _⟩
  by_cases gk : (65536 : Int) < (rest.size : Int)
  · go_enter Tryf.func5, Tryf.ntmps5
    go_wp2_with fail
    refine (zzBytes_RT t rest W wt wk).mono ?_
    rintro e w' ⟨b, rfl, rfl⟩
    cases b
    · go_wp2_with fail
      go_ret
      exact ⟨rfl, Below.refl _ _⟩
    · go_wp2_with fail
      go_ret
      exact ⟨rfl, Below.refl _ _⟩
  exact RT_in hT F hF t rest (by omega) (by omega)

end Go.Proofs.YtdpdgppjeekcmaaFmt
