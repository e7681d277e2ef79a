/-
  Walk of a law of n003_74: lexers from New share nothing (printed by genind.py).
-/
import Derived.Test.YtkplkccjeacniaaFmtZ74k
namespace Go.Proofs.YtkplkccjeacniaaFmt
open Go Go.Lib Go.RowKit Go.Proofs
open Go.Extern.Stop Go.Stop Go.Extern

def Says (P : Bool → Prop) (w : World) (e : Ending) (w' : World) : Prop := ∃ b, e = .returned (.bool b) ∧ P b ∧ w = w'
theorem says_ret {P : Bool → Prop} {w : World} {b : Bool} (h : P b) : Says P w (.returned (.bool b)) w := ⟨b, rfl, h, rfl⟩
/-- Two rows of the same tokens. -/
def EqPair (gv wv : Value) (w : World) : Prop := ∃ (l : List Tok) (b1 b2 : Nat), l.length ≤ 1099511627776 ∧ w.ownsRow b1 37 4 gv l.length (l.flatMap tokCells) ∧ w.ownsRow b2 37 4 wv l.length (l.flatMap tokCells)
theorem zzEqList_pair {gv wv : Value} {w : World} (h : EqPair gv wv w) : Calls Tryf.prog 14 #[gv, wv] w fun e w' => e = .returned (.bool true) ∧ Below w.heap.size w w' := by
  obtain ⟨l, b1, b2, h1, h2, h3⟩ := h
  exact zzEqList_any l h1 gv wv b1 b2 w h2 h3
theorem nl_trans {a b c : World} (h : Below a.heap.size a b) (k : Below b.heap.size b c) : Below a.heap.size a c := h.trans (k.mono h.size)

set_option maxRecDepth 100000 in
theorem zzBytes_NL (a b : ByteArray) (w : World) (wa : a.size ≤ maxLen) (wb : b.size ≤ maxLen) : Calls Tryf.prog 9 #[.string a, .string b] w (Says (fun _ => True) w) := by
  unfold maxLen at wa wb
  by_cases z0 : (1048576 : Int) < (a.size : Int)
  · go_enter Tryf.func9, Tryf.ntmps9
    go_wp2_with fail
    go_ret
    exact says_ret trivial
  by_cases z1 : (1048576 : Int) < (b.size : Int)
  · go_enter Tryf.func9, Tryf.ntmps9
    go_wp2_with fail
    go_ret
    exact says_ret trivial
  by_cases z2 : (1048576 : Int) < (a.size : Int) + (b.size : Int)
  · go_enter Tryf.func9, Tryf.ntmps9
    go_wp2_with fail
    go_ret
    exact says_ret trivial
  · go_enter Tryf.func9, Tryf.ntmps9
    go_wp2_with fail
    go_ret
    exact says_ret trivial

set_option maxHeartbeats 16000000 in
set_option maxRecDepth 100000 in
theorem NL_walk {W : World} (hT : Tabs W) (F : Stop.Interp) (hF : F.answers W.tape) (a b : ByteArray) (wa : a.size ≤ maxLen) (wb : b.size ≤ maxLen) :
    Calls Tryf.prog 4 #[.string a, .string b] W fun e w' => e = .returned (.bool true) ∧ Below W.heap.size W w' := by
  have hz := zzBytes_NL a b W wa wb
  have Hz := Lib.hid hz
  clear hz
  by_cases z0 : (65536 : Int) < (a.size : Int)
  · go_enter Tryf.func4, Tryf.ntmps4
    go_wp2_with fail
    refine Hz.out.mono ?_
    rintro e w' ⟨b, rfl, _, rfl⟩
    cases b
    · go_wp2_with fail
      go_ret
      exact ⟨rfl, Below.refl _ _⟩
    · go_wp2_with fail
      go_ret
      exact ⟨rfl, Below.refl _ _⟩
  by_cases z1 : (65536 : Int) < (b.size : Int)
  · go_enter Tryf.func4, Tryf.ntmps4
    go_wp2_with fail
    refine Hz.out.mono ?_
    rintro e w' ⟨b, rfl, _, rfl⟩
    cases b
    · go_wp2_with fail
      go_ret
      exact ⟨rfl, Below.refl _ _⟩
    · go_wp2_with fail
      go_ret
      exact ⟨rfl, Below.refl _ _⟩
  have ha : a.size ≤ 1099511627776 := by omega
  have hs : b.size ≤ 1099511627776 := by omega
  obtain ⟨lA, uA, hxa⟩ := lexed a
  obtain ⟨lB, uB, hxb⟩ := lexed b
  have hla := hxa.len
  have hlb := hxb.len
  have Hxa := Lib.hid hxa
  have Hxb := Lib.hid hxb
  clear hxa hxb
  obtain ⟨NA, hN⟩ : ∃ N : Nat, N = a.size + 3 := ⟨_, rfl⟩
  have hN1 : (a.size : Int) + 3 = (NA : Int) := by omega
  have hN2 : NA ≤ 1099511627776 := by omega
  have hN3 : lA.length < NA := by omega
  obtain ⟨NB, hNB⟩ : ∃ N : Nat, N = b.size + 3 := ⟨_, rfl⟩
  have hN4 : (b.size : Int) + 3 = (NB : Int) := by omega
  have hN5 : NB ≤ 1099511627776 := by omega
  have hN6 : lB.length < NB := by omega
  obtain ⟨M, hM⟩ : ∃ N : Nat, N = a.size + b.size + 6 := ⟨_, rfl⟩
  have hM1 : (a.size : Int) + (b.size : Int) + 6 = (M : Int) := by omega
  have hM2 : M ≤ 1099511627776 := by omega
  have hM3 : lA.length < M := by omega
  have hM4 : lB.length < M := by omega
  have q1 : ∀ wr, Sem.run Tryf.prog (binOp BinOp.neq 25 Value.nilIface Value.nilIface) wr = .ok (.bool false) wr := fun _ => by kernel_rfl
  obtain ⟨i0, hi0, hzr0, hzr1, hzr2⟩ := info_parts infoTok
  have hu : Tryf.prog.underlying 23 = some (.slice 37) := by kernel_rfl
  have Hi := Lib.hid hi0
  have Hz0 := Lib.hid hzr0
  have Hz1 := Lib.hid hzr1
  have Hz2 := Lib.hid hzr2
  have Hu := Lib.hid hu
  have HN := Lib.hid hN
  have HNB := Lib.hid hNB
  have HM := Lib.hid hM
  clear hi0 hzr0 hzr1 hzr2 hu hN hNB hM
  go_enter Tryf.func4, Tryf.ntmps4
  go_wp2_with fail
  refine Hz.out.mono ?_
  rintro e w' ⟨b, rfl, _, rfl⟩
  cases b
  · go_wp2_with fail
    go_ret
    exact ⟨rfl, Below.refl _ _⟩
  go_wp2_with fail
  refine (new_any hT (Below.refl _ _)).mono ?_
  rintro e w11 ⟨L1, rfl, S1, hS1, H1, hb11⟩
  go_wp2_with fail
  refine (newSource_any a _).mono ?_
  rintro e w' ⟨rfl, xs1, d1, rfl⟩
  go_wp2_with fail
  refine (reset_any (H1.keep (grow_below _ _ _)) ha).mono ?_
  rintro e w12 ⟨rfl, S12, hS12, H12, hf12⟩
  have hst : ({ fresh with q := some .root, toks := [] } : St) = start := rfl
  rw [hst] at H12
  have hg1 := grow_below w11 xs1 d1
  have hb1g : Below W.heap.size W (grow w11 xs1 d1) := hb11.trans (hg1.mono hb11.size)
  have hS1w : ∀ i, S12 i → W.heap.size ≤ i := fun i hi => (hS12 i hi).elim (hS1 i) (fun h => Nat.le_trans hb1g.size h)
  have hb12 : Below W.heap.size W w12 := hb1g.trans (hf12.below hS1 hb1g.size)
  have HS1w := Lib.hid hS1w
  have Hb12 := Lib.hid hb12
  clear hst hg1 hb1g hS1w hb12 hf12 hS12 hS1 hb11 H1
  go_wp2_with fail
  refine (zzDrain_any hF H12 (inv_start a) NA hN2 hN3 (Hxa.out.drain _ (Nat.lt_succ_self _))).mono ?_
  rintro e w13 ⟨v1, S13, rfl, hown1, _, _, _, hf13⟩
  have hb13 : Below W.heap.size W w13 := Hb12.out.trans (hf13.below HS1w.out Hb12.out.size)
  have Hown1 := Lib.hid hown1
  have Hb13 := Lib.hid hb13
  clear hown1 hb13 hf13 Hb12 HS1w H12
  have Hbw13 := Hb13
  go_wp2_with fail
  refine (new_any hT Hbw13.out).mono ?_
  rintro e w21 ⟨L2, rfl, S2, hS2, H2, hb21⟩
  go_wp2_with fail
  refine (newSource_any b _).mono ?_
  rintro e w' ⟨rfl, xs2, d2, rfl⟩
  go_wp2_with fail
  refine (reset_any (H2.keep (grow_below _ _ _)) hs).mono ?_
  rintro e w22 ⟨rfl, S22, hS22, H22, hf22⟩
  have hst : ({ fresh with q := some .root, toks := [] } : St) = start := rfl
  rw [hst] at H22
  have hg2 := grow_below w21 xs2 d2
  have hb2g : Below w13.heap.size w13 (grow w21 xs2 d2) := hb21.trans (hg2.mono hb21.size)
  have hS2w : ∀ i, S22 i → w13.heap.size ≤ i := fun i hi => (hS22 i hi).elim (hS2 i) (fun h => Nat.le_trans hb2g.size h)
  have hb22 : Below w13.heap.size w13 w22 := hb2g.trans (hf22.below hS2 hb2g.size)
  have HS2w := Lib.hid hS2w
  have Hb22 := Lib.hid hb22
  clear hst hg2 hb2g hS2w hb22 hf22 hS22 hS2 hb21 H2
  go_wp2_with fail
  refine (zzDrain_any hF H22 (inv_start b) NB hN5 hN6 (Hxb.out.drain _ (Nat.lt_succ_self _))).mono ?_
  rintro e w23 ⟨v2, S23, rfl, hown2, _, _, _, hf23⟩
  have hb23 : Below w13.heap.size w13 w23 := Hb22.out.trans (hf23.below HS2w.out Hb22.out.size)
  have Hown2 := Lib.hid hown2
  have Hb23 := Lib.hid hb23
  clear hown2 hb23 hf23 Hb22 HS2w H22
  have hown13 := own_keep Hown1.out (w' := w23) (fun k hk => Hb23.out.block k (Hown1.out.lt k hk).2)
  have hbw23 : Below W.heap.size W w23 := nl_trans Hbw13.out Hb23.out
  have Hown13 := Lib.hid hown13
  have Hbw23 := Lib.hid hbw23
  clear hown13 hbw23 Hown1 Hb23 Hbw13 Hb13
  go_wp2_with fail
  refine (new_any hT Hbw23.out).mono ?_
  rintro e w3 ⟨LA, rfl, S3, hS3, H3, hb3⟩
  go_wp2_with fail
  refine (newSource_any a _).mono ?_
  rintro e w' ⟨rfl, xs3, d3, rfl⟩
  go_wp2_with fail
  refine (reset_any (H3.keep (grow_below _ _ _)) ha).mono ?_
  rintro e w4 ⟨rfl, SA, hSA, HA, hf4⟩
  have hst : ({ fresh with q := some .root, toks := [] } : St) = start := rfl
  rw [hst] at HA
  have hg3 := grow_below w3 xs3 d3
  have hb3g : Below w23.heap.size w23 (grow w3 xs3 d3) := nl_trans hb3 hg3
  have hSAw : ∀ i, SA i → w23.heap.size ≤ i := fun i hi => (hSA i hi).elim (hS3 i) (fun h => Nat.le_trans hb3g.size h)
  have hb4 : Below w23.heap.size w23 w4 := hb3g.trans (hf4.below hS3 hb3g.size)
  have HSAw := Lib.hid hSAw
  have Hb4 := Lib.hid hb4
  have hbw4 : Below W.heap.size W w4 := nl_trans Hbw23.out hb4
  have Hbw4 := Lib.hid hbw4
  clear hst hg3 hb3g hSAw hb4 hbw4 hf4 hSA hS3 hb3 H3
  go_wp2_with fail
  refine (new_any hT Hbw4.out).mono ?_
  rintro e w5 ⟨LB, rfl, S5, hS5, H5, hb5⟩
  go_wp2_with fail
  refine (newSource_any b _).mono ?_
  rintro e w' ⟨rfl, xs5, d5, rfl⟩
  go_wp2_with fail
  refine (reset_any (H5.keep (grow_below _ _ _)) hs).mono ?_
  rintro e w6 ⟨rfl, SB, hSB, HB, hf6⟩
  have hst : ({ fresh with q := some .root, toks := [] } : St) = start := rfl
  rw [hst] at HB
  have hg5 := grow_below w5 xs5 d5
  have hb5g : Below w4.heap.size w4 (grow w5 xs5 d5) := nl_trans hb5 hg5
  have hSBw : ∀ i, SB i → w4.heap.size ≤ i := fun i hi => (hSB i hi).elim (hS5 i) (fun h => Nat.le_trans hb5g.size h)
  have hb6 : Below w4.heap.size w4 w6 := hb5g.trans (hf6.below hS5 hb5g.size)
  have hT2 : Two W w23 w6 LA LB a b SA SB start start (.slice none 0 0) (.slice none 0 0) [] [] :=
    ⟨HA.keep hb6, HB, fun k h1 h2 => by have := HA.lt k h1; have := hSBw k h2; omega, World.ownsRow_nil _ _ _ _, World.ownsRow_nil _ _ _ _, fun g h => by simp [Value.ownBlock] at h, fun g h => by simp [Value.ownBlock] at h, fun g h => by simp [Value.ownBlock] at h, HSAw.out, fun k h => Nat.le_trans Hb4.out.size (hSBw k h), nl_trans Hb4.out hb6, Hbw23.out.size⟩
  have HT2 := Lib.hid hT2
  have sA := Lib.hid (side_start (inv_start a) (Hxa.out.drain _ (Nat.lt_succ_self _)))
  have sB := Lib.hid (side_start (inv_start b) (Hxb.out.drain _ (Nat.lt_succ_self _)))
  clear hT2 hst hg5 hb5g hSBw hb6 hf6 hSB hS5 hb5 H5 HA HB HSAw Hb4 Hbw4
  go_wp2_with fail
  go_loopg [13, 14, 15, 16, 18] (M + 1) (fun g gav gbv dav dbv iv wr => ∃ (i : Nat) (SA SB : Nat → Prop) (ta tb : St) (l1 l2 : List Tok) (dA dB : Bool), iv = .int .i64 (i : Nat) ∧ dav = .bool dA ∧ dbv = .bool dB ∧ Hid (Two W w23 wr LA LB a b SA SB ta tb gav gbv l1 l2) ∧ Hid (Side a ta lA uA l1 i dA) ∧ Hid (Side b tb lB uB l2 i dB) ∧ i ≤ M ∧ M - i < g)
  case atStart => exact ⟨0, SA, SB, start, start, [], [], false, false, rfl, rfl, rfl, HT2, sA, sB, Nat.zero_le _, by omega⟩
  case round =>
    clear HT2 sA sB
    obtain ⟨i, SA, SB, ta, tb, l1, l2, dA, dB, rfl, rfl, rfl, T, sA, sB, hi', hg⟩ := hrel
    cases dA with
    | false =>
      cases dB with
      | false =>
        have hA1 := side_lt sA.out
        have hlt : (i : Int) < (M : Int) := by omega
        have hA2 : l1.length ≤ 1099511627776 := by omega
        have hB1 := side_lt sB.out
        have hB2 : l2.length ≤ 1099511627776 := by omega
        go_wp2_with fail
        refine (next_two hF T.out.ha (.inl sA.out.1)).mono ?_
        rintro e w2 ⟨hDA, hresA⟩
        obtain ⟨SA2, T2⟩ := T.out.call hDA
        have T2 := Lib.hid T2
        clear hDA T
        rcases hresA with ⟨kA, hkA, rfl⟩ | ⟨hkA, TeA, evA, rfl, hevA, hevA2⟩
        · have sA2 := Lib.hid (side_next sA.out hkA)
          clear hkA sA
          unfold tokVal
          go_wp2_with (first | (at_builtin; refine wpList_append_own_at _ rfl _ _ 23 rfl w23.heap.size 37 i0 _ 4 48 Hu.out Hi.out Hz0.out Hz1.out Hz2.out rfl (by decide) _ _ _ rfl ((T2.out.oa.alloc _).alloc _) ⟨w2.heap.size + 1, 0, none⟩ 1 1 (tokCells kA) rfl rfl ?A1 ?A2 ?A3 ?A4 ?A5 ?_))
          case A1 =>
            intro j u hj
            match j, hj with
            | 0, hj => simp [tokCells] at hj; subst hj; simp [Addr.add]
            | 1, hj => simp [tokCells] at hj; subst hj; simp [Addr.add]
            | 2, hj => simp [tokCells] at hj; subst hj; simp [Addr.add]
            | 3, hj => simp [tokCells] at hj; subst hj; simp [Addr.add]
            | j + 4, hj => simp [tokCells] at hj
          case A2 => exact tokCells_one kA
          case A3 => unfold maxLen; omega
          case A4 => omega
          case A5 => have := T2.out.low.size; simp; omega
          intro vA2 w3 hownA hgrA _ hblkA
          have hbkA : ∀ g, vA2.ownBlock = some g → u13.ownBlock = some g ∨ w2.heap.size ≤ g := fun g hg => by
            rcases hblkA with h | h
            · exact .inl (h.symm.trans hg)
            · rw [hg] at h
              simp at h
              exact .inr (by omega)
          have T3 := Lib.hid (T2.out.push (by rw [hA1.2]; exact hownA) (grown_two hgrA) hbkA)
          clear hownA hgrA hblkA hbkA T2
          go_wp2_with fail
          refine (next_two hF ((T3.out.below (by repeat (first | exact Below.refl _ _ | apply below_drew | apply below_drewN | apply below_alloc | apply below_grow))).swap).ha (.inl sB.out.1)).mono ?_
          rintro e w5 ⟨hDB, hresB⟩
          obtain ⟨SB2, T4⟩ := ((T3.out.below (by repeat (first | exact Below.refl _ _ | apply below_drew | apply below_drewN | apply below_alloc | apply below_grow))).swap).call hDB
          have T4 := Lib.hid T4
          clear hDB T3
          rcases hresB with ⟨kB, hkB, rfl⟩ | ⟨hkB, TeB, evB, rfl, hevB, hevB2⟩
          · have sB2 := Lib.hid (side_next sB.out hkB)
            clear hkB sB
            unfold tokVal
            go_wp2_with (first | (at_builtin; refine wpList_append_own_at _ rfl _ _ 23 rfl w23.heap.size 37 i0 _ 4 48 Hu.out Hi.out Hz0.out Hz1.out Hz2.out rfl (by decide) _ _ _ rfl ((T4.out.oa.alloc _).alloc _) ⟨w5.heap.size + 1, 0, none⟩ 1 1 (tokCells kB) rfl rfl ?B1 ?B2 ?B3 ?B4 ?B5 ?_))
            case B1 =>
              intro j u hj
              match j, hj with
              | 0, hj => simp [tokCells] at hj; subst hj; simp [Addr.add]
              | 1, hj => simp [tokCells] at hj; subst hj; simp [Addr.add]
              | 2, hj => simp [tokCells] at hj; subst hj; simp [Addr.add]
              | 3, hj => simp [tokCells] at hj; subst hj; simp [Addr.add]
              | j + 4, hj => simp [tokCells] at hj
            case B2 => exact tokCells_one kB
            case B3 => unfold maxLen; omega
            case B4 => omega
            case B5 => have := T4.out.low.size; simp; omega
            intro vB2 w6 hownB hgrB _ hblkB
            have hbkB : ∀ g, vB2.ownBlock = some g → u14.ownBlock = some g ∨ w5.heap.size ≤ g := fun g hg => by
              rcases hblkB with h | h
              · exact .inl (h.symm.trans hg)
              · rw [hg] at h
                simp at h
                exact .inr (by omega)
            have T5 := Lib.hid (T4.out.push (by rw [hB1.2]; exact hownB) (grown_two hgrB) hbkB)
            clear hownB hgrB hblkB hbkB T4
            go_wp2_with fail
            go_roundg (M - i)
            case measure => omega
            case rel => exact ⟨i + 1, _, _, _, _, _, _, false, false, by go_num, rfl, rfl, Lib.hid ((T5.out.swap).below (by repeat (first | exact Below.refl _ _ | apply below_drew | apply below_drewN | apply below_alloc | apply below_grow))), sA2, sB2, by omega, by omega⟩
          · have sB2 := Lib.hid (side_none sB.out hkB (i + 1))
            clear hkB sB
            unfold zeroTok
            go_wp2_with fail
            go_roundg (M - i)
            case measure => omega
            case rel => exact ⟨i + 1, _, _, _, _, _, _, false, true, by go_num, rfl, rfl, Lib.hid ((T4.out.swap).below (by repeat (first | exact Below.refl _ _ | apply below_drew | apply below_drewN | apply below_alloc | apply below_grow))), sA2, sB2, by omega, by omega⟩
        · have sA2 := Lib.hid (side_none sA.out hkA (i + 1))
          clear hkA sA
          unfold zeroTok
          go_wp2_with fail
          refine (next_two hF ((T2.out.below (by repeat (first | exact Below.refl _ _ | apply below_drew | apply below_drewN | apply below_alloc | apply below_grow))).swap).ha (.inl sB.out.1)).mono ?_
          rintro e w5 ⟨hDB, hresB⟩
          obtain ⟨SB2, T4⟩ := ((T2.out.below (by repeat (first | exact Below.refl _ _ | apply below_drew | apply below_drewN | apply below_alloc | apply below_grow))).swap).call hDB
          have T4 := Lib.hid T4
          clear hDB T2
          rcases hresB with ⟨kB, hkB, rfl⟩ | ⟨hkB, TeB, evB, rfl, hevB, hevB2⟩
          · have sB2 := Lib.hid (side_next sB.out hkB)
            clear hkB sB
            unfold tokVal
            go_wp2_with (first | (at_builtin; refine wpList_append_own_at _ rfl _ _ 23 rfl w23.heap.size 37 i0 _ 4 48 Hu.out Hi.out Hz0.out Hz1.out Hz2.out rfl (by decide) _ _ _ rfl ((T4.out.oa.alloc _).alloc _) ⟨w5.heap.size + 1, 0, none⟩ 1 1 (tokCells kB) rfl rfl ?B1 ?B2 ?B3 ?B4 ?B5 ?_))
            case B1 =>
              intro j u hj
              match j, hj with
              | 0, hj => simp [tokCells] at hj; subst hj; simp [Addr.add]
              | 1, hj => simp [tokCells] at hj; subst hj; simp [Addr.add]
              | 2, hj => simp [tokCells] at hj; subst hj; simp [Addr.add]
              | 3, hj => simp [tokCells] at hj; subst hj; simp [Addr.add]
              | j + 4, hj => simp [tokCells] at hj
            case B2 => exact tokCells_one kB
            case B3 => unfold maxLen; omega
            case B4 => omega
            case B5 => have := T4.out.low.size; simp; omega
            intro vB2 w6 hownB hgrB _ hblkB
            have hbkB : ∀ g, vB2.ownBlock = some g → u14.ownBlock = some g ∨ w5.heap.size ≤ g := fun g hg => by
              rcases hblkB with h | h
              · exact .inl (h.symm.trans hg)
              · rw [hg] at h
                simp at h
                exact .inr (by omega)
            have T5 := Lib.hid (T4.out.push (by rw [hB1.2]; exact hownB) (grown_two hgrB) hbkB)
            clear hownB hgrB hblkB hbkB T4
            go_wp2_with fail
            go_roundg (M - i)
            case measure => omega
            case rel => exact ⟨i + 1, _, _, _, _, _, _, true, false, by go_num, rfl, rfl, Lib.hid ((T5.out.swap).below (by repeat (first | exact Below.refl _ _ | apply below_drew | apply below_drewN | apply below_alloc | apply below_grow))), sA2, sB2, by omega, by omega⟩
          · have sB2 := Lib.hid (side_none sB.out hkB (i + 1))
            clear hkB sB
            unfold zeroTok
            go_wp2_with fail
            go_roundg (M - i)
            case measure => omega
            case rel => exact ⟨i + 1, _, _, _, _, _, _, true, true, by go_num, rfl, rfl, Lib.hid ((T4.out.swap).below (by repeat (first | exact Below.refl _ _ | apply below_drew | apply below_drewN | apply below_alloc | apply below_grow))), sA2, sB2, by omega, by omega⟩
      | true =>
        have hA1 := side_lt sA.out
        have hlt : (i : Int) < (M : Int) := by omega
        have hA2 : l1.length ≤ 1099511627776 := by omega
        go_wp2_with fail
        refine (next_two hF T.out.ha (.inl sA.out.1)).mono ?_
        rintro e w2 ⟨hDA, hresA⟩
        obtain ⟨SA2, T2⟩ := T.out.call hDA
        have T2 := Lib.hid T2
        clear hDA T
        rcases hresA with ⟨kA, hkA, rfl⟩ | ⟨hkA, TeA, evA, rfl, hevA, hevA2⟩
        · have sA2 := Lib.hid (side_next sA.out hkA)
          clear hkA sA
          unfold tokVal
          go_wp2_with (first | (at_builtin; refine wpList_append_own_at _ rfl _ _ 23 rfl w23.heap.size 37 i0 _ 4 48 Hu.out Hi.out Hz0.out Hz1.out Hz2.out rfl (by decide) _ _ _ rfl ((T2.out.oa.alloc _).alloc _) ⟨w2.heap.size + 1, 0, none⟩ 1 1 (tokCells kA) rfl rfl ?A1 ?A2 ?A3 ?A4 ?A5 ?_))
          case A1 =>
            intro j u hj
            match j, hj with
            | 0, hj => simp [tokCells] at hj; subst hj; simp [Addr.add]
            | 1, hj => simp [tokCells] at hj; subst hj; simp [Addr.add]
            | 2, hj => simp [tokCells] at hj; subst hj; simp [Addr.add]
            | 3, hj => simp [tokCells] at hj; subst hj; simp [Addr.add]
            | j + 4, hj => simp [tokCells] at hj
          case A2 => exact tokCells_one kA
          case A3 => unfold maxLen; omega
          case A4 => omega
          case A5 => have := T2.out.low.size; simp; omega
          intro vA2 w3 hownA hgrA _ hblkA
          have hbkA : ∀ g, vA2.ownBlock = some g → u13.ownBlock = some g ∨ w2.heap.size ≤ g := fun g hg => by
            rcases hblkA with h | h
            · exact .inl (h.symm.trans hg)
            · rw [hg] at h
              simp at h
              exact .inr (by omega)
          have T3 := Lib.hid (T2.out.push (by rw [hA1.2]; exact hownA) (grown_two hgrA) hbkA)
          clear hownA hgrA hblkA hbkA T2
          have sB2 := Lib.hid (side_done sB.out (i + 1))
          go_wp2_with fail
          go_roundg (M - i)
          case measure => omega
          case rel => exact ⟨i + 1, _, _, _, _, _, _, false, true, by go_num, rfl, rfl, Lib.hid ((T3.out).below (by repeat (first | exact Below.refl _ _ | apply below_drew | apply below_drewN | apply below_alloc | apply below_grow))), sA2, sB2, by omega, by omega⟩
        · have sA2 := Lib.hid (side_none sA.out hkA (i + 1))
          clear hkA sA
          unfold zeroTok
          have sB2 := Lib.hid (side_done sB.out (i + 1))
          go_wp2_with fail
          go_roundg (M - i)
          case measure => omega
          case rel => exact ⟨i + 1, _, _, _, _, _, _, true, true, by go_num, rfl, rfl, Lib.hid ((T2.out).below (by repeat (first | exact Below.refl _ _ | apply below_drew | apply below_drewN | apply below_alloc | apply below_grow))), sA2, sB2, by omega, by omega⟩
    | true =>
      cases dB with
      | false =>
        have hB1 := side_lt sB.out
        have hlt : (i : Int) < (M : Int) := by omega
        have hB2 : l2.length ≤ 1099511627776 := by omega
        have sA2 := Lib.hid (side_done sA.out (i + 1))
        go_wp2_with fail
        refine (next_two hF ((T.out.below (by repeat (first | exact Below.refl _ _ | apply below_drew | apply below_drewN | apply below_alloc | apply below_grow))).swap).ha (.inl sB.out.1)).mono ?_
        rintro e w5 ⟨hDB, hresB⟩
        obtain ⟨SB2, T4⟩ := ((T.out.below (by repeat (first | exact Below.refl _ _ | apply below_drew | apply below_drewN | apply below_alloc | apply below_grow))).swap).call hDB
        have T4 := Lib.hid T4
        clear hDB T
        rcases hresB with ⟨kB, hkB, rfl⟩ | ⟨hkB, TeB, evB, rfl, hevB, hevB2⟩
        · have sB2 := Lib.hid (side_next sB.out hkB)
          clear hkB sB
          unfold tokVal
          go_wp2_with (first | (at_builtin; refine wpList_append_own_at _ rfl _ _ 23 rfl w23.heap.size 37 i0 _ 4 48 Hu.out Hi.out Hz0.out Hz1.out Hz2.out rfl (by decide) _ _ _ rfl ((T4.out.oa.alloc _).alloc _) ⟨w5.heap.size + 1, 0, none⟩ 1 1 (tokCells kB) rfl rfl ?B1 ?B2 ?B3 ?B4 ?B5 ?_))
          case B1 =>
            intro j u hj
            match j, hj with
            | 0, hj => simp [tokCells] at hj; subst hj; simp [Addr.add]
            | 1, hj => simp [tokCells] at hj; subst hj; simp [Addr.add]
            | 2, hj => simp [tokCells] at hj; subst hj; simp [Addr.add]
            | 3, hj => simp [tokCells] at hj; subst hj; simp [Addr.add]
            | j + 4, hj => simp [tokCells] at hj
          case B2 => exact tokCells_one kB
          case B3 => unfold maxLen; omega
          case B4 => omega
          case B5 => have := T4.out.low.size; simp; omega
          intro vB2 w6 hownB hgrB _ hblkB
          have hbkB : ∀ g, vB2.ownBlock = some g → u14.ownBlock = some g ∨ w5.heap.size ≤ g := fun g hg => by
            rcases hblkB with h | h
            · exact .inl (h.symm.trans hg)
            · rw [hg] at h
              simp at h
              exact .inr (by omega)
          have T5 := Lib.hid (T4.out.push (by rw [hB1.2]; exact hownB) (grown_two hgrB) hbkB)
          clear hownB hgrB hblkB hbkB T4
          go_wp2_with fail
          go_roundg (M - i)
          case measure => omega
          case rel => exact ⟨i + 1, _, _, _, _, _, _, true, false, by go_num, rfl, rfl, Lib.hid ((T5.out.swap).below (by repeat (first | exact Below.refl _ _ | apply below_drew | apply below_drewN | apply below_alloc | apply below_grow))), sA2, sB2, by omega, by omega⟩
        · have sB2 := Lib.hid (side_none sB.out hkB (i + 1))
          clear hkB sB
          unfold zeroTok
          go_wp2_with fail
          go_roundg (M - i)
          case measure => omega
          case rel => exact ⟨i + 1, _, _, _, _, _, _, true, true, by go_num, rfl, rfl, Lib.hid ((T4.out.swap).below (by repeat (first | exact Below.refl _ _ | apply below_drew | apply below_drewN | apply below_alloc | apply below_grow))), sA2, sB2, by omega, by omega⟩
      | true =>
        have hl1 := side_all sA.out
        have hl2 := side_all sB.out
        have hp1 : EqPair u13 v1 wr := ⟨lA, _, _, by omega, by rw [← hl1]; exact T.out.oa, own_keep Hown13.out (fun k hk => T.out.low.block k (Hown13.out.lt k hk).2)⟩
        have hp2 : ∀ wx, Below wr.heap.size wr wx → EqPair u14 v2 wx := fun wx hb => ⟨lB, _, _, by omega, own_keep (by rw [← hl2]; exact T.out.ob) (fun k hk => hb.block k (T.out.ob.lt k hk).2), own_keep Hown2.out (fun k hk => (hb.block k (Nat.lt_of_lt_of_le (Hown2.out.lt k hk).2 T.out.low.size)).trans (T.out.low.block k (Hown2.out.lt k hk).2))⟩
        have Hp1 := Lib.hid hp1
        have Hp2 := Lib.hid hp2
        have hbw : Below W.heap.size W wr := nl_trans Hbw23.out T.out.low
        have Hbw := Lib.hid hbw
        clear hp1 hp2 hbw hl1 hl2 T sA sB
        by_cases hlt : (i : Int) < (M : Int)
        · go_wp2_with (go_at_call 14; refine (zzEqList_pair (by first | exact Hp1.out | exact Hp2.out _ (by assumption))).mono ?_; rintro e w6 ⟨rfl, hb8⟩; have hb9 : Below wr.heap.size wr w6 := (by first | exact hb8 | exact nl_trans (by assumption) hb8))
          go_ret
          exact ⟨rfl, nl_trans Hbw.out hb9⟩
        · go_wp2_with (go_at_call 14; refine (zzEqList_pair (by first | exact Hp1.out | exact Hp2.out _ (by assumption))).mono ?_; rintro e w6 ⟨rfl, hb8⟩; have hb9 : Below wr.heap.size wr w6 := (by first | exact hb8 | exact nl_trans (by assumption) hb8))
          go_ret
          exact ⟨rfl, nl_trans Hbw.out hb9⟩

end Go.Proofs.YtkplkccjeacniaaFmt
