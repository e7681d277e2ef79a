/-
  Walk of a law of n003_74: Next over the small language, and beyond its end.
-/
import Derived.Test.YtkplkccjeacniaaGreatFmtZ74n
import Derived.Test.YtkplkccjeacniaaGreatFmtZ74k
namespace Go.Proofs.YtkplkccjeacniaaGreatFmt
open Go Go.Lib Go.RowKit Go.Proofs
open Go.Extern.Stop Go.Stop Go.Extern

def Says (P : Bool → Prop) (w : World) (e : Ending) (w' : World) : Prop := ∃ b, e = .returned (.bool b) ∧ P b ∧ w = w'
theorem says_ret {P : Bool → Prop} {w : World} {b : Bool} (h : P b) : Says P w (.returned (.bool b)) w := ⟨b, rfl, h, rfl⟩

set_option maxRecDepth 100000 in
theorem zzBytes_NS (c : ByteArray) (d : Bool) (w : World) (wc : c.size ≤ maxLen) : Calls Tryz.prog 23 #[.string c, .bool d] w (Says (fun _ => True) w) := by
  unfold maxLen at wc
  by_cases z0 : (1048576 : Int) < (c.size : Int)
  · go_enter Tryz.func23, Tryz.ntmps23
    go_wp2_with fail
    go_ret
    exact says_ret trivial
  · go_enter Tryz.func23, Tryz.ntmps23
    go_wp2_with fail
    go_ret
    exact says_ret trivial

theorem set_dis {W0 w : World} {S : Nat → Prop} {L : Nat} {s : ByteArray} {t : St} (H : Lx W0 S w L s t) (d : Bool) : Done W0 S w L s { t with dis := d } (w.setCell ⟨L, 9, none⟩ (.bool d)) := by
  obtain ⟨R, ev, hL, hR, hc, hr, he, _⟩ := H.opened
  exact Done.only H hL hR hr he (OnlyL.cast ((OnlyL.refl hc.out).setCell 9 (.bool d)) (by simp [cellsL])) hc.out rfl rfl H.poss
theorem inv_dis (s : ByteArray) (d : Bool) : Inv s (R 0 0 false d) := fun _ q hq => by
  have e : q = .root := by change some Q.root = some q at hq; cases hq; rfl
  subst e
  exact ⟨.zero, .zero, Nat.le_refl _, (fun h => by cases h), fun _ => ⟨rfl, rfl⟩, (fun h => by cases h), (fun h => by cases h), (fun h => by cases h), (fun h => by rcases h with h | h | h | h <;> cases h)⟩

set_option maxHeartbeats 16000000 in
set_option maxRecDepth 100000 in
theorem NS_walk {W : World} (hT : Tabs W) (F : Stop.Interp) (hF : F.answers W.tape) (s : ByteArray) (dis : Bool) (wc : s.size ≤ maxLen) :
    Calls Tryz.prog 6 #[.string s, .bool dis] W fun e w' => e = .returned (.bool true) ∧ Below W.heap.size W w' := by
  have hz := zzBytes_NS s dis W wc
  have Hz := Lib.hid hz
  clear hz
  by_cases z0 : (65536 : Int) < (s.size : Int)
  · go_enter Tryz.func6, Tryz.ntmps6
    go_wp2_with fail
    refine Hz.out.mono ?_
    rintro e w' ⟨b, rfl, _, rfl⟩
    cases b
    · go_wp2_with fail
      go_ret
      exact ⟨rfl, Below.refl _ _⟩
    · go_wp2_with fail
      go_ret
      exact ⟨rfl, Below.refl _ _⟩
  have hs : s.size ≤ 1099511627776 := by omega
  have hh := zzInSmall_any s hs W
  have Hh := Lib.hid hh
  clear hh
  have q0 : ∀ wr, Sem.run Tryz.prog (binOp BinOp.neq 33 Value.nilIface Value.nilIface) wr = .ok (.bool false) wr := fun _ => by kernel_rfl
  go_enter Tryz.func6, Tryz.ntmps6
  go_wp2_with fail
  refine Hz.out.mono ?_
  rintro e w' ⟨b, rfl, _, rfl⟩
  cases b
  · go_wp2_with fail
    go_ret
    exact ⟨rfl, Below.refl _ _⟩
  go_wp2_with fail
  refine Hh.out.mono ?_
  rintro e wa ⟨b, rfl, hno, hba⟩
  cases b
  · go_wp2_with fail
    go_ret
    exact ⟨rfl, hba⟩
  have hsm : Small s := hno rfl
  have hout := small_out hsm dis s.size 0 rfl (Nat.zero_le _)
  obtain ⟨l, hl⟩ : ∃ l, l = modelGo s dis 0 ++ [eofTok s.size] := ⟨_, rfl⟩
  have hlen : l.length ≤ 65537 := by rw [hl, List.length_append]; have := model_len s dis 0; simp; omega
  have hpos : 0 < l.length := by rw [hl]; simp
  have hmod := fun w => zzModel_any s (by omega) hsm dis w
  unfold ModelPost at hmod
  rw [← hl] at hout hmod
  obtain ⟨u, hu⟩ : ∃ u : St, u = ⟨none, s.size, s.size, s.size, s.size, true, dis, none, []⟩ := ⟨_, rfl⟩
  rw [← hu] at hout
  have hdr := out_drain hout (inv_dis s dis) rfl (l.length + 1) (Nat.lt_succ_self _)
  have hstop := (out_end hout).1
  obtain ⟨n, hn⟩ : ∃ n, l.length = n := ⟨_, rfl⟩
  have Hdr := Lib.hid hdr
  have Hstop := Lib.hid hstop
  have Hmod := Lib.hid hmod
  have Hba := Lib.hid hba
  have Hn := Lib.hid hn
  have Hpos := Lib.hid hpos
  rw [hn] at hlen
  clear hno hsm hout hl hmod hdr hstop hba hn hpos hu
  go_wp2_with fail
  refine (new_any hT Hba.out).mono ?_
  rintro e w1 ⟨L, rfl, S, hS, H, hb1⟩
  obtain ⟨R0, ev0, hL0, hR0, hc0, hr0, he0, l0, c0, c1, c2, c3, c4, c5, c6, c7, c8, c9, fz⟩ := H.opened
  obtain ⟨S2, hS2, H2, hf2⟩ := set_dis H dis
  have hbw1 : Below W.heap.size W w1 := Hba.out.trans (hb1.mono Hba.out.size)
  have hSw : ∀ k, S k → W.heap.size ≤ k := fun k hk => Nat.le_trans Hba.out.size (hS k hk)
  have hbw2 := hbw1.trans (hf2.below hSw hbw1.size)
  have hS2w : ∀ k, S2 k → W.heap.size ≤ k := fun k hk => (hS2 k hk).elim (hSw k) (fun h => Nat.le_trans hbw1.size h)
  have Hbw2 := Lib.hid hbw2
  have HS2 := Lib.hid hS2w
  clear hbw1 hSw hbw2 hS2w hf2 hS2 hS hb1 hc0 hr0 he0 Hba
  go_wp2_with fail
  refine (newSource_any s _).mono ?_
  rintro e w' ⟨rfl, xs, d, rfl⟩
  go_wp2_with fail
  refine (reset_any (H2.keep (grow_below _ _ _)) hs).mono ?_
  rintro e w4 ⟨rfl, S4, hS4, H4, hf4⟩
  have hst : ({ { fresh with dis := dis } with q := some .root, toks := [] } : St) = R 0 0 false dis := rfl
  rw [hst] at H4
  have hg3 := grow_below (w1.setCell ⟨L, 9, none⟩ (.bool dis)) xs d
  have hb3 : Below W.heap.size W (grow (w1.setCell ⟨L, 9, none⟩ (.bool dis)) xs d) := Hbw2.out.trans (hg3.mono Hbw2.out.size)
  have hS4w : ∀ k, S4 k → W.heap.size ≤ k := fun k hk => (hS4 k hk).elim (HS2.out k) (fun h => Nat.le_trans hb3.size h)
  have hbw4 : Below W.heap.size W w4 := hb3.trans (hf4.below HS2.out hb3.size)
  have HS4 := Lib.hid hS4w
  have Hbw4 := Lib.hid hbw4
  clear hst hg3 hb3 hS4w hbw4 hf4 hS4 H2 HS2 Hbw2 c0 c1 c2 c3 c4 c5 c6 c7 c8 c9 fz l0 H hL0 hR0
  go_wp2_with fail
  refine (Hmod.out _).mono ?_
  rintro e w5 ⟨mv, rfl, hmod, hb5⟩
  have hbw5 : Below W.heap.size W w5 := Hbw4.out.trans (hb5.mono Hbw4.out.size)
  have H5 := H4.keep hb5
  have hbase := hmod.lt
  have hm5 := RowAt.owned hmod Hpos.out
  rw [Hn.out] at hm5
  obtain ⟨gw, gc, rfl, hgw, hgr⟩ := hm5
  have hgS : ¬ S4 gw := fun h => by have h1 := H4.lt gw h; have h2 := (hbase gw rfl).1; omega
  have Hgr := Lib.hid hgr
  have HgS := Lib.hid hgS
  have Hbw5 := Lib.hid hbw5
  clear hgr hgS hbw5 hb5 hmod hbase Hmod Hbw4 H4
  go_wp2_with fail
  go_loopg [7] (n + 1) (fun g iv wr => ∃ (i : Nat) (S1 : Nat → Prop) (t1 : St) (l1 l2 : List Tok), iv = .int .i64 (i : Nat) ∧ Hid (l1.length = i) ∧ Hid (l1 ++ l2 = l) ∧ Hid (drain s (l2.length + 1) t1 = (l2, u)) ∧ Hid (Inv s t1) ∧ Lx W S1 wr L s t1 ∧ Hid (Below W.heap.size W wr) ∧ Hid (∀ k, S1 k → W.heap.size ≤ k) ∧ Hid (¬ S1 gw) ∧ Hid (wr.heap[gw]? = w5.heap[gw]?) ∧ gw < wr.heap.size ∧ i ≤ n ∧ n - i < g)
  case atStart => exact ⟨0, S4, _, [], l, rfl, Lib.hid rfl, Lib.hid rfl, Hdr, Lib.hid (inv_dis s dis), H5, Hbw5, HS4, HgS, Lib.hid rfl, hgw, Nat.zero_le _, by omega⟩
  case round =>
    clear H5
    obtain ⟨i, S1, t1, l1, l2, rfl, hli, hll, hdr, hinv, H1, hb, hSw, hgS, hgh, hgl, hi', hg⟩ := hrel
    have hlen1 : i + l2.length = n := by have := congrArg List.length hll.out; rw [List.length_append, hli.out, Hn.out] at this; exact this
    have hnx := next_two hF H1 (.inl hinv.out)
    have hinv2 := inv_nextS hinv.out
    unfold NextTwo at hnx
    by_cases hin : i < n
    · have j0 : (0 : Int) ≤ (i : Int) := by omega
      have j1 : (i : Int) < (n : Int) := by omega
      cases l2 with
      | nil => simp at hlen1; omega
      | cons k l3 =>
      obtain ⟨t2, hn0, hdr2⟩ := drain_cons hdr.out
      rw [hn0] at hnx hinv2
      have hll2 : (l1 ++ [k]) ++ l3 = l := by rw [← hll.out]; simp
      have hil : i < l.length := by have := Hn.out; omega
      have hk : l[i]'hil = k := by
        have h : l[i]? = some k := by rw [← hll.out, List.getElem?_append_right (by rw [hli.out]; omega), hli.out, Nat.sub_self]; rfl
        rw [List.getElem?_eq_getElem hil] at h
        exact Option.some.inj h
      have Hk := Lib.hid hk
      have Hnx := Lib.hid hnx
      have Hdr2 := Lib.hid hdr2
      have Hll2 := Lib.hid hll2
      have Hinv2 := Lib.hid hinv2
      clear hn0 hnx hdr2 hll2 hinv2 hdr hll hinv hk
      go_wp2_with fail
      refine Hnx.out.mono ?_
      rintro e w6 ⟨⟨S6, hS6, H6, hf6⟩, ⟨k', hk', rfl⟩ | ⟨hk', _⟩⟩
      rotate_left
      · cases hk'
      cases hk'
      have hb6 : Below W.heap.size W w6 := hb.out.trans (hf6.below hSw.out hb.out.size)
      have hS6w : ∀ k, S6 k → W.heap.size ≤ k := fun k hk => (hS6 k hk).elim (hSw.out k) (fun h => Nat.le_trans hb.out.size h)
      have hgS6 : ¬ S6 gw := fun h => (hS6 gw h).elim hgS.out (fun h => by omega)
      have hgh6 : w6.heap[gw]? = w5.heap[gw]? := (hf6.block gw hgl hgS.out).trans hgh.out
      have hgl6 : gw < w6.heap.size := Nat.lt_of_lt_of_le hgl hf6.size
      have sw : ∀ j v, j < 4 → (tokCells k)[j]? = some v → w6.cell? ⟨gw, i * 4 + j, none⟩ = some v := fun j v hj h => by
        have h1 := Hgr.out (i * 4 + j) v (by rw [flat_at tokCells (fun _ => rfl) l i hil j hj, Hk.out]; exact h)
        rw [← h1]
        unfold World.cell?
        rw [hgh6]
      have x0 : w6.cell? ⟨gw, i * 4, none⟩ = some (.int .i64 k.frm) := sw 0 _ (by decide) rfl
      have x1 := sw 1 _ (by decide) rfl
      have x2 := sw 2 _ (by decide) rfl
      have x3 := sw 3 _ (by decide) rfl
      have Hb6 := Lib.hid hb6
      have HS6 := Lib.hid hS6w
      have HgS6 := Lib.hid hgS6
      have Hgh6 := Lib.hid hgh6
      clear hb6 hS6w hgS6 hgh6 sw hf6 hS6 Hnx
      unfold tokVal
      go_wp2_with fail
      obtain ⟨wA, hwA⟩ : ∃ x, x = w6.alloc (.cells #[.int .i64 k.frm, .int .i64 k.to, .string k.kind, .string k.value] 43) := ⟨_, rfl⟩
      rw [← hwA]
      have hbA : Below w6.heap.size w6 wA := by rw [hwA]; exact (Below.refl _ _).alloc (Nat.le_refl _) _
      have hKA : wA.heap[w6.heap.size]? = some (.cells #[.int .i64 k.frm, .int .i64 k.to, .string k.kind, .string k.value] 43 (0, 0)) := by rw [hwA]; exact heap_alloc_at rfl
      have a0 : w6.heap.size < wA.heap.size := (Array.getElem?_eq_some_iff.1 hKA).1
      have a1 : gw < wA.heap.size := Nat.lt_of_lt_of_le hgl6 hbA.size
      have g0 : wA.cell? ⟨w6.heap.size, 0, none⟩ = some (.int .i64 k.frm) := cell_of_block hKA 0
      have g1 : wA.cell? ⟨w6.heap.size, 1, none⟩ = some (.int .i64 k.to) := cell_of_block hKA 1
      have g2 : wA.cell? ⟨w6.heap.size, 2, none⟩ = some (.string k.kind) := cell_of_block hKA 2
      have g3 : wA.cell? ⟨w6.heap.size, 3, none⟩ = some (.string k.value) := cell_of_block hKA 3
      rw [← hbA.cell hgl6] at x0 x1 x2 x3
      have HbA := Lib.hid hbA
      clear hwA hbA hKA
      go_still_tail 5, (by kernel_rfl)
      change wpList _ _ _ _ _ wA.drew
      obtain ⟨wd, hwd⟩ : ∃ x, x = wA.drew := ⟨_, rfl⟩
      have hbd : Below w6.heap.size w6 wd := by rw [hwd]; exact below_drew HbA.out
      have a2 : w6.heap.size < wd.heap.size := by rw [hwd]; exact a0
      have a3 : gw < wd.heap.size := by rw [hwd]; exact a1
      have y0 : wd.cell? ⟨w6.heap.size, 0, none⟩ = some (.int .i64 k.frm) := by rw [hwd]; exact g0
      have y1 : wd.cell? ⟨w6.heap.size, 1, none⟩ = some (.int .i64 k.to) := by rw [hwd]; exact g1
      have y2 : wd.cell? ⟨w6.heap.size, 2, none⟩ = some (.string k.kind) := by rw [hwd]; exact g2
      have y3 : wd.cell? ⟨w6.heap.size, 3, none⟩ = some (.string k.value) := by rw [hwd]; exact g3
      have z0 : wd.cell? ⟨gw, i * 4, none⟩ = some (.int .i64 k.frm) := by rw [hwd]; exact x0
      have z1 : wd.cell? ⟨gw, i * 4 + 1, none⟩ = some (.int .i64 k.to) := by rw [hwd]; exact x1
      have z2 : wd.cell? ⟨gw, i * 4 + 2, none⟩ = some (.string k.kind) := by rw [hwd]; exact x2
      have z3 : wd.cell? ⟨gw, i * 4 + 3, none⟩ = some (.string k.value) := by rw [hwd]; exact x3
      rw [← hwd]
      have Hbd := Lib.hid hbd
      clear hwd g0 g1 g2 g3 x0 x1 x2 x3 a0 a1 HbA hbd hb hgS hgh hSw H1
      go_wp2_with fail
      refine (zzSame_tok k _).mono ?_
      rintro e w8 ⟨rfl, hb2⟩
      have hb68 : Below w6.heap.size w6 w8 := Hbd.out.trans (hb2.mono Hbd.out.size)
      have H8 := H6.keep hb68
      have hb8 : Below W.heap.size W w8 := Hb6.out.trans (hb68.mono Hb6.out.size)
      have hgh8 : w8.heap[gw]? = w5.heap[gw]? := (hb68.block gw hgl6).trans Hgh6.out
      have hgl8 : gw < w8.heap.size := Nat.lt_of_lt_of_le hgl6 hb68.size
      have Hb8 := Lib.hid hb8
      have Hgh8 := Lib.hid hgh8
      clear hb2 hb68 hb8 hgh8
      go_wp2_with fail
      go_roundg (n - i)
      case measure => omega
      case rel => exact ⟨i + 1, S6, t2, l1 ++ [k], l3, by go_num, Lib.hid (by rw [List.length_append, hli.out]; rfl), Hll2, Hdr2, Hinv2, H8, Hb8, HS6, HgS6, Hgh8, hgl8, by omega, by omega⟩
    · have j1 : ¬ (i : Int) < (n : Int) := by omega
      have hl2 : l2 = [] := List.eq_nil_of_length_eq_zero (by omega)
      subst hl2
      have hno := drain_nil hdr.out
      have Hno := Lib.hid hno
      clear hno hdr hll hnx hinv2 Hgr Hn Hdr hgS hgh
      go_wp2_with fail
      go_loopg [10] 3 (fun g kv wr => ∃ (k : Nat) (S1 : Nat → Prop) (t1 : St), kv = .int .i64 (k : Nat) ∧ Lx W S1 wr L s t1 ∧ Hid (nextS s t1 = (none, u)) ∧ Hid (Inv s t1) ∧ Hid (Below W.heap.size W wr) ∧ Hid (∀ i, S1 i → W.heap.size ≤ i) ∧ k ≤ 2 ∧ 2 - k < g)
      case atStart => exact ⟨0, S1, t1, rfl, H1, Hno, hinv, hb, hSw, by omega, by omega⟩
      case round =>
        clear H1 Hno hinv hb hSw
        obtain ⟨k, S1, t1, rfl, H1, Hno, hinv, hb, hSw, hk, hg⟩ := hrel
        by_cases hk3 : k < 2
        · have k1 : (k : Int) < 2 := by omega
          have hnx := next_two hF H1 (.inl hinv.out)
          have hinv2 := inv_nextS hinv.out
          unfold NextTwo at hnx
          rw [Hno.out] at hnx hinv2
          have Hnx := Lib.hid hnx
          have Hinv2 := Lib.hid hinv2
          clear hnx hinv2
          go_wp2_with fail
          refine Hnx.out.mono ?_
          rintro e w6 ⟨⟨S6, hS6, H6, hf6⟩, ⟨k', hk', _⟩ | ⟨_, T, ev, rfl, hev, hev2⟩⟩
          · cases hk'
          have hb6 : Below W.heap.size W w6 := hb.out.trans (hf6.below hSw.out hb.out.size)
          have hS6w : ∀ i, S6 i → W.heap.size ≤ i := fun i hi => (hS6 i hi).elim (hSw.out i) (fun h => Nat.le_trans hb.out.size h)
          have Hb6 := Lib.hid hb6
          have HS6 := Lib.hid hS6w
          clear hb6 hS6w hf6 hS6 Hnx
          unfold zeroTok
          go_wp2_with (go_at_call 18; refine (zzIsZero_any _).mono ?_; rintro e w7 ⟨rfl, hb7⟩)
          have hb67 : Below w6.heap.size w6 w7 := Below.trans (by repeat (first | exact Below.refl _ _ | apply below_drew | apply below_drewN | apply below_alloc | apply below_grow)) (hb7.mono (by simp))
          have H7 := H6.keep hb67
          have hbw7 : Below W.heap.size W w7 := Hb6.out.trans (hb67.mono Hb6.out.size)
          have Hbw7 := Lib.hid hbw7
          clear hb7 hb67 hbw7
          go_wp2_with fail
          go_roundg (2 - k)
          case measure => omega
          case rel => exact ⟨k + 1, S6, u, by go_num, H7, Hstop, Hinv2, Lib.hid (by repeat (first | exact Hbw7.out | apply below_drew | apply below_drewN | apply below_alloc | apply below_grow)), HS6, by omega, by omega⟩
        · have k1 : ¬ (k : Int) < 2 := by omega
          go_wp2_with fail
          go_ret
          exact ⟨rfl, (by repeat (first | exact hb.out | apply below_drew | apply below_drewN | apply below_alloc | apply below_grow))⟩

end Go.Proofs.YtkplkccjeacniaaGreatFmt
