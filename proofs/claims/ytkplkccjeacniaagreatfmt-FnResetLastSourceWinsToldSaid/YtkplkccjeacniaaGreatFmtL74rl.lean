/-
  Walk of a law of n003_74: the last source wins.
-/
import Derived.Test.YtkplkccjeacniaaGreatFmtZ74h
namespace Go.Proofs.YtkplkccjeacniaaGreatFmt
open Go Go.Lib Go.RowKit Go.Proofs
open Go.Extern.Stop Go.Stop Go.Extern

def Says (P : Bool → Prop) (w : World) (e : Ending) (w' : World) : Prop := ∃ b, e = .returned (.bool b) ∧ P b ∧ w = w'
theorem says_ret {P : Bool → Prop} {w : World} {b : Bool} (h : P b) : Says P w (.returned (.bool b)) w := ⟨b, rfl, h, rfl⟩

set_option maxRecDepth 100000 in
theorem zzBytes_RL (a b : ByteArray) (w : World) (wa : a.size ≤ maxLen) (wb : b.size ≤ maxLen) : Calls Tryz.prog 8 #[.string a, .string b] w (Says (fun _ => True) w) := by
  unfold maxLen at wa wb
  by_cases z0 : (1048576 : Int) < (a.size : Int)
  · go_enter Tryz.func8, Tryz.ntmps8
    go_wp2_with fail
    go_ret
    exact says_ret trivial
  by_cases z1 : (1048576 : Int) < (b.size : Int)
  · go_enter Tryz.func8, Tryz.ntmps8
    go_wp2_with fail
    go_ret
    exact says_ret trivial
  by_cases z2 : (1048576 : Int) < (a.size : Int) + (b.size : Int)
  · go_enter Tryz.func8, Tryz.ntmps8
    go_wp2_with fail
    go_ret
    exact says_ret trivial
  · go_enter Tryz.func8, Tryz.ntmps8
    go_wp2_with fail
    go_ret
    exact says_ret trivial

set_option maxHeartbeats 8000000 in
set_option maxRecDepth 100000 in
theorem RL_walk {W : World} (hT : Tabs W) (F : Stop.Interp) (hF : F.answers W.tape) (a b : ByteArray) (wa : a.size ≤ maxLen) (wb : b.size ≤ maxLen) :
    Calls Tryz.prog 3 #[.string a, .string b] W fun e w' => e = .returned (.bool true) ∧ Below W.heap.size W w' := by
  have hz := zzBytes_RL a b W wa wb
  have Hz := Lib.hid hz
  clear hz
  by_cases z0 : (65536 : Int) < (a.size : Int)
  · go_enter Tryz.func3, Tryz.ntmps3
    go_wp2_with fail
    refine Hz.out.mono ?_
    rintro e w' ⟨b, rfl, _, rfl⟩
    cases b
    · go_wp2_with fail
      go_ret
      exact ⟨rfl, Below.refl _ _⟩
    · go_wp2_with fail
      go_ret
      exact ⟨rfl, Below.refl _ _⟩
  by_cases z1 : (65536 : Int) < (b.size : Int)
  · go_enter Tryz.func3, Tryz.ntmps3
    go_wp2_with fail
    refine Hz.out.mono ?_
    rintro e w' ⟨b, rfl, _, rfl⟩
    cases b
    · go_wp2_with fail
      go_ret
      exact ⟨rfl, Below.refl _ _⟩
    · go_wp2_with fail
      go_ret
      exact ⟨rfl, Below.refl _ _⟩
  have ha : a.size ≤ 1099511627776 := by omega
  have hs : b.size ≤ 1099511627776 := by omega
  obtain ⟨l, u, hx⟩ := lexed b
  have hl := hx.len
  have Hx := Lib.hid hx
  clear hx
  have hlex := fun (w : World) (hl2 : Below W.heap.size W w) => lex_any hF hT hl2 b hs (Hx.out.drain (l.length + 1) (Nat.lt_succ_self _)) (by omega)
  have Hlex := Lib.hid hlex
  clear hlex
  obtain ⟨N, hN⟩ : ∃ N : Nat, N = b.size + 3 := ⟨_, rfl⟩
  have hN1 : (b.size : Int) + 3 = (N : Int) := by omega
  have hN2 : N ≤ 1099511627776 := by omega
  have hN3 : l.length < N := by omega
  have q0 : ∀ wr, Sem.run Tryz.prog (binOp BinOp.eql 33 Value.nilIface Value.nilIface) wr = .ok (.bool true) wr := fun _ => by kernel_rfl
  have q3 : ∀ E wr, Sem.run Tryz.prog (binOp BinOp.eql 33 (.iface 56 (.pointer (some ⟨E, 0, none⟩))) Value.nilIface) wr = .ok (.bool false) wr := fun _ _ => by kernel_rfl
  have HN := Lib.hid hN
  clear hN
  go_enter Tryz.func3, Tryz.ntmps3
  go_wp2_with fail
  refine Hz.out.mono ?_
  rintro e w' ⟨b, rfl, _, rfl⟩
  cases b
  · go_wp2_with fail
    go_ret
    exact ⟨rfl, Below.refl _ _⟩
  go_wp2_with fail
  refine (new_any hT (Below.refl _ _)).mono ?_
  rintro e w1 ⟨L, rfl, S, hS, H, hb1⟩
  have HS := Lib.hid hS
  have Hb1 := Lib.hid hb1
  clear hS hb1
  go_wp2_with fail
  refine (newSource_any a _).mono ?_
  rintro e w' ⟨rfl, xs1, d1, rfl⟩
  go_wp2_with fail
  refine (reset_any (H.keep (grow_below _ _ _)) ha).mono ?_
  rintro e w2 ⟨rfl, S2, hS2, H2, hf2⟩
  have hg1 := grow_below w1 xs1 d1
  have hb12 : Below W.heap.size W (grow w1 xs1 d1) := Hb1.out.trans (hg1.mono Hb1.out.size)
  have hS2w : ∀ k, S2 k → W.heap.size ≤ k := fun k hk => (hS2 k hk).elim (HS.out k) (fun h => Nat.le_trans hb12.size h)
  have hbw2 : Below W.heap.size W w2 := hb12.trans (hf2.below HS.out hb12.size)
  have HS2 := Lib.hid hS2w
  have Hbw2 := Lib.hid hbw2
  clear hg1 hb12 hS2w hbw2 hf2 hS2 H HS Hb1
  go_wp2_with fail
  refine (newSource_any b _).mono ?_
  rintro e w' ⟨rfl, xs2, d2, rfl⟩
  go_wp2_with fail
  refine (reset_any (H2.keep (grow_below _ _ _)) hs).mono ?_
  rintro e w4 ⟨rfl, S4, hS4, H4, hf4⟩
  have hst : ({ { fresh with q := some .root, toks := [] } with q := some .root, toks := [] } : St) = start := rfl
  rw [hst] at H4
  have hg2 := grow_below w2 xs2 d2
  have hb24 : Below W.heap.size W (grow w2 xs2 d2) := Hbw2.out.trans (hg2.mono Hbw2.out.size)
  have hS4w : ∀ k, S4 k → W.heap.size ≤ k := fun k hk => (hS4 k hk).elim (HS2.out k) (fun h => Nat.le_trans hb24.size h)
  have hbw4 : Below W.heap.size W w4 := hb24.trans (hf4.below HS2.out hb24.size)
  have HS4 := Lib.hid hS4w
  have Hbw4 := Lib.hid hbw4
  clear hst hg2 hb24 hS4w hbw4 hf4 hS4 H2 HS2 Hbw2
  go_wp2_with fail
  refine (zzDrain_any hF H4 (inv_start b) N hN2 hN3 (Hx.out.drain _ (Nat.lt_succ_self _))).mono ?_
  rintro e w5 ⟨gv, S5, rfl, hown5, hg5, hS5, H5, hf5⟩
  have hbw5 : Below W.heap.size W w5 := Hbw4.out.trans (hf5.below HS4.out Hbw4.out.size)
  have Hown5 := Lib.hid hown5
  have Hbw5 := Lib.hid hbw5
  clear hown5 hg5 hbw5 hf5 hS5 Hbw4 HS4 H4 H5
  go_wp2_with fail
  refine (newSource_any b _).mono ?_
  rintro e w' ⟨rfl, xs3, d3, rfl⟩
  go_wp2_with fail
  have hg3 := grow_below w5 xs3 d3
  refine (Hlex.out _ (Hbw5.out.trans (hg3.mono Hbw5.out.size))).mono ?_
  rintro e w6 ⟨hb6, hres⟩
  have hb56 : Below w5.heap.size w5 w6 := hg3.trans (hb6.mono hg3.size)
  have hown6 := own_keep Hown5.out (w' := w6) (fun k hk => hb56.block k (Hown5.out.lt k hk).2)
  have hbw6 : Below W.heap.size W w6 := Hbw5.out.trans (hb56.mono Hbw5.out.size)
  have Hown6 := Lib.hid hown6
  have Hbw6 := Lib.hid hbw6
  clear hb56 hown6 hbw6 hb6 hg3 Hlex Hown5 Hbw5
  rcases hres with ⟨heq, tv, rfl, htoks⟩ | ⟨hne, E, rfl⟩
  · have Htoks := Lib.hid htoks
    clear heq htoks q3
    go_wp2_with fail
    refine (zzEqList_any l (by omega) gv tv _ _ _ Hown6.out Htoks.out).mono ?_
    rintro e w8 ⟨rfl, hb8⟩
    go_wp2_with fail
    go_ret
    exact ⟨rfl, Hbw6.out.trans (hb8.mono Hbw6.out.size)⟩
  · have hq3 := q3 E
    obtain ⟨m, hm, ht⟩ := Hx.out.ended.bad hne
    have hkinds := tiled_kinds ht
    have Hkinds := Lib.hid hkinds
    clear hne q0 q3 ht hkinds
    go_wp2_with fail
    refine (zzHasEOF_no l (by omega) Hkinds.out gv _ w6 Hown6.out).mono ?_
    rintro e w8 ⟨rfl, hb8⟩
    go_wp2_with fail
    go_ret
    exact ⟨rfl, Hbw6.out.trans (hb8.mono Hbw6.out.size)⟩

end Go.Proofs.YtkplkccjeacniaaGreatFmt
