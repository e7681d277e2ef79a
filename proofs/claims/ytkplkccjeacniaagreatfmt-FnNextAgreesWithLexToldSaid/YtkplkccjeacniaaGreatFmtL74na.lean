/-
  Walk of a law of n003_74: Next agrees with Lex.
-/
import Derived.Test.YtkplkccjeacniaaGreatFmtZ74h
namespace Go.Proofs.YtkplkccjeacniaaGreatFmt
open Go Go.Lib Go.RowKit Go.Proofs
open Go.Extern.Stop Go.Stop Go.Extern

def Says (P : Bool → Prop) (w : World) (e : Ending) (w' : World) : Prop := ∃ b, e = .returned (.bool b) ∧ P b ∧ w = w'
theorem says_ret {P : Bool → Prop} {w : World} {b : Bool} (h : P b) : Says P w (.returned (.bool b)) w := ⟨b, rfl, h, rfl⟩

set_option maxRecDepth 100000 in
theorem zzBytes_NA (c : ByteArray) (w : World) (wc : c.size ≤ maxLen) : Calls Tryz.prog 16 #[.string c] w (Says (fun _ => True) w) := by
  unfold maxLen at wc
  by_cases z0 : (1048576 : Int) < (c.size : Int)
  · go_enter Tryz.func16, Tryz.ntmps16
    go_wp2_with fail
    go_ret
    exact says_ret trivial
  · go_enter Tryz.func16, Tryz.ntmps16
    go_wp2_with fail
    go_ret
    exact says_ret trivial

set_option maxHeartbeats 8000000 in
set_option maxRecDepth 100000 in
theorem NA_walk {W : World} (hT : Tabs W) (F : Stop.Interp) (hF : F.answers W.tape) (s : ByteArray) (wc : s.size ≤ maxLen) :
    Calls Tryz.prog 4 #[.string s] W fun e w' => e = .returned (.bool true) ∧ Below W.heap.size W w' := by
  have hz := zzBytes_NA s W wc
  have Hz := Lib.hid hz
  clear hz
  by_cases z0 : (65536 : Int) < (s.size : Int)
  · go_enter Tryz.func4, Tryz.ntmps4
    go_wp2_with fail
    refine Hz.out.mono ?_
    rintro e w' ⟨b, rfl, _, rfl⟩
    cases b
    · go_wp2_with fail
      go_ret
      exact ⟨rfl, Below.refl _ _⟩
    · go_wp2_with fail
      go_ret
      exact ⟨rfl, Below.refl _ _⟩
  have hs : s.size ≤ 1099511627776 := by omega
  obtain ⟨l, u, hx⟩ := lexed s
  have hl := hx.len
  have Hx := Lib.hid hx
  clear hx
  have hlex := fun (w : World) (hl2 : Below W.heap.size W w) => lex_any hF hT hl2 s hs (Hx.out.drain (l.length + 1) (Nat.lt_succ_self _)) (by omega)
  have Hlex := Lib.hid hlex
  clear hlex
  obtain ⟨N, hN⟩ : ∃ N : Nat, N = s.size + 3 := ⟨_, rfl⟩
  have hN1 : (s.size : Int) + 3 = (N : Int) := by omega
  have hN2 : N ≤ 1099511627776 := by omega
  have hN3 : l.length < N := by omega
  have q0 : ∀ wr, Sem.run Tryz.prog (binOp BinOp.eql 33 Value.nilIface Value.nilIface) wr = .ok (.bool true) wr := fun _ => by kernel_rfl
  have q2 : ∀ wr, Sem.run Tryz.prog (binOp BinOp.eql 33 (.iface 63 (.string ⟨#[69, 79, 70]⟩)) Value.nilIface) wr = .ok (.bool false) wr := fun _ => by kernel_rfl
  have q3 : ∀ E wr, Sem.run Tryz.prog (binOp BinOp.eql 33 (.iface 56 (.pointer (some ⟨E, 0, none⟩))) Value.nilIface) wr = .ok (.bool false) wr := fun _ _ => by kernel_rfl
  have HN := Lib.hid hN
  clear hN
  go_enter Tryz.func4, Tryz.ntmps4
  go_wp2_with fail
  refine Hz.out.mono ?_
  rintro e w' ⟨b, rfl, _, rfl⟩
  cases b
  · go_wp2_with fail
    go_ret
    exact ⟨rfl, Below.refl _ _⟩
  go_wp2_with fail
  refine (newSource_any s _).mono ?_
  rintro e w' ⟨rfl, xs, d, rfl⟩
  go_wp2_with fail
  have hg1 := grow_below W xs d
  refine (Hlex.out _ hg1).mono ?_
  rintro e w2 ⟨hb2, hres⟩
  have hbw2 : Below W.heap.size W w2 := hg1.trans (hb2.mono hg1.size)
  have Hbw2 := Lib.hid hbw2
  have key : ∃ tv ev, e = .returned (.tuple #[tv, ev]) ∧ ((u.err = none ∧ ev = .nilIface ∧ w2.ownsRow (grow W xs d).heap.size 43 4 tv l.length (l.flatMap tokCells)) ∨ (u.err ≠ none ∧ ∃ E, ev = .iface 56 (.pointer (some ⟨E, 0, none⟩)))) := by
    rcases hres with ⟨h, v, rfl, ho⟩ | ⟨h, E, rfl⟩
    · exact ⟨v, _, rfl, .inl ⟨h, rfl, ho⟩⟩
    · exact ⟨_, _, rfl, .inr ⟨h, E, rfl⟩⟩
  obtain ⟨tv, ev, rfl, hkey⟩ := key
  have Hkey := Lib.hid hkey
  clear hkey hres hb2 hg1 hbw2
  go_wp2_with fail
  refine (new_any hT (by repeat (first | exact Hbw2.out | apply below_drew | apply below_drewN | apply below_alloc | apply below_grow))).mono ?_
  rintro e w3 ⟨L, rfl, S, hS, H, hb3⟩
  have hb23 : Below w2.heap.size w2 w3 := Below.trans (by repeat (first | exact Below.refl _ _ | apply below_drew | apply below_drewN | apply below_alloc | apply below_grow)) (hb3.mono (by first | exact Nat.le_refl _ | exact grow_size _ _ _ | simp))
  have hSw : ∀ k, S k → w2.heap.size ≤ k := fun k hk => Nat.le_trans (by first | exact Nat.le_refl _ | exact grow_size _ _ _ | simp) (hS k hk)
  have Hb23 := Lib.hid hb23
  have HSw := Lib.hid hSw
  clear hb23 hSw hS hb3
  go_wp2_with fail
  refine (newSource_any s _).mono ?_
  rintro e w' ⟨rfl, xs2, d2, rfl⟩
  go_wp2_with fail
  refine (reset_any (H.keep (grow_below _ _ _)) hs).mono ?_
  rintro e w4 ⟨rfl, S2, hS2, H2, hf2⟩
  have hst : ({ fresh with q := some .root, toks := [] } : St) = start := rfl
  rw [hst] at H2
  have hg3 := grow_below w3 xs2 d2
  have hS2w : ∀ k, S2 k → w2.heap.size ≤ k := fun k hk => (hS2 k hk).elim (HSw.out k) (fun h => Nat.le_trans (Nat.le_trans Hb23.out.size hg3.size) h)
  have hb24 : Below w2.heap.size w2 w4 := (Hb23.out.trans (hg3.mono Hb23.out.size)).trans (hf2.below HSw.out (Nat.le_trans Hb23.out.size hg3.size))
  have HS2w := Lib.hid hS2w
  have Hb24 := Lib.hid hb24
  clear hst hg3 hS2w hb24 hf2 hS2 Hb23 HSw H
  go_wp2_with fail
  refine (zzDrain_any hF H2 (inv_start s) N hN2 hN3 (Hx.out.drain _ (Nat.lt_succ_self _))).mono ?_
  rintro e w5 ⟨gv, S3, rfl, hown5, hg5, hS3, H5, hf5⟩
  have hb25 : Below w2.heap.size w2 w5 := Hb24.out.trans (hf5.below HS2w.out Hb24.out.size)
  have hS3w : ∀ k, S3 k → w2.heap.size ≤ k := fun k hk => (hS3 k hk).elim (HS2w.out k) (fun h => Nat.le_trans Hb24.out.size h)
  have Hown5 := Lib.hid hown5
  have Hg5 := Lib.hid hg5
  have Hb25 := Lib.hid hb25
  have HS3w := Lib.hid hS3w
  clear hown5 hg5 hb25 hS3w hf5 hS3 Hb24 HS2w H2
  go_wp2_with fail
  refine (next_all hF H5 (.inl Hx.out.inv)).mono ?_
  rintro e w6 ⟨hD, hres⟩
  rw [Hx.out.stop] at hD hres
  obtain ⟨S4, hS4, H6, hf6⟩ := hD
  have hown6 := own_keep Hown5.out (w' := w6) (fun k hk => hf6.block k (Hown5.out.lt k hk).2 (Hg5.out k hk))
  have hb26 : Below w2.heap.size w2 w6 := Hb25.out.trans (hf6.below HS3w.out Hb25.out.size)
  have hbw6 : Below W.heap.size W w6 := Hbw2.out.trans (hb26.mono Hbw2.out.size)
  have Hown6 := Lib.hid hown6
  have Hb26 := Lib.hid hb26
  have Hbw6 := Lib.hid hbw6
  clear hown6 hb26 hbw6 hf6 hS4 H6 H5 Hown5 Hg5 Hb25 HS3w
  rcases hres with ⟨k, hk, _⟩ | ⟨_, hne, E, rfl⟩ | ⟨_, heq, rfl⟩
  · cases hk
  · rcases Hkey.out with ⟨h, _⟩ | ⟨_, E0, rfl⟩
    · exact absurd h hne
    have hq3 := q3 E
    have hq4 := q3 E0
    obtain ⟨m, hm, ht⟩ := Hx.out.ended.bad hne
    have hkinds := tiled_kinds ht
    have Hkinds := Lib.hid hkinds
    clear hne q0 q2 q3 ht hkinds Hkey
    unfold zeroTok
    go_wp2_with (go_at_call 18; refine (zzIsZero_any _).mono ?_; rintro e w7 ⟨rfl, hb7⟩)
    have hb67 : Below w6.heap.size w6 w7 := Below.trans (by repeat (first | exact Below.refl _ _ | apply below_drew | apply below_drewN | apply below_alloc | apply below_grow)) (hb7.mono (by simp))
    have hown7 := own_keep Hown6.out (w' := w7) (fun k hk => hb67.block k (Hown6.out.lt k hk).2)
    have hbw7 : Below W.heap.size W w7 := Hbw6.out.trans (hb67.mono Hbw6.out.size)
    have Hown7 := Lib.hid hown7
    have Hbw7 := Lib.hid hbw7
    clear hb7 hb67 hown7 hbw7
    go_wp2_with fail
    refine (zzHasEOF_no l (by omega) Hkinds.out gv _ w7 Hown7.out).mono ?_
    rintro e w8 ⟨rfl, hb8⟩
    go_wp2_with fail
    go_ret
    exact ⟨rfl, Hbw7.out.trans (hb8.mono Hbw7.out.size)⟩
  · rcases Hkey.out with ⟨_, rfl, htoks⟩ | ⟨h, _⟩
    rotate_left
    · exact absurd heq h
    have htoks6 := own_keep htoks (w' := w6) (fun k hk => Hb26.out.block k (htoks.lt k hk).2)
    have Htoks6 := Lib.hid htoks6
    clear heq q3 htoks htoks6 Hkey
    unfold zeroTok
    go_wp2_with (go_at_call 18; refine (zzIsZero_any _).mono ?_; rintro e w7 ⟨rfl, hb7⟩)
    have hb67 : Below w6.heap.size w6 w7 := Below.trans (by repeat (first | exact Below.refl _ _ | apply below_drew | apply below_drewN | apply below_alloc | apply below_grow)) (hb7.mono (by simp))
    have hown7 := own_keep Hown6.out (w' := w7) (fun k hk => hb67.block k (Hown6.out.lt k hk).2)
    have htoks7 := own_keep Htoks6.out (w' := w7) (fun k hk => hb67.block k (Htoks6.out.lt k hk).2)
    have hbw7 : Below W.heap.size W w7 := Hbw6.out.trans (hb67.mono Hbw6.out.size)
    have Hown7 := Lib.hid hown7
    have Htoks7 := Lib.hid htoks7
    have Hbw7 := Lib.hid hbw7
    clear hb7 hb67 hown7 hbw7 htoks7
    go_wp2_with fail
    refine (zzEqList_any l (by omega) gv tv _ _ w7 Hown7.out Htoks7.out).mono ?_
    rintro e w8 ⟨rfl, hb8⟩
    go_wp2_with fail
    go_ret
    exact ⟨rfl, Hbw7.out.trans (hb8.mono Hbw7.out.size)⟩

end Go.Proofs.YtkplkccjeacniaaGreatFmt
