/-
  Walk of a law of n003_74: Lex over the small language.
-/
import Derived.Test.YtkplkccjeacniaaGreatFmtZ74n
namespace Go.Proofs.YtkplkccjeacniaaGreatFmt
open Go Go.Lib Go.RowKit Go.Proofs
open Go.Extern.Stop Go.Stop Go.Extern

def Says (P : Bool → Prop) (w : World) (e : Ending) (w' : World) : Prop := ∃ b, e = .returned (.bool b) ∧ P b ∧ w = w'
theorem says_ret {P : Bool → Prop} {w : World} {b : Bool} (h : P b) : Says P w (.returned (.bool b)) w := ⟨b, rfl, h, rfl⟩

set_option maxRecDepth 100000 in
theorem zzBytes_SL (c : ByteArray) (w : World) (wc : c.size ≤ maxLen) : Calls Tryz.prog 19 #[.string c] w (Says (fun _ => True) w) := by
  unfold maxLen at wc
  by_cases z0 : (1048576 : Int) < (c.size : Int)
  · go_enter Tryz.func19, Tryz.ntmps19
    go_wp2_with fail
    go_ret
    exact says_ret trivial
  · go_enter Tryz.func19, Tryz.ntmps19
    go_wp2_with fail
    go_ret
    exact says_ret trivial

set_option maxHeartbeats 8000000 in
set_option maxRecDepth 100000 in
theorem SL_walk {W : World} (hT : Tabs W) (F : Stop.Interp) (hF : F.answers W.tape) (s : ByteArray) (wc : s.size ≤ maxLen) :
    Calls Tryz.prog 5 #[.string s] W fun e w' => e = .returned (.bool true) ∧ Below W.heap.size W w' := by
  have hz := zzBytes_SL s W wc
  have Hz := Lib.hid hz
  clear hz
  by_cases z0 : (65536 : Int) < (s.size : Int)
  · go_enter Tryz.func5, Tryz.ntmps5
    go_wp2_with fail
    refine Hz.out.mono ?_
    rintro e w' ⟨b, rfl, _, rfl⟩
    cases b
    · go_wp2_with fail
      go_ret
      exact ⟨rfl, Below.refl _ _⟩
    · go_wp2_with fail
      go_ret
      exact ⟨rfl, Below.refl _ _⟩
  have hs : s.size ≤ 1099511627776 := by omega
  have hh := zzInSmall_any s hs W
  have Hh := Lib.hid hh
  clear hh
  have q0 : ∀ wr, Sem.run Tryz.prog (binOp BinOp.neq 33 Value.nilIface Value.nilIface) wr = .ok (.bool false) wr := fun _ => by kernel_rfl
  go_enter Tryz.func5, Tryz.ntmps5
  go_wp2_with fail
  refine Hz.out.mono ?_
  rintro e w' ⟨b, rfl, _, rfl⟩
  cases b
  · go_wp2_with fail
    go_ret
    exact ⟨rfl, Below.refl _ _⟩
  go_wp2_with fail
  refine Hh.out.mono ?_
  rintro e wa ⟨b, rfl, hno, hba⟩
  cases b
  · go_wp2_with fail
    go_ret
    exact ⟨rfl, hba⟩
  have hsm : Small s := hno rfl
  have hout := small_out hsm false s.size 0 rfl (Nat.zero_le _)
  obtain ⟨l, hl⟩ : ∃ l, l = modelGo s false 0 ++ [eofTok s.size] := ⟨_, rfl⟩
  have hlen : l.length ≤ 65537 := by rw [hl, List.length_append]; have := model_len s false 0; simp; omega
  have hpos : 0 < l.length := by rw [hl]; simp
  have hmod := fun w => zzModel_any s (by omega) hsm false w
  unfold ModelPost at hmod
  rw [← hl] at hout hmod
  have hlex := fun (w : World) (hb : Below W.heap.size W w) => lex_any hF hT hb s hs (out_drain (t := start) hout (inv_start s) rfl (l.length + 1) (Nat.lt_succ_self _)) (by omega)
  obtain ⟨n, hn⟩ : ∃ n, l.length = n := ⟨_, rfl⟩
  have Hlex := Lib.hid hlex
  have Hmod := Lib.hid hmod
  have Hba := Lib.hid hba
  have Hn := Lib.hid hn
  have Hpos := Lib.hid hpos
  rw [hn] at hlen
  clear hno hsm hout hl hmod hlex hba hn hpos
  go_wp2_with fail
  refine (newSource_any s _).mono ?_
  rintro e w' ⟨rfl, xs, d, rfl⟩
  go_wp2_with fail
  have hg1 := grow_below wa xs d
  refine (Hlex.out _ (Hba.out.trans (hg1.mono Hba.out.size))).mono ?_
  rintro e w2 ⟨hb2, ⟨_, tv, rfl, htoks⟩ | ⟨h, _⟩⟩
  rotate_left
  · exact absurd rfl h
  have hb02 : Below W.heap.size W w2 := (Hba.out.trans (hg1.mono Hba.out.size)).trans (hb2.mono (Hba.out.trans (hg1.mono Hba.out.size)).size)
  have Htoks := Lib.hid htoks
  have Hb02 := Lib.hid hb02
  clear htoks hb02 hb2 hg1 Hlex Hba
  go_wp2_with fail
  refine (Hmod.out _).mono ?_
  rintro e w3 ⟨mv, rfl, hmod, hb3⟩
  have hb03 : Below W.heap.size W w3 := Hb02.out.trans (hb3.mono Hb02.out.size)
  have ht3 := (RowAt.owned Htoks.out Hpos.out).keep hb3
  have hm3 := RowAt.owned hmod Hpos.out
  rw [Hn.out] at ht3 hm3
  obtain ⟨ga, gc, rfl, hga, hgr⟩ := ht3
  obtain ⟨wv, wc2, rfl, hwa, hwr⟩ := hm3
  have Hg := Lib.hid hgr
  have Hw := Lib.hid hwr
  have Hb03 := Lib.hid hb03
  clear hgr hwr hb03 hb3 hmod Htoks Hb02 Hmod
  go_wp2_with fail
  go_loopg [6] (n + 1) (fun g iv wr => ∃ i : Nat, iv = .int .i64 (i : Nat) ∧ Hid (Below w3.heap.size w3 wr) ∧ i ≤ n ∧ n - i < g)
  case atStart => exact ⟨0, rfl, Lib.hid (Below.refl _ _), Nat.zero_le _, by omega⟩
  case round =>
    obtain ⟨i, rfl, hb, hi', hgk⟩ := hrel
    by_cases hin : i < n
    · have j0 : (0 : Int) ≤ (i : Int) := by omega
      have j1 : (i : Int) < (n : Int) := by omega
      have hil : i < l.length := by have := Hn.out; omega
      obtain ⟨k, hk⟩ : ∃ k, k = l[i]'hil := ⟨_, rfl⟩
      have sg : ∀ j v, j < 4 → (tokCells k)[j]? = some v → wr.cell? ⟨ga, i * 4 + j, none⟩ = some v := fun j v hj h => by
        rw [hb.out.cell hga]
        exact Hg.out _ _ (by rw [flat_at tokCells (fun _ => rfl) l i hil j hj, ← hk]; exact h)
      have sw : ∀ j v, j < 4 → (tokCells k)[j]? = some v → wr.cell? ⟨wv, i * 4 + j, none⟩ = some v := fun j v hj h => by
        rw [hb.out.cell hwa]
        exact Hw.out _ _ (by rw [flat_at tokCells (fun _ => rfl) l i hil j hj, ← hk]; exact h)
      have g0 : wr.cell? ⟨ga, i * 4, none⟩ = some (.int .i64 k.frm) := sg 0 _ (by decide) rfl
      have g1 := sg 1 _ (by decide) rfl
      have g2 := sg 2 _ (by decide) rfl
      have g3 := sg 3 _ (by decide) rfl
      have x0 : wr.cell? ⟨wv, i * 4, none⟩ = some (.int .i64 k.frm) := sw 0 _ (by decide) rfl
      have x1 := sw 1 _ (by decide) rfl
      have x2 := sw 2 _ (by decide) rfl
      have x3 := sw 3 _ (by decide) rfl
      have a0 : ga < wr.heap.size := Nat.lt_of_lt_of_le hga hb.out.size
      have a1 : wv < wr.heap.size := Nat.lt_of_lt_of_le hwa hb.out.size
      have Hk := Lib.hid hk
      clear sg sw hk
      go_wp2_with fail
      go_still_tail 8, (by kernel_rfl)
      have hb1 : Below w3.heap.size w3 wr.drew := below_drew hb.out
      change wpList _ _ _ _ _ wr.drew
      obtain ⟨wd, hwd⟩ : ∃ x, x = wr.drew := ⟨_, rfl⟩
      have a2 : ga < wd.heap.size := by rw [hwd]; exact a0
      have a3 : wv < wd.heap.size := by rw [hwd]; exact a1
      rw [← hwd] at hb1
      have y0 : wd.cell? ⟨ga, i * 4, none⟩ = some (.int .i64 k.frm) := by rw [hwd]; exact g0
      have y1 : wd.cell? ⟨ga, i * 4 + 1, none⟩ = some (.int .i64 k.to) := by rw [hwd]; exact g1
      have y2 : wd.cell? ⟨ga, i * 4 + 2, none⟩ = some (.string k.kind) := by rw [hwd]; exact g2
      have y3 : wd.cell? ⟨ga, i * 4 + 3, none⟩ = some (.string k.value) := by rw [hwd]; exact g3
      have z0 : wd.cell? ⟨wv, i * 4, none⟩ = some (.int .i64 k.frm) := by rw [hwd]; exact x0
      have z1 : wd.cell? ⟨wv, i * 4 + 1, none⟩ = some (.int .i64 k.to) := by rw [hwd]; exact x1
      have z2 : wd.cell? ⟨wv, i * 4 + 2, none⟩ = some (.string k.kind) := by rw [hwd]; exact x2
      have z3 : wd.cell? ⟨wv, i * 4 + 3, none⟩ = some (.string k.value) := by rw [hwd]; exact x3
      rw [← hwd]
      have Hb1 := Lib.hid hb1
      clear hwd g0 g1 g2 g3 x0 x1 x2 x3 a0 a1 hb hb1
      go_wp2_with fail
      refine (zzSame_tok k _).mono ?_
      rintro e w8 ⟨rfl, hb2⟩
      have hb3 := Hb1.out.trans (hb2.mono Hb1.out.size)
      have Hb3 := Lib.hid hb3
      clear hb2 hb3
      go_wp2_with fail
      go_roundg (n - i)
      case measure => omega
      case rel => exact ⟨i + 1, by go_num, Lib.hid (by repeat (first | exact Hb3.out | apply below_drew | apply below_drewN | apply below_alloc | apply below_grow)), by omega, by omega⟩
    · have j1 : ¬ (i : Int) < (n : Int) := by omega
      go_wp2_with fail
      go_ret
      exact ⟨rfl, (by repeat (first | exact Hb03.out.trans (hb.out.mono Hb03.out.size) | apply below_drew | apply below_drewN | apply below_alloc | apply below_grow))⟩

end Go.Proofs.YtkplkccjeacniaaGreatFmt
