/-
  Walk of a law of n003_74: the tokens of Lex tile the source.
-/
import Derived.Test.YtkplkccjeacniaaFmtZ74x
namespace Go.Proofs.YtkplkccjeacniaaFmt
open Go Go.Lib Go.RowKit Go.Proofs
open Go.Extern.Stop Go.Stop Go.Extern

def Says (P : Bool → Prop) (w : World) (e : Ending) (w' : World) : Prop := ∃ b, e = .returned (.bool b) ∧ P b ∧ w = w'
theorem says_ret {P : Bool → Prop} {w : World} {b : Bool} (h : P b) : Says P w (.returned (.bool b)) w := ⟨b, rfl, h, rfl⟩

set_option maxRecDepth 100000 in
theorem zzBytes_TT (c : ByteArray) (w : World) (wc : c.size ≤ maxLen) : Calls Tryf.prog 5 #[.string c] w (Says (fun _ => True) w) := by
  unfold maxLen at wc
  by_cases z0 : (1048576 : Int) < (c.size : Int)
  · go_enter Tryf.func5, Tryf.ntmps5
    go_wp2_with fail
    go_ret
    exact says_ret trivial
  · go_enter Tryf.func5, Tryf.ntmps5
    go_wp2_with fail
    go_ret
    exact says_ret trivial

/-- A place's cell. -/
theorem place_at {s : ByteArray} {l : List Nat} {a i : Nat} (hp : Places s l) (h : a < l.length) (hb : Bd s i a) : (placeCells l)[a]? = some (.int .i64 (i : Nat)) := by
  have e := (hp a h).inj hb
  unfold placeCells
  rw [List.getElem?_map, List.getElem?_eq_getElem h, e]
  rfl
theorem row_one {w : World} {base n : Nat} {e : TypeId} {v : Value} {xs : List Value} (h : w.ownsRow base e 1 v n xs) (hn : 0 < n) : RowAt w v n xs := RowAt.owned h hn
theorem tiled_step {s : ByteArray} {p N i : Nat} {l : List Tok} (h : Tiled s p (l.drop i) N) (hi : i < l.length) : ∃ a b, p ≤ a ∧ TokAt s (l[i]'hi) a b ∧ Tiled s b (l.drop (i + 1)) N ∧ b ≤ N := by
  rw [List.drop_eq_getElem_cons hi] at h
  cases h with
  | cons h1 h2 h3 => exact ⟨_, _, h1, h2, h3, h3.le⟩

set_option maxHeartbeats 16000000 in
set_option maxRecDepth 100000 in
theorem TT_walk {W : World} (hT : Tabs W) (F : Stop.Interp) (hF : F.answers W.tape) (s : ByteArray) (wc : s.size ≤ maxLen) :
    Calls Tryf.prog 3 #[.string s] W fun e w' => e = .returned (.bool true) ∧ Below W.heap.size W w' := by
  have hz := zzBytes_TT s W wc
  have Hz := Lib.hid hz
  clear hz
  by_cases z0 : (65536 : Int) < (s.size : Int)
  · go_enter Tryf.func3, Tryf.ntmps3
    go_wp2_with fail
    refine Hz.out.mono ?_
    rintro e w' ⟨b, rfl, _, rfl⟩
    cases b
    · go_wp2_with fail
      go_ret
      exact ⟨rfl, Below.refl _ _⟩
    · go_wp2_with fail
      go_ret
      exact ⟨rfl, Below.refl _ _⟩
  have hs : s.size ≤ 1099511627776 := by omega
  obtain ⟨l, u, hx⟩ := lexed s
  have hl := hx.len
  have Hx := Lib.hid hx
  clear hx
  have hlex := fun (w : World) (hl2 : Below W.heap.size W w) => lex_any hF hT hl2 s hs (Hx.out.drain (l.length + 1) (Nat.lt_succ_self _)) (by omega)
  have Hlex := Lib.hid hlex
  clear hlex
  have q0 : ∀ wr, Sem.run Tryf.prog (binOp BinOp.neq 25 Value.nilIface Value.nilIface) wr = .ok (.bool false) wr := fun _ => by kernel_rfl
  have q3 : ∀ E wr, Sem.run Tryf.prog (binOp BinOp.neq 25 (.iface 53 (.pointer (some ⟨E, 0, none⟩))) Value.nilIface) wr = .ok (.bool true) wr := fun _ _ => by kernel_rfl
  have q4 : ∀ wr, Sem.run Tryf.prog (binOp BinOp.eql 23 (.slice none 0 0) (.slice none 0 0)) wr = .ok (.bool true) wr := fun _ => by kernel_rfl
  go_enter Tryf.func3, Tryf.ntmps3
  go_wp2_with fail
  refine Hz.out.mono ?_
  rintro e w' ⟨b, rfl, _, rfl⟩
  cases b
  · go_wp2_with fail
    go_ret
    exact ⟨rfl, Below.refl _ _⟩
  go_wp2_with fail
  refine (newSource_any s _).mono ?_
  rintro e w' ⟨rfl, xs, d, rfl⟩
  go_wp2_with fail
  have hg1 := grow_below W xs d
  refine (Hlex.out _ hg1).mono ?_
  rintro e w2 ⟨hb2, hres⟩
  have hbw2 : Below W.heap.size W w2 := hg1.trans (hb2.mono hg1.size)
  have Hbw2 := Lib.hid hbw2
  clear hbw2 hb2 hg1 Hlex
  rcases hres with ⟨heq, tv, rfl, htoks⟩ | ⟨hne, E, rfl⟩
  rotate_left
  · have hq3 := q3 E
    clear q0 q3
    go_wp2_with fail
    go_ret
    exact ⟨rfl, Hbw2.out⟩
  obtain ⟨_, _, _, hbd, _, _, _, l', hll, htile⟩ := Hx.out.ended.ok heq
  obtain ⟨N, hN⟩ : ∃ N, u.er = N := ⟨_, rfl⟩
  rw [hN] at hbd hll htile
  have hl' : l.length = l'.length + 1 := by rw [hll]; simp
  obtain ⟨m, hm⟩ : ∃ m, l'.length = m := ⟨_, rfl⟩
  have hNs := hbd.n_le
  have htk := RowAt.owned htoks (by omega)
  rw [show l.length = m + 1 by omega] at htk
  obtain ⟨ga, gc, rfl, hga, hgr⟩ := htk
  have Hg := Lib.hid hgr
  have Hll := Lib.hid hll
  have Htile := Lib.hid htile
  have Hbd := Lib.hid hbd
  have Hm := Lib.hid hm
  clear heq hgr hll htile hbd hN htoks q3 q4
  go_wp2_with fail
  refine (zzRuneStarts_any s hs _).mono ?_
  rintro e w3 ⟨vo, pl, rfl, hown3, hpl, hb3⟩
  have hpN : pl.length = N := by
    have h := hpl pl.length (by simp)
    simp at h
    exact h.cnt_inj Hbd.out
  have hrow := RowAt.owned hown3 (by simp)
  have hlen3 : (pl ++ [s.size]).length = N + 1 := by rw [List.length_append, hpN]; rfl
  rw [hlen3] at hrow
  obtain ⟨gs, gsc, rfl, hgs, hsr⟩ := hrow
  have hbw3 : Below W.heap.size W w3 := Hbw2.out.trans (hb3.mono Hbw2.out.size)
  have hga3 : ga < w3.heap.size := Nat.lt_of_lt_of_le hga hb3.size
  have tk : ∀ i (hi : i < l.length) j v, j < 4 → (tokCells (l[i]'hi))[j]? = some v → ∀ wr, Below w3.heap.size w3 wr → wr.cell? ⟨ga, i * 4 + j, none⟩ = some v := fun i hi j v hj h wr hb => by
    rw [hb.cell hga3, hb3.cell hga]
    exact Hg.out _ _ (by rw [flat_at tokCells (fun _ => rfl) l i hi j hj]; exact h)
  have pa : ∀ a i, a ≤ N → Bd s i a → ∀ wr, Below w3.heap.size w3 wr → wr.cell? ⟨gs, a, none⟩ = some (.int .i64 (i : Nat)) := fun a i ha hb wr hbw => by
    rw [hbw.cell hgs]
    exact hsr a _ (place_at hpl (by omega) hb)
  have Tk := Lib.hid tk
  have Pa := Lib.hid pa
  have Hbw3 := Lib.hid hbw3
  clear tk pa hbw3 hb3 hown3 hpl hpN hsr hlen3 Hg Hbw2
  -- the last token
  have hlast : l[m]'(by omega) = ⟨((N - 1 : Nat) : Int), N, kEOF, ⟨#[]⟩⟩ := by
    have h : l[m]? = some ⟨((N - 1 : Nat) : Int), N, kEOF, ⟨#[]⟩⟩ := by rw [Hll.out, ← Hm.out]; simp
    rw [List.getElem?_eq_getElem (by omega)] at h
    exact Option.some.inj h
  have t0 := Tk.out m (by omega) 0 (.int .i64 ((N - 1 : Nat) : Int)) (by decide) (by rw [hlast]; rfl) w3 (Below.refl _ _)
  have t1 := Tk.out m (by omega) 1 (.int .i64 (N : Int)) (by decide) (by rw [hlast]; rfl) w3 (Below.refl _ _)
  have t2 := Tk.out m (by omega) 2 (.string ⟨#[69, 79, 70]⟩) (by decide) (by rw [hlast]; rfl) w3 (Below.refl _ _)
  have t3 := Tk.out m (by omega) 3 (.string ⟨#[]⟩) (by decide) (by rw [hlast]; rfl) w3 (Below.refl _ _)
  rw [Nat.add_zero] at t0
  have m0 : (0 : Int) ≤ (m : Int) := by omega
  have m1 : (m : Int) < ((m + 1 : Nat) : Int) := by omega
  have m2 : ((m + 1 : Nat) : Int) - 1 = (m : Int) := by omega
  have m3 : IntKind.i64.wrap (((m + 1 : Nat) : Int) - 1) = (m : Int) := by rw [IntKind.wrap_i64]; omega
  have m4 : ¬ (((m + 1 : Nat) : Int) = 0) := by omega
  have m5 : ((((m + 1 : Nat) : Int)) == 0) = false := by rw [beq_eq_false_iff_ne]; omega
  have n2 : ((N + 1 : Nat) : Int) - 1 = (N : Int) := by omega
  have n3 : IntKind.i64.wrap (((N + 1 : Nat) : Int) - 1) = (N : Int) := by rw [IntKind.wrap_i64]; omega
  clear hlast
  by_cases hN0 : N = 0
  · have n0 : (N : Int) - 1 < 0 := by omega
    go_wp2_with fail
    go_loopg [9, 10] (m + 1) (fun g pv iv wr => ∃ i p : Nat, iv = .int .i64 (i : Nat) ∧ pv = .int .i64 (p : Nat) ∧ Hid (Below w3.heap.size w3 wr) ∧ Hid (Tiled s p (l'.drop i) N) ∧ i ≤ m ∧ p ≤ N ∧ m - i < g)
    case atStart => exact ⟨0, 0, rfl, rfl, Lib.hid (by repeat (first | exact Below.refl _ _ | apply below_drew | apply below_drewN | apply below_alloc | apply below_grow)), Lib.hid (by rw [List.drop_zero]; exact Htile.out), Nat.zero_le _, Nat.zero_le _, by omega⟩
    case round =>
      obtain ⟨i, p, rfl, rfl, hb, hti, hi', hpN, hg⟩ := hrel
      by_cases him : i < m
      · exfalso
        obtain ⟨a, b, hpa, hk, hti2, hbN⟩ := tiled_step hti.out (by rw [Hm.out]; exact him)
        have := hk.lt
        omega
      · have j1 : ¬ (i : Int) < (m : Int) := by omega
        go_wp2_with fail
        go_ret
        exact ⟨rfl, (by repeat (first | exact Hbw3.out.trans (hb.out.mono Hbw3.out.size) | apply below_drew | apply below_drewN | apply below_alloc | apply below_grow))⟩
  · have n0 : ¬ ((N : Int) - 1 < 0) := by omega
    have n1 : (N : Int) - 1 = ((N - 1 : Nat) : Int) := by omega
    have n4 : IntKind.i64.wrap ((N : Int) - 1) = ((N - 1 : Nat) : Int) := by rw [IntKind.wrap_i64]; omega
    have n5 : ¬ (((N - 1 : Nat) : Int) < 0) := by omega
    go_wp2_with fail
    go_loopg [9, 10] (m + 1) (fun g pv iv wr => ∃ i p : Nat, iv = .int .i64 (i : Nat) ∧ pv = .int .i64 (p : Nat) ∧ Hid (Below w3.heap.size w3 wr) ∧ Hid (Tiled s p (l'.drop i) N) ∧ i ≤ m ∧ p ≤ N ∧ m - i < g)
    case atStart => exact ⟨0, 0, rfl, rfl, Lib.hid (by repeat (first | exact Below.refl _ _ | apply below_drew | apply below_drewN | apply below_alloc | apply below_grow)), Lib.hid (by rw [List.drop_zero]; exact Htile.out), Nat.zero_le _, Nat.zero_le _, by omega⟩
    case round =>
      obtain ⟨i, p, rfl, rfl, hb, hti, hi', hpN, hg⟩ := hrel
      by_cases him : i < m
      · have j0 : (0 : Int) ≤ (i : Int) := by omega
        have j1 : (i : Int) < (m : Int) := by omega
        have j2 : (i : Int) < ((m + 1 : Nat) : Int) := by omega
        have hil : i < l'.length := by rw [Hm.out]; exact him
        obtain ⟨a, b, hpa, hk, hti2, hbN⟩ := tiled_step hti.out hil
        have hli : i < l.length := by omega
        have hle : l[i]'hli = l'[i]'hil := by simp only [Hll.out]; exact List.getElem_append_left hil
        obtain ⟨ia, ib, hba, hbb, hval⟩ := hk.bytes
        have hab := hk.lt
        have tk0 := fun j v hj h => Tk.out i hli j v hj h wr hb.out
        rw [hle] at tk0
        obtain ⟨k, hkk⟩ : ∃ k, l'[i]'hil = k := ⟨_, rfl⟩
        rw [hkk] at tk0 hk hval
        have g0 : wr.cell? ⟨ga, i * 4, none⟩ = some (.int .i64 (a : Nat)) := by have h := tk0 0 (.int .i64 k.frm) (by decide) rfl; rw [hk.frm] at h; exact h
        have g1 : wr.cell? ⟨ga, i * 4 + 1, none⟩ = some (.int .i64 (b : Nat)) := by have h := tk0 1 (.int .i64 k.to) (by decide) rfl; rw [hk.to] at h; exact h
        have g2 : wr.cell? ⟨ga, i * 4 + 2, none⟩ = some (.string k.kind) := tk0 2 _ (by decide) rfl
        have g3 : wr.cell? ⟨ga, i * 4 + 3, none⟩ = some (.string k.value) := tk0 3 _ (by decide) rfl
        have s0 : wr.cell? ⟨gs, a, none⟩ = some (.int .i64 (ia : Nat)) := Pa.out a ia (by omega) hba wr hb.out
        have s1 : wr.cell? ⟨gs, b, none⟩ = some (.int .i64 (ib : Nat)) := Pa.out b ib hbN hbb wr hb.out
        have hiab := hba.lt_of hbb hab
        have hibs := hbb.le
        have a0 : ga < wr.heap.size := Nat.lt_of_lt_of_le hga3 hb.out.size
        have a1 : gs < wr.heap.size := Nat.lt_of_lt_of_le hgs hb.out.size
        have c0 : ¬ (a : Int) < (p : Int) := by omega
        have c1 : ¬ (b : Int) ≤ (a : Int) := by omega
        have c2 : ¬ (N : Int) < (b : Int) := by omega
        have d0 : (0 : Int) ≤ (a : Int) := by omega
        have d1 : (a : Int) < ((N + 1 : Nat) : Int) := by omega
        have d2 : (0 : Int) ≤ (b : Int) := by omega
        have d3 : (b : Int) < ((N + 1 : Nat) : Int) := by omega
        have d4 : (ia : Int) ≤ (ib : Int) := by omega
        have d5 : (ib : Int) ≤ (s.size : Int) := by omega
        have d6 : (0 : Int) ≤ (ia : Int) := by omega
        have f0 := str_ne (v := k.kind) (l := [69, 79, 70]) hk.kind
        obtain ⟨kd, hkd⟩ : ∃ kd, k.kind = kd := ⟨_, rfl⟩
        rw [hkd] at g2 f0 hval
        have Hti2 := Lib.hid hti2
        clear tk0 hk hti hti2 hba hbb hle hkk hkd
        rcases hval with rfl | rfl | hv
        · clear f0
          unfold kString at g2
          go_wp2_with fail
          go_roundg (m - i)
          case measure => omega
          case rel => exact ⟨i + 1, b, by go_num, rfl, Lib.hid (by repeat (first | exact hb.out | apply below_drew | apply below_drewN | apply below_alloc | apply below_grow)), Hti2, by omega, by omega, by omega⟩
        · clear f0
          unfold kBytes at g2
          go_wp2_with fail
          go_roundg (m - i)
          case measure => omega
          case rel => exact ⟨i + 1, b, by go_num, rfl, Lib.hid (by repeat (first | exact hb.out | apply below_drew | apply below_drewN | apply below_alloc | apply below_grow)), Hti2, by omega, by omega, by omega⟩
        · obtain ⟨vv, hvv⟩ : ∃ vv, k.value = vv := ⟨_, rfl⟩
          rw [hvv] at hv g3
          subst hv
          clear hvv
          by_cases h0 : kd = ⟨([73, 100, 101, 110, 116, 105, 102, 105, 101, 114] : List UInt8).toArray⟩
          · subst h0
            clear f0 
            go_wp2_with fail
            go_quiet (fail)
            go_wp2_with fail
            go_roundg (m - i)
            case measure => omega
            case rel => exact ⟨i + 1, b, by go_num, rfl, Lib.hid (by repeat (first | exact hb.out | apply below_drew | apply below_drewN | apply below_alloc | apply below_grow)), Hti2, by omega, by omega, by omega⟩
          have e0 := str_ne (v := kd) (l := [73, 100, 101, 110, 116, 105, 102, 105, 101, 114]) h0
          by_cases h1 : kd = ⟨([78, 117, 109, 98, 101, 114] : List UInt8).toArray⟩
          · subst h1
            clear f0 e0
            go_wp2_with fail
            go_quiet (fail)
            go_wp2_with fail
            go_roundg (m - i)
            case measure => omega
            case rel => exact ⟨i + 1, b, by go_num, rfl, Lib.hid (by repeat (first | exact hb.out | apply below_drew | apply below_drewN | apply below_alloc | apply below_grow)), Hti2, by omega, by omega, by omega⟩
          have e1 := str_ne (v := kd) (l := [78, 117, 109, 98, 101, 114]) h1
          by_cases h2 : kd = ⟨([79, 112, 101, 114, 97, 116, 111, 114] : List UInt8).toArray⟩
          · subst h2
            clear f0 e0 e1
            go_wp2_with fail
            go_quiet (fail)
            go_wp2_with fail
            go_roundg (m - i)
            case measure => omega
            case rel => exact ⟨i + 1, b, by go_num, rfl, Lib.hid (by repeat (first | exact hb.out | apply below_drew | apply below_drewN | apply below_alloc | apply below_grow)), Hti2, by omega, by omega, by omega⟩
          have e2 := str_ne (v := kd) (l := [79, 112, 101, 114, 97, 116, 111, 114]) h2
          by_cases h3 : kd = ⟨([66, 114, 97, 99, 107, 101, 116] : List UInt8).toArray⟩
          · subst h3
            clear f0 e0 e1 e2
            go_wp2_with fail
            go_quiet (fail)
            go_wp2_with fail
            go_roundg (m - i)
            case measure => omega
            case rel => exact ⟨i + 1, b, by go_num, rfl, Lib.hid (by repeat (first | exact hb.out | apply below_drew | apply below_drewN | apply below_alloc | apply below_grow)), Hti2, by omega, by omega, by omega⟩
          have e3 := str_ne (v := kd) (l := [66, 114, 97, 99, 107, 101, 116]) h3
          clear h0 h1 h2 h3
          go_wp2_with fail
          go_roundg (m - i)
          case measure => omega
          case rel => exact ⟨i + 1, b, by go_num, rfl, Lib.hid (by repeat (first | exact hb.out | apply below_drew | apply below_drewN | apply below_alloc | apply below_grow)), Hti2, by omega, by omega, by omega⟩
      · have j1 : ¬ (i : Int) < (m : Int) := by omega
        go_wp2_with fail
        go_ret
        exact ⟨rfl, (by repeat (first | exact Hbw3.out.trans (hb.out.mono Hbw3.out.size) | apply below_drew | apply below_drewN | apply below_alloc | apply below_grow))⟩

end Go.Proofs.YtkplkccjeacniaaFmt
