/-
  Walk of a law of n003_106: what follows a space changes nothing ahead of it.
-/
import Derived.Test.YtlgcocapondcmaaFmtL106h
namespace Go.Proofs.YtlgcocapondcmaaFmt
open Go Go.Lib Go.RowKit Go.Proofs
open Go.Extern.Stop Go.Stop Go.Extern

set_option maxRecDepth 100000 in
theorem zzBytes_PS (k : Int) (a b : ByteArray) (w : World) (wa : a.size ≤ maxLen) (wb : b.size ≤ maxLen) : Calls Tryf.prog 10 #[.int .i64 k, .string a, .string b] w (Says (fun _ => True) w) := by
  unfold maxLen at wa wb
  by_cases z0 : (1048576 : Int) < (a.size : Int)
  · go_enter Tryf.func10, Tryf.ntmps10
    go_wp2_with fail
    go_ret
    exact says_ret trivial
  by_cases z1 : (1048576 : Int) < (b.size : Int)
  · go_enter Tryf.func10, Tryf.ntmps10
    go_wp2_with fail
    go_ret
    exact says_ret trivial
  by_cases z2 : (1048576 : Int) < (a.size : Int) + (b.size : Int)
  · go_enter Tryf.func10, Tryf.ntmps10
    go_wp2_with fail
    go_ret
    exact says_ret trivial
  · go_enter Tryf.func10, Tryf.ntmps10
    go_wp2_with fail
    go_ret
    exact says_ret trivial

set_option maxHeartbeats 16000000 in
set_option maxRecDepth 100000 in
theorem PS_in {W : World} (hT : Tabs W) (F : Stop.Interp) (hF : F.answers W.tape) (k : Nat) (s r : ByteArray) (hk1 : 1 ≤ k) (hk : k ≤ 65536) (hs : s.size ≤ 65536) (hr : r.size ≤ 65536) :
    Calls Tryf.prog 4 #[.int .i64 (k : Nat), .string s, .string r] W fun e w' => e = .returned (.bool true) ∧ Below W.heap.size W w' := by
  have b0 : ¬ (k : Int) < 1 := by omega
  have b1 : ¬ (65536 : Int) < (k : Int) := by omega
  have b2 : ¬ (65536 : Int) < (s.size : Int) := by omega
  have b3 : ¬ (65536 : Int) < (r.size : Int) := by omega
  have hz := zzBytes_PS (k : Nat) s r W (by unfold maxLen; omega) (by unfold maxLen; omega)
  have hmap := zzMapName_any s (by omega) W
  have Hz := Lib.hid hz
  have Hmap := Lib.hid hmap
  have q0 : ∀ wr, Sem.run Tryf.prog (binOp BinOp.neq 28 Value.nilIface Value.nilIface) wr = .ok (.bool false) wr := fun _ => by kernel_rfl
  have q3 : ∀ E wr, Sem.run Tryf.prog (binOp BinOp.neq 28 (.iface 50 (.pointer (some ⟨E, 0, none⟩))) Value.nilIface) wr = .ok (.bool true) wr := fun _ _ => by kernel_rfl
  clear hz hmap
  go_enter Tryf.func4, Tryf.ntmps4
  go_wp2_with fail
  refine Hz.out.mono ?_
  rintro e w' ⟨b, rfl, _, rfl⟩
  cases b
  · go_wp2_with fail
    go_ret
    exact ⟨rfl, Below.refl _ _⟩
  go_wp2_with fail
  refine Hmap.out.mono ?_
  rintro e w1 ⟨g, ds, rfl, hdl, hwd, hn1, hb1⟩
  have hhash := zzHashesThen_any k g ds hk (by omega) w1 hn1
  obtain ⟨m, hm⟩ : ∃ m, s.size = m := ⟨_, rfl⟩
  rw [hm] at hdl hs ⊢
  rw [hdl] at hhash
  have Hhash := Lib.hid hhash
  have Hb1 := Lib.hid hb1
  have Hwd := Lib.hid hwd
  have Hdl := Lib.hid hdl
  clear hhash hn1 hb1 hwd hdl Hmap hm b2
  go_wp2_with fail
  refine Hhash.out.mono ?_
  rintro e w2 ⟨v, rfl, hrow⟩
  have hlb : (hashText k ds).length = k + m := by rw [hashText_len, Hdl.out]
  obtain ⟨B, hB⟩ : ∃ B, hashText k ds = B := ⟨_, rfl⟩
  rw [hB] at hrow hlb
  have hcv := conv_own hrow.1
  have hrw : RowAt w2 v (k + m) (byteCells B) := by rw [← hlb]; exact RowAt.owned hrow.1 (by omega)
  obtain ⟨i0, hi0, hzr0, hzr1, hzr2⟩ := info_parts infoU8
  have hu : Tryf.prog.underlying 23 = some (.slice 5) := by kernel_rfl
  have hus : Tryf.prog.underlying 9 = some .string := by kernel_rfl
  obtain ⟨n, hn⟩ : ∃ n : Nat, n = k + m := ⟨_, rfl⟩
  rw [← hn] at hrw hlb
  obtain ⟨N, hN⟩ : ∃ N : Nat, N = n + 1 + r.size := ⟨_, rfl⟩
  have hN1 : (n : Int) + 1 + (r.size : Int) = (N : Int) := by omega
  have mk : ∀ wr : World, (Instr.makeSlice 23 (.int .i64 0) (.int .i64 N)).run Tryf.prog wr = .ok (.slice (some ⟨wr.heap.size, 0, none⟩) 0 N) (wr.alloc (.cells (madeCells (Value.int .u8 0).cells (N * i0.size)) 5)) := fun wr => by
    have h := run_make (P := Tryf.prog) wr 23 5 i0 (.int .u8 0) hu hi0 hzr0 .i64 .i64 0 (N : Int) (Int.le_refl _) (by omega) (by rw [hzr2]; omega) (by omega)
    simpa using h
  obtain ⟨c1, hc1⟩ : ∃ c, madeCells (Value.int .u8 0).cells (N * i0.size) = c := ⟨_, rfl⟩
  have z1 : c1.size = N * 1 := by rw [← hc1, size_madeCells, hzr1]
  rw [hc1] at mk
  have hown := World.ownsRow_made (w := w2) (base := w2.heap.size) (e := 5) (size := 1) c1 N (Nat.le_refl _) (by unfold maxLen; omega) z1
  have hr1 : Row8 w2 (w2.alloc (.cells c1 5)) (.slice (some ⟨w2.heap.size, 0, none⟩) 0 N) [] := ⟨hown, (by repeat (first | exact Below.refl _ _ | apply below_drew | apply below_drewN | apply below_alloc | apply below_grow))⟩
  have HR1 := Lib.hid hr1
  have Hi := Lib.hid hi0
  have Hz0 := Lib.hid hzr0
  have Hz1 := Lib.hid hzr1
  have Hz2 := Lib.hid hzr2
  have Hu := Lib.hid hu
  have Hus := Lib.hid hus
  have Hn := Lib.hid hn
  have Hlb := Lib.hid hlb
  have HB := Lib.hid hB
  have hbw2 : Below W.heap.size W w2 := hs_trans Hb1.out hrow.2
  have Hbw2 := Lib.hid hbw2
  have hn64 : n ≤ 131072 := by omega
  clear hi0 hzr0 hzr1 hzr2 hu hus hc1 hown z1 hr1 hn hN hlb hB hbw2 hrow Hb1 Hhash
  obtain ⟨gb, cb, rfl, hgb, hcb⟩ := hrw
  have Hcb := Lib.hid hcb
  clear hcb
  have hnw : ∀ wx, Below w2.heap.size w2 wx → ∀ j u, (byteCells B)[j]? = some u → wx.cell? ((⟨gb, 0, none⟩ : Addr).add j) = some u := fun wx hb j u hj => by
    rw [addr_at, Nat.zero_add, hb.cell hgb]
    exact Hcb.out j u hj
  have Hnw := Lib.hid hnw
  clear hnw
  go_wp2_with (first | (at_builtin; refine wpList_append_own _ rfl _ _ 23 rfl w2.heap.size 5 i0 _ 1 1 Hu.out Hi.out Hz0.out Hz1.out Hz2.out rfl (by decide) _ _ _ rfl HR1.out.1 ⟨gb, 0, none⟩ n cb (byteCells B) rfl (by simp [byteCells, Hlb.out]) (Hnw.out _ HR1.out.2) ?c2 ?c3 ?c4 ?c5 ?_))
  case c2 => intro u hu; simp [byteCells] at hu; obtain ⟨d, _, rfl⟩ := hu; rfl
  case c3 => unfold maxLen; simp; omega
  case c4 => simp; omega
  case c5 => simp
  intro v1 wA hownA hgA _
  have rA : Row8 w2 wA v1 B := row_added B HR1.out (by rw [List.length_nil, Nat.zero_add, Hlb.out]; exact hownA) hgA
  have sA := rA.2.size
  have RA := Lib.hid rA
  clear rA hownA hgA HR1 mk
  have hBl : B.length ≤ 131072 := by rw [Hlb.out]; exact hn64
  go_wp2_with (first | (at_builtin; refine wpList_append_own _ rfl _ _ 23 rfl w2.heap.size 5 i0 _ 1 1 Hu.out Hi.out Hz0.out Hz1.out Hz2.out rfl (by decide) _ _ _ rfl (RA.out.1.alloc _) ⟨wA.heap.size, 0, none⟩ 1 1 (byteCells [32]) rfl rfl ?c1 ?c2 ?c3 ?c4 ?c5 ?_))
  case c1 =>
    intro j u hj
    match j, hj with
    | 0, hj => simp [byteCells] at hj; subst hj; simp [Addr.add]
    | j + 1, hj => simp [byteCells] at hj
  case c2 => intro u hu; simp [byteCells] at hu; subst hu; rfl
  case c3 => unfold maxLen; omega
  case c4 => omega
  case c5 => simp; omega
  intro v2 wB hownB hgB _
  have rB : Row8 w2 wB v2 (B ++ [32]) := row_grown [32] RA.out hownB hgB
  have sB := rB.2.size
  have RB := Lib.hid rB
  have hBl2 : (B ++ [32]).length ≤ 131073 := by rw [List.length_append]; show B.length + 1 ≤ _; omega
  clear rB hownB hgB RA sA
  go_wp2_with (first | (at_builtin; refine Lib.wpList_append_own_string _ rfl _ _ 23 9 rfl w2.heap.size 5 i0 Hu.out Hus.out Hi.out Hz0.out Hz1.out Hz2.out _ _ _ rfl RB.out.1 _ rfl ?c1 ?c2 ?c3 ?_))
  case c1 => unfold maxLen; omega
  case c2 => omega
  case c3 => omega
  intro v3 wC hownC hgC _
  have rC : Row8 w2 wC v3 ((B ++ [32]) ++ r.data.toList) := row_text RB.out (by rw [List.length_append]; exact hownC) hgC
  have hbC : Below w2.heap.size w2 wC := rC.2
  have hcvF := conv_own rC.1
  obtain ⟨S2, hS2⟩ : ∃ S : ByteArray, S = ⟨((B ++ [32]) ++ r.data.toList).toArray⟩ := ⟨_, rfl⟩
  obtain ⟨S1, hS1⟩ : ∃ S : ByteArray, S = ⟨B.toArray⟩ := ⟨_, rfl⟩
  rw [← hS2] at hcvF
  have rfull := Lib.hid rC.1
  have hcvB : ∀ wx, Below w2.heap.size w2 wx → (convert 23 9 (.slice (some ⟨gb, 0, none⟩) n cb)).run Tryf.prog wx = .ok (.string S1) wx := fun wx hb => by
    rw [run_convert_bytes_string _ _ _ 5 _ _ _ (by kernel_rfl) (by kernel_rfl) (by kernel_rfl), hS1]
    refine text_at (fun j hj => ?_) Hlb.out
    have h := Hnw.out wx hb j (.int .u8 ((B[j]'hj).toNat : Nat)) (by simp [byteCells, List.getElem?_eq_getElem hj])
    rw [addr_at] at h
    exact h
  have hcvB1 := hcvB wC hbC
  -- what the two texts are lexed to
  have hS1s : S1.size = k + m := by rw [hS1]; show B.toArray.size = _; simpa [Hn.out] using Hlb.out
  have hS2s : S2.size = k + m + 1 + r.size := by
    rw [hS2]
    show ((B ++ [32]) ++ r.data.toList).toArray.size = _
    have := Lib.size_eq r
    simp [Hlb.out, Hn.out]
    omega
  have hH1 : Hashed S1 k m := by
    have := hashed (k := k) (ds := ds) (r := []) Hwd.out (.inl rfl)
    rw [List.append_nil, Hdl.out, HB.out] at this
    rw [hS1]
    exact this
  have hH2 : Hashed S2 k m := by
    have := hashed (k := k) (ds := ds) (r := 32 :: r.data.toList) Hwd.out (.inr ⟨_, rfl⟩)
    rw [Hdl.out, HB.out] at this
    rw [hS2, List.append_assoc]
    exact this
  have hw1 : S1.extract k (k + m) = ⟨ds.toArray⟩ := by
    have := hash_word (k := k) (ds := ds) (r := [])
    rw [List.append_nil, Hdl.out, HB.out] at this
    rw [hS1]
    exact this
  have hw2 : S2.extract k (k + m) = ⟨ds.toArray⟩ := by
    have := hash_word (k := k) (ds := ds) (r := 32 :: r.data.toList)
    rw [Hdl.out, HB.out] at this
    rw [hS2, List.append_assoc]
    exact this
  obtain ⟨u1, hu1, hout1⟩ := hash_alone hk1 hH1 hS1s
  obtain ⟨l2, u2, hout2, hl2, hend⟩ := hash_rest hk1 hH2
  have hww : hashWord S1 k m = hashWord S2 k m := by unfold hashWord; rw [hw1, hw2]
  rw [hww, ← List.append_assoc] at hout1
  rw [← List.append_assoc] at hout2
  obtain ⟨P, hP⟩ : ∃ P, hashGo k 0 ++ hashWord S2 k m = P := ⟨_, rfl⟩
  rw [hP] at hout1 hout2
  have hPl : P.length ≤ k + 2 := by
    rw [← hP, List.length_append, hashGo_len k k 0 (Nat.sub_zero _)]
    unfold hashWord
    split
    · show _ + 0 ≤ _; omega
    · show _ + 1 ≤ _; omega
  have hlex1 := fun (w : World) (hb : Below W.heap.size W w) => lex_any hF hT hb S1 (by omega) (out_drain (t := start) hout1 (inv_start S1) rfl ((P ++ [eofTok (k + m)]).length + 1) (Nat.lt_succ_self _)) (by rw [List.length_append]; simp; omega)
  have hlex2 := fun (w : World) (hb : Below W.heap.size W w) => lex_any hF hT hb S2 (by omega) (out_drain (t := start) hout2 (inv_start S2) rfl ((P ++ l2).length + 1) (Nat.lt_succ_self _)) (by rw [List.length_append]; omega)
  have hbwC : Below W.heap.size W wC := Hbw2.out.trans (hbC.mono Hbw2.out.size)
  have Hlex1 := Lib.hid hlex1
  have Hlex2 := Lib.hid hlex2
  have HbwC := Lib.hid hbwC
  have Hend := Lib.hid hend
  have Hu1 := Lib.hid hu1
  have HrC := rfull
  have HS2 := Lib.hid hS2
  clear hlex1 hlex2 hbwC hend hu1 hout1 hout2 hww hw1 hw2 hH1 hH2 hP hcvB hS1 hS2 rC Hnw Hwd hcv RB sB hbC
  go_wp2_with fail
  refine (newSource_any S1 _).mono ?_
  rintro e w' ⟨rfl, xs, d, rfl⟩
  go_wp2_with fail
  have hg3 := grow_below wC xs d
  refine (Hlex1.out _ (HbwC.out.trans (hg3.mono HbwC.out.size))).mono ?_
  rintro e w4 ⟨hb4, ⟨_, ta, rfl, hta⟩ | ⟨h, _⟩⟩
  rotate_left
  · exact absurd Hu1.out h
  have hbC4 : Below wC.heap.size wC w4 := hg3.trans (hb4.mono hg3.size)
  have hbw4 : Below W.heap.size W w4 := HbwC.out.trans (hbC4.mono HbwC.out.size)
  have hcvF4 := conv_own (own_keep HrC.out (w' := w4) (fun k hk => hbC4.block k (HrC.out.lt k hk).2))
  rw [← HS2.out] at hcvF4
  have Hbw4 := Lib.hid hbw4
  have Hta := Lib.hid hta
  clear hbw4 hbC4 hb4 hg3 hta Hlex1 HbwC hcvF hcvB1
  go_wp2_with fail
  refine (newSource_any S2 _).mono ?_
  rintro e w' ⟨rfl, xs2, d2, rfl⟩
  go_wp2_with fail
  have hg4 := grow_below w4 xs2 d2
  refine (Hlex2.out _ (Hbw4.out.trans (hg4.mono Hbw4.out.size))).mono ?_
  rintro e w5 ⟨hb5, ⟨hne, tb, rfl, htb⟩ | ⟨h, E, rfl⟩⟩
  rotate_left
  · have hb45 : Below w4.heap.size w4 w5 := hg4.trans (hb5.mono hg4.size)
    have hbw5 : Below W.heap.size W w5 := Hbw4.out.trans (hb45.mono Hbw4.out.size)
    have hq3 := q3 E
    clear q0 q3
    go_wp2_with fail
    go_ret
    exact ⟨rfl, hbw5⟩
  have hb45 : Below w4.heap.size w4 w5 := hg4.trans (hb5.mono hg4.size)
  have hbw5 : Below W.heap.size W w5 := Hbw4.out.trans (hb45.mono Hbw4.out.size)
  obtain ⟨l', ne, hle⟩ := Hend.out hne
  have hlB : (P ++ l2).length = P.length + (l'.length + 1) := by rw [hle]; simp
  have hta5 := (RowAt.owned Hta.out (by simp)).keep hb45
  have htb5 := RowAt.owned htb (by rw [hlB]; omega)
  obtain ⟨p, hp⟩ : ∃ p, P.length = p := ⟨_, rfl⟩
  obtain ⟨nA, hnA⟩ : ∃ nA, nA = p + 1 := ⟨_, rfl⟩
  obtain ⟨nB, hnB⟩ : ∃ nB, nB = p + (l'.length + 1) := ⟨_, rfl⟩
  obtain ⟨lb, hlb1⟩ : ∃ lb, lb = p + l'.length := ⟨_, rfl⟩
  rw [show (P ++ [eofTok (k + m)]).length = nA by rw [List.length_append, hp, hnA]; rfl] at hta5
  rw [hlB, hp, ← hnB] at htb5
  have hl22 : l2.length ≤ 1099511627776 := by omega
  have hnB2 : nB ≤ 1099511627776 := by have : l'.length + 1 = l2.length := by rw [hle]; simp
                                       omega
  obtain ⟨ga, gc, rfl, hga, hgr⟩ := hta5
  obtain ⟨gx, gd, rfl, hgx, hgs⟩ := htb5
  have A0 : ∀ i (hi : i < P.length) j v, j < 4 → (tokCells (P[i]'hi))[j]? = some v → ∀ wr, Below w5.heap.size w5 wr → wr.cell? ⟨ga, i * 4 + j, none⟩ = some v ∧ wr.cell? ⟨gx, i * 4 + j, none⟩ = some v := fun i hi j v hj h wr hb => by
    rw [hb.cell hga, hb.cell hgx]
    refine ⟨hgr _ _ ?_, hgs _ _ ?_⟩
    · rw [flat_at tokCells (fun _ => rfl) (P ++ [eofTok (k + m)]) i (by rw [List.length_append]; omega) j hj, List.getElem_append_left hi]
      exact h
    · rw [flat_at tokCells (fun _ => rfl) (P ++ l2) i (by rw [List.length_append]; omega) j hj, List.getElem_append_left hi]
      exact h
  have B0 : ∀ wr, Below w5.heap.size w5 wr → wr.cell? ⟨gx, lb * 4 + 2, none⟩ = some (.string ⟨#[69, 79, 70]⟩) := fun wr hb => by
    rw [hb.cell hgx]
    refine hgs _ _ ?_
    have hi : lb < (P ++ l2).length := by rw [hlB]; omega
    have hx : (P ++ l2)[lb]'hi = ⟨((ne - 1 : Nat) : Int), (ne : Nat), kEOF, ⟨#[]⟩⟩ := by
      have h : (P ++ l2)[lb]? = some ⟨((ne - 1 : Nat) : Int), (ne : Nat), kEOF, ⟨#[]⟩⟩ := by
        rw [hle, List.getElem?_append_right (by omega), hlb1, hp, show p + l'.length - p = l'.length by omega]
        simp
      rw [List.getElem?_eq_getElem hi] at h
      exact Option.some.inj h
    rw [flat_at tokCells (fun _ => rfl) (P ++ l2) lb hi 2 (by decide), hx]
    rfl
  have HA0 := Lib.hid A0
  have HB0 := Lib.hid B0
  have Hbw5 := Lib.hid hbw5
  have Hp := Lib.hid hp
  have HnA := Lib.hid hnA
  have HnB := Lib.hid hnB
  have Hlb1 := Lib.hid hlb1
  have f0 : (nA : Int) - 1 = (p : Int) := by omega
  have f1 : ¬ (p : Int) < 0 := by omega
  have f2 : (p : Int) + 1 = (nA : Int) := by omega
  have f3 : ¬ (nB : Int) < (nA : Int) := by omega
  clear A0 B0 hbw5 hp hnA hnB hlb1 hgr hgs hle hlB htb Hta hb45 hb5 hg4 Hend Hbw4 Hlex2 q3 hcvF4
  go_wp2_with fail
  go_loopg [15] (p + 1) (fun g iv wr => ∃ i : Nat, iv = .int .i64 (i : Nat) ∧ Hid (Below w5.heap.size w5 wr) ∧ i ≤ p ∧ p - i < g)
  case atStart => exact ⟨0, rfl, Lib.hid (Below.refl _ _), Nat.zero_le _, by omega⟩
  case round =>
    obtain ⟨i, rfl, hb, hi', hg⟩ := hrel
    have a0 : ga < wr.heap.size := Nat.lt_of_lt_of_le hga hb.out.size
    have a1 : gx < wr.heap.size := Nat.lt_of_lt_of_le hgx hb.out.size
    have b2 := HnA.out
    have b4 := HnB.out
    by_cases hin : i < p
    · have j0 : (0 : Int) ≤ (i : Int) := by omega
      have j1 : (i : Int) < (p : Int) := by omega
      have j2 : (i : Int) < (nA : Int) := by omega
      have j3 : (i : Int) < (nB : Int) := by omega
      have hil : i < P.length := by rw [Hp.out]; exact hin
      have kk := fun j v hj h => HA0.out i hil j v hj h wr hb.out
      obtain ⟨tk, htk⟩ : ∃ tk, P[i]'hil = tk := ⟨_, rfl⟩
      rw [htk] at kk
      have g0 : wr.cell? ⟨ga, i * 4, none⟩ = some (.int .i64 tk.frm) := (kk 0 _ (by decide) rfl).1
      have g1 := (kk 1 _ (by decide) rfl).1
      have g2 := (kk 2 _ (by decide) rfl).1
      have g3 := (kk 3 _ (by decide) rfl).1
      have x0 : wr.cell? ⟨gx, i * 4, none⟩ = some (.int .i64 tk.frm) := (kk 0 _ (by decide) rfl).2
      have x1 := (kk 1 _ (by decide) rfl).2
      have x2 := (kk 2 _ (by decide) rfl).2
      have x3 := (kk 3 _ (by decide) rfl).2
      have s1 := str_self tk.kind
      have s2 := str_self tk.value
      clear kk htk b2 b4
      go_wp2_with fail
      go_quiet (fail)
      go_wp2_with fail
      go_roundg (p - i)
      case measure => omega
      case rel => exact ⟨i + 1, by go_num, Lib.hid (by repeat (first | exact hb.out | apply below_drew | apply below_drewN | apply below_alloc | apply below_grow)), by omega, by omega⟩
    · have j1 : ¬ (i : Int) < (p : Int) := by omega
      have y0 := HB0.out wr hb.out
      have z0 : (nB : Int) - 1 = (lb : Int) := by have := Hlb1.out; omega
      have z1 : (0 : Int) ≤ (lb : Int) := by omega
      have z2 : (lb : Int) < (nB : Int) := by have := Hlb1.out; omega
      clear b2 b4
      go_wp2_with fail
      go_ret
      exact ⟨rfl, (by repeat (first | exact Hbw5.out.trans (hb.out.mono Hbw5.out.size) | apply below_drew | apply below_drewN | apply below_alloc | apply below_grow))⟩

set_option maxHeartbeats 1000000 in
set_option maxRecDepth 100000 in
theorem PS_walk {W : World} (hT : Tabs W) (F : Stop.Interp) (hF : F.answers W.tape) (k : Int) (s r : ByteArray) (ws : s.size ≤ maxLen) (wr : r.size ≤ maxLen) (_ha0 : -9223372036854775808 ≤ k) (_ha1 : k ≤ 9223372036854775807) :
    Calls Tryf.prog 4 #[.int .i64 k, .string s, .string r] W fun e w' => e = .returned (.bool true) ∧ Below W.heap.size W w' := by
  have hz := zzBytes_PS k s r W ws wr
  have Hz := Lib.hid hz
  clear hz
  by_cases c0 : k < 1
  · go_enter Tryf.func4, Tryf.ntmps4
    go_wp2_with fail
    refine Hz.out.mono ?_
    rintro e w' ⟨b, rfl, _, rfl⟩
    cases b
    · go_wp2_with fail
      go_ret
      exact ⟨rfl, Below.refl _ _⟩
    · go_wp2_with fail
      go_ret
      exact ⟨rfl, Below.refl _ _⟩
  by_cases c1 : (65536 : Int) < k
  · go_enter Tryf.func4, Tryf.ntmps4
    go_wp2_with fail
    refine Hz.out.mono ?_
    rintro e w' ⟨b, rfl, _, rfl⟩
    cases b
    · go_wp2_with fail
      go_ret
      exact ⟨rfl, Below.refl _ _⟩
    · go_wp2_with fail
      go_ret
      exact ⟨rfl, Below.refl _ _⟩
  by_cases c2 : (65536 : Int) < (s.size : Int)
  · go_enter Tryf.func4, Tryf.ntmps4
    go_wp2_with fail
    refine Hz.out.mono ?_
    rintro e w' ⟨b, rfl, _, rfl⟩
    cases b
    · go_wp2_with fail
      go_ret
      exact ⟨rfl, Below.refl _ _⟩
    · go_wp2_with fail
      go_ret
      exact ⟨rfl, Below.refl _ _⟩
  by_cases c3 : (65536 : Int) < (r.size : Int)
  · go_enter Tryf.func4, Tryf.ntmps4
    go_wp2_with fail
    refine Hz.out.mono ?_
    rintro e w' ⟨b, rfl, _, rfl⟩
    cases b
    · go_wp2_with fail
      go_ret
      exact ⟨rfl, Below.refl _ _⟩
    · go_wp2_with fail
      go_ret
      exact ⟨rfl, Below.refl _ _⟩
  obtain ⟨n, rfl⟩ : ∃ n : Nat, k = (n : Int) := ⟨k.toNat, by omega⟩
  exact PS_in hT F hF n s r (by omega) (by omega) (by omega) (by omega)

end Go.Proofs.YtlgcocapondcmaaFmt
