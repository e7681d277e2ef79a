/-
  Walk of a law of n003_22: a comment that is closed is skipped, and the number behind it keeps its place.
-/
import Derived.Test.YtobdglhcepildaaGreatFmtZ22c
namespace Go.Proofs.YtobdglhcepildaaGreatFmt
open Go Go.Lib Go.RowKit Go.Proofs
open Go.Extern.Stop Go.Stop Go.Extern

set_option maxRecDepth 100000 in
theorem zzBytes_MS (c : ByteArray) (k : Int) (w : World) (wc : c.size ≤ maxLen) : Calls Tryz.prog 17 #[.string c, .int .i64 k] w (Says (fun _ => True) w) := by
  unfold maxLen at wc
  by_cases z0 : (1048576 : Int) < (c.size : Int)
  · go_enter Tryz.func17, Tryz.ntmps17
    go_wp2_with fail
    go_ret
    exact says_ret trivial
  · go_enter Tryz.func17, Tryz.ntmps17
    go_wp2_with fail
    go_ret
    exact says_ret trivial

set_option maxHeartbeats 4000000 in
set_option maxRecDepth 100000 in
theorem MS_walk {W : World} (hT : Tabs W) (F : Stop.Interp) (hF : F.answers W.tape) (c : ByteArray) (k : Int) (wc : c.size ≤ maxLen) (hk0 : -9223372036854775808 ≤ k) (hk1 : k ≤ 9223372036854775807) :
    Calls Tryz.prog 5 #[.string c, .int .i64 k] W fun e w' => e = .returned (.bool true) ∧ Below W.heap.size W w' := by
  have hz := zzBytes_MS c k W wc
  have Hz := Lib.hid hz
  clear hz
  by_cases z0 : (65536 : Int) < (c.size : Int)
  · go_enter Tryz.func5, Tryz.ntmps5
    go_wp2_with fail
    refine Hz.out.mono ?_
    rintro e w' ⟨b, rfl, _, rfl⟩
    cases b
    · go_wp2_with fail
      go_ret
      exact ⟨rfl, Below.refl _ _⟩
    · go_wp2_with fail
      go_ret
      exact ⟨rfl, Below.refl _ _⟩
  by_cases z1 : k < 0
  · go_enter Tryz.func5, Tryz.ntmps5
    go_wp2_with fail
    refine Hz.out.mono ?_
    rintro e w' ⟨b, rfl, _, rfl⟩
    cases b
    · go_wp2_with fail
      go_ret
      exact ⟨rfl, Below.refl _ _⟩
    · go_wp2_with fail
      go_ret
      exact ⟨rfl, Below.refl _ _⟩
  obtain ⟨n, rfl⟩ : ∃ n : Nat, k = (n : Int) := ⟨k.toNat, by omega⟩
  have hn : n ≤ 9223372036854775807 := by omega
  clear hk0 hk1
  have hh := zzHasCloser_any c (by omega) W
  have Hh := Lib.hid hh
  clear hh
  obtain ⟨S0, hS0⟩ : ∃ S : ByteArray, S = openML ++ c := ⟨_, rfl⟩
  have hcat0 : (⟨#[47, 42]⟩ : ByteArray) ++ c = S0 := hS0.symm
  have hsz0 : S0.size = c.size + 2 := by rw [hS0, ByteArray.size_append]; show 2 + c.size = _; omega
  obtain ⟨S1, hS1⟩ : ∃ S : ByteArray, S = S0 ++ closeML := ⟨_, rfl⟩
  have hcat1 : S0 ++ (⟨#[42, 47]⟩ : ByteArray) = S1 := hS1.symm
  have hsz1 : S1.size = S0.size + 2 := by rw [hS1, ByteArray.size_append]; rfl
  have hmx : 2 + c.size ≤ 65538 := by omega
  have hmx1 : S0.size + 2 ≤ 65540 := by omega
  have HS0 := Lib.hid hS0
  have HS1 := Lib.hid hS1
  clear hS0 hS1
  have q0 : ∀ wr, Sem.run Tryz.prog (binOp BinOp.eql 31 Value.nilIface Value.nilIface) wr = .ok (.bool true) wr := fun _ => by kernel_rfl
  go_enter Tryz.func5, Tryz.ntmps5
  go_wp2_with fail
  refine Hz.out.mono ?_
  rintro e w' ⟨b, rfl, _, rfl⟩
  cases b
  · go_wp2_with fail
    go_ret
    exact ⟨rfl, Below.refl _ _⟩
  · go_wp2_with fail
    refine Hh.out.mono ?_
    rintro e w' ⟨b, rfl, hno, rfl⟩
    cases b
    · have hno2 := hno rfl
      have Hno := Lib.hid hno2
      clear hno hno2
      go_wp2_with fail
      refine (zzItoa_any n hn _).mono ?_
      rintro e w0 ⟨⟨v, rfl, hv⟩, hb0⟩
      have hv24 := hv.small
      have Hv := Lib.hid hv
      have Hb0 := Lib.hid hb0
      clear hv hb0
      obtain ⟨S, hS⟩ : ∃ S : ByteArray, S1 ++ v = S := ⟨_, rfl⟩
      have hSsz : S.size = S1.size + v.size := by rw [← hS, ByteArray.size_append]
      have hSs : S.size ≤ 1099511627776 := by omega
      have hmx3 : S1.size + v.size ≤ 70000 := by omega
      go_wp2_with fail
      refine (zzRunes_any S1 (by omega) _).mono ?_
      rintro e w1 ⟨N, rfl, hbd, hb1⟩
      have hN := hbd.n_le
      obtain ⟨p, hp⟩ : ∃ p : Nat, p = N := ⟨_, rfl⟩
      have hp1 : (N : Int) = (p : Int) := by omega
      have hp3 : p ≤ 70000 := by omega
      obtain ⟨q, hq⟩ : ∃ q : Nat, q = p + v.size := ⟨_, rfl⟩
      have hq1 : (p : Int) + (v.size : Int) = (q : Int) := by omega
      have hq2 : IntKind.i64.wrap (q : Int) = (q : Int) := by rw [IntKind.wrap_i64]; omega
      have hp2 : IntKind.i64.wrap (p : Int) = (p : Int) := by rw [IntKind.wrap_i64]; omega
      have hq3 : q ≤ 1099511627776 := by omega
      have hpure := multi_number Hno.out Hv.out N (by rw [← HS0.out, ← HS1.out]; exact hbd)
      obtain ⟨u, hu1, hue⟩ := hpure
      have hu : Out S (R 0 0 false false) [⟨(p : Nat), (q : Nat), kNumber, v⟩, eofTok q] u := by rw [← hS, HS1.out, HS0.out, hq, hp]; exact hu1
      have hlex := fun (w : World) (hl : Below W.heap.size W w) => lex_out hF hT hl hSs hu (by simp)
      have Hlex := Lib.hid hlex
      have Hue := Lib.hid hue
      have hbw1 : Below W.heap.size W w1 := Hb0.out.trans (hb1.mono Hb0.out.size)
      have Hbw1 := Lib.hid hbw1
      have Hp := Lib.hid hp
      have Hq := Lib.hid hq
      clear hu hu1 hlex hbd hb1 hue hbw1 Hb0 Hno Hv hp hq hN
      go_wp2_with fail
      refine (zzEOFTok_any q hq3 _).mono ?_
      rintro e w2 ⟨rfl, hb2⟩
      unfold wantVal
      have hbp : Below W.heap.size W w2 := Hbw1.out.trans (hb2.mono Hbw1.out.size)
      have Hbp := Lib.hid hbp
      clear hbp hb2 Hbw1
      go_wp2_with fail
      obtain ⟨W3, hW3⟩ : ∃ x, x = w2.alloc (.cells #[.string ⟨#[78, 117, 109, 98, 101, 114]⟩, .string v, .int .i64 p, .int .i64 q, .string (eofTok q).kind, .string (eofTok q).value, .int .i64 (eofTok q).frm, .int .i64 (eofTok q).to] 25) := ⟨_, rfl⟩
      rw [← hW3]
      have hrow : RowAt W3 (.slice (some ⟨w2.heap.size, 0, none⟩) 2 2) ([⟨(p : Nat), (q : Nat), kNumber, v⟩, eofTok q] : List Tok).length (([⟨(p : Nat), (q : Nat), kNumber, v⟩, eofTok q] : List Tok).flatMap wantCells) := RowAt.block (by rw [hW3]; exact heap_alloc_at rfl) (by first | rfl | simp [wantCells])
      have hb3 : Below W.heap.size W W3 := by rw [hW3]; exact Hbp.out.alloc Hbp.out.size _
      have Hrow := Lib.hid hrow
      have Hb3 := Lib.hid hb3
      clear hrow hb3 hW3
      refine (newSource_any S _).mono ?_
      rintro e w' ⟨rfl, xs, d, rfl⟩
      go_wp2_with fail
      have hg3 := grow_below W3 xs d
      refine (Hlex.out _ (Hb3.out.trans (hg3.mono Hb3.out.size))).mono ?_
      rintro e w4 ⟨hb4, ⟨_, gv, rfl, hown⟩ | ⟨h, _⟩⟩
      · have hb5 := hg3.trans (hb4.mono hg3.size)
        have hrow4 := Hrow.out.keep hb5
        have hgot := RowAt.owned hown (by simp)
        have hb6 : Below W.heap.size W w4 := Hb3.out.trans (hb5.mono Hb3.out.size)
        have hs := zzSame_any [⟨(p : Nat), (q : Nat), kNumber, v⟩, eofTok q] (by simp) gv _ w4 hgot hrow4
        have Hs := Lib.hid hs
        have Hb6 := Lib.hid hb6
        clear hs hb6 hb5 hrow4 hgot hown hb4 hg3 Hrow Hlex Hb3
        go_wp2_with (go_at_call 14; refine Hs.out.mono ?_; rintro e w5 ⟨rfl, hb7⟩)
        go_ret
        exact ⟨rfl, Hb6.out.trans (hb7.mono Hb6.out.size)⟩
      · exact absurd Hue.out h
    · go_wp2_with fail
      go_ret
      exact ⟨rfl, Below.refl _ _⟩

end Go.Proofs.YtobdglhcepildaaGreatFmt
