/-
  Walk of a law of n003_22: a line comment swallows the rest.
-/
import Derived.Test.YtobdglhcepildaaGreatFmtZ22c
namespace Go.Proofs.YtobdglhcepildaaGreatFmt
open Go Go.Lib Go.RowKit Go.Proofs
open Go.Extern.Stop Go.Stop Go.Extern

set_option maxRecDepth 100000 in
theorem zzBytes_SS (c : ByteArray) (w : World) (wc : c.size ≤ maxLen) : Calls Tryz.prog 8 #[.string c] w (Says (fun _ => True) w) := by
  unfold maxLen at wc
  by_cases z0 : (1048576 : Int) < (c.size : Int)
  · go_enter Tryz.func8, Tryz.ntmps8
    go_wp2_with fail
    go_ret
    exact says_ret trivial
  · go_enter Tryz.func8, Tryz.ntmps8
    go_wp2_with fail
    go_ret
    exact says_ret trivial

set_option maxHeartbeats 4000000 in
set_option maxRecDepth 100000 in
theorem SS_walk {W : World} (hT : Tabs W) (F : Stop.Interp) (hF : F.answers W.tape) (c : ByteArray) (wc : c.size ≤ maxLen) :
    Calls Tryz.prog 3 #[.string c] W fun e w' => e = .returned (.bool true) ∧ Below W.heap.size W w' := by
  have hz := zzBytes_SS c W wc
  have Hz := Lib.hid hz
  clear hz
  by_cases z0 : (65536 : Int) < (c.size : Int)
  · go_enter Tryz.func3, Tryz.ntmps3
    go_wp2_with fail
    refine Hz.out.mono ?_
    rintro e w' ⟨b, rfl, _, rfl⟩
    cases b
    · go_wp2_with fail
      go_ret
      exact ⟨rfl, Below.refl _ _⟩
    · go_wp2_with fail
      go_ret
      exact ⟨rfl, Below.refl _ _⟩
  · have hh := zzHasByte_any c 10 (by omega) W
    have Hh := Lib.hid hh
    clear hh
    obtain ⟨S, hS⟩ : ∃ S : ByteArray, S = openSL ++ c := ⟨_, rfl⟩
    have hcat : (⟨#[47, 47]⟩ : ByteArray) ++ c = S := hS.symm
    have hsz : S.size = c.size + 2 := by rw [hS, ByteArray.size_append]; show 2 + c.size = _; omega
    have hSs : S.size ≤ 1099511627776 := by omega
    have hmx : 2 + c.size ≤ 65538 := by omega
    have q0 : ∀ wr, Sem.run Tryz.prog (binOp BinOp.eql 31 Value.nilIface Value.nilIface) wr = .ok (.bool true) wr := fun _ => by kernel_rfl
    have HS := Lib.hid hS
    clear hS
    go_enter Tryz.func3, Tryz.ntmps3
    go_wp2_with fail
    refine Hz.out.mono ?_
    rintro e w' ⟨b, rfl, _, rfl⟩
    cases b
    · go_wp2_with fail
      go_ret
      exact ⟨rfl, Below.refl _ _⟩
    · go_wp2_with fail
      refine Hh.out.mono ?_
      rintro e w' ⟨b, rfl, hno, rfl⟩
      cases b
      · have hno2 := hno rfl
        have Hno := Lib.hid hno2
        clear hno hno2
        go_wp2_with fail
        refine (zzRunes_any S hSs _).mono ?_
        rintro e w1 ⟨N, rfl, hbd, hb1⟩
        have hN := hbd.n_le
        have hN2 : N ≤ 1099511627776 := by omega
        obtain ⟨u, hu, hue⟩ := line_swallows Hno.out N (by rw [← HS.out]; exact hbd)
        rw [← HS.out] at hu
        have hlex := fun (w : World) (hl : Below W.heap.size W w) => lex_out hF hT hl hSs hu (by simp)
        have Hlex := Lib.hid hlex
        have Hb1 := Lib.hid hb1
        have Hue := Lib.hid hue
        clear hu hlex hbd hb1 hue
        go_wp2_with fail
        refine (zzEOFTok_any N hN2 _).mono ?_
        rintro e w2 ⟨rfl, hb2⟩
        unfold wantVal
        go_wp2_with fail
        have hbp : Below W.heap.size W w2 := Hb1.out.trans (hb2.mono Hb1.out.size)
        have Hbp := Lib.hid hbp
        clear hbp hb2 Hb1
        obtain ⟨W3, hW3⟩ : ∃ x, x = w2.alloc (.cells #[.string (eofTok N).kind, .string (eofTok N).value, .int .i64 (eofTok N).frm, .int .i64 (eofTok N).to] 25) := ⟨_, rfl⟩
        rw [← hW3]
        have hrow : RowAt W3 (.slice (some ⟨w2.heap.size, 0, none⟩) 1 1) ([eofTok N] : List Tok).length (([eofTok N] : List Tok).flatMap wantCells) := RowAt.block (by rw [hW3]; exact heap_alloc_at rfl) (by simp [wantCells])
        have hb3 : Below W.heap.size W W3 := by rw [hW3]; exact Hbp.out.alloc Hbp.out.size _
        have Hrow := Lib.hid hrow
        have Hb3 := Lib.hid hb3
        clear hrow hb3 hW3
        refine (newSource_any S _).mono ?_
        rintro e w' ⟨rfl, xs, d, rfl⟩
        go_wp2_with fail
        have hg3 := grow_below W3 xs d
        refine (Hlex.out _ (Hb3.out.trans (hg3.mono Hb3.out.size))).mono ?_
        rintro e w4 ⟨hb4, ⟨_, gv, rfl, hown⟩ | ⟨h, _⟩⟩
        · have hb5 := hg3.trans (hb4.mono hg3.size)
          have hrow4 := Hrow.out.keep hb5
          have hgot := RowAt.owned hown (by simp)
          have hb6 : Below W.heap.size W w4 := Hb3.out.trans (hb5.mono Hb3.out.size)
          have hs := zzSame_any [eofTok N] (by simp) gv _ w4 hgot hrow4
          have Hs := Lib.hid hs
          have Hb6 := Lib.hid hb6
          clear hs hb6 hb5 hrow4 hgot hown hb4 hg3 Hrow Hlex Hb3
          go_wp2_with (go_at_call 14; refine Hs.out.mono ?_; rintro e w5 ⟨rfl, hb7⟩)
          go_ret
          exact ⟨rfl, Hb6.out.trans (hb7.mono Hb6.out.size)⟩
        · exact absurd Hue.out h
      · go_wp2_with fail
        go_ret
        exact ⟨rfl, Below.refl _ _⟩

end Go.Proofs.YtobdglhcepildaaGreatFmt
