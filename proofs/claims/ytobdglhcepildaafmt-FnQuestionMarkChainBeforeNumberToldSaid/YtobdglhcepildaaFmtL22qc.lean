/-
  Walk of a law of n003_22: a?. and a number.
-/
import Derived.Test.YtobdglhcepildaaFmtJC
namespace Go.Proofs.YtobdglhcepildaaFmt
open Go Go.Lib Go.RowKit Go.Proofs
open Go.Extern.Stop Go.Stop Go.Extern

set_option maxHeartbeats 4000000 in
set_option maxRecDepth 100000 in
theorem QC_walk {W : World} (hT : Tabs W) (F : Stop.Interp) (hF : F.answers W.tape) (k : Int) (hk0 : -9223372036854775808 ≤ k) (hk1 : k ≤ 9223372036854775807) :
    Calls Tryf.prog 4 #[.int .i64 k] W fun e w' => e = .returned (.bool true) ∧ Below W.heap.size W w' := by
  by_cases z1 : k < 0
  · go_enter Tryf.func4, Tryf.ntmps4
    go_wp2_with fail
    go_ret
    exact ⟨rfl, Below.refl _ _⟩
  obtain ⟨n, rfl⟩ : ∃ n : Nat, k = (n : Int) := ⟨k.toNat, by omega⟩
  have hn : n ≤ 9223372036854775807 := by omega
  clear hk0 hk1
  have q0 : ∀ wr, Sem.run Tryf.prog (binOp BinOp.eql 25 Value.nilIface Value.nilIface) wr = .ok (.bool true) wr := fun _ => by kernel_rfl
  go_enter Tryf.func4, Tryf.ntmps4
  go_wp2_with fail
  refine (zzItoa_any n hn _).mono ?_
  rintro e w0 ⟨⟨v, rfl, hv⟩, hb0⟩
  have hv24 := hv.small
  have Hb0 := Lib.hid hb0
  obtain ⟨S, hS⟩ : ∃ S : ByteArray, (⟨#[97, 63, 46]⟩ : ByteArray) ++ v = S := ⟨_, rfl⟩
  have hSsz : S.size = 3 + v.size := by rw [← hS, ByteArray.size_append]; rfl
  have hSs : S.size ≤ 1099511627776 := by omega
  have hmx3 : 3 + v.size ≤ 70000 := by omega
  obtain ⟨q, hq⟩ : ∃ q : Nat, q = 3 + v.size := ⟨_, rfl⟩
  have hSq : S.size = q := by omega
  have hq1 : 3 + (v.size : Int) = (q : Int) := by omega
  have hq2 : IntKind.i64.wrap (q : Int) = (q : Int) := by rw [IntKind.wrap_i64]; omega
  have hq3 : q ≤ 1099511627776 := by omega
  obtain ⟨u, hu1, hue⟩ := chain_out hv
  have hu : Out S (R 0 0 false false) [⟨0, (1 : Nat), kIdentifier, ⟨#[97]⟩⟩, ⟨(1 : Nat), (3 : Nat), kOperator, ⟨#[63, 46]⟩⟩, ⟨(3 : Nat), (q : Nat), kNumber, v⟩, eofTok q] u := by rw [← hS, hq]; exact hu1
  have hlex := fun (w : World) (hl : Below W.heap.size W w) => lex_out hF hT hl hSs hu (by simp)
  have Hlex := Lib.hid hlex
  have Hue := Lib.hid hue
  have Hq := Lib.hid hq
  clear hu hu1 hlex hue hb0 hv hq hSsz
  go_wp2_with fail
  refine (zzEOFTok_any q hq3 _).mono ?_
  rintro e w2 ⟨rfl, hb2⟩
  unfold wantVal
  have hbp : Below W.heap.size W w2 := Hb0.out.trans (hb2.mono Hb0.out.size)
  have Hbp := Lib.hid hbp
  clear hbp hb2 Hb0
  go_wp2_with fail
  obtain ⟨W3, hW3⟩ : ∃ x, x = w2.alloc (.cells #[.string ⟨#[73, 100, 101, 110, 116, 105, 102, 105, 101, 114]⟩, .string ⟨#[97]⟩, .int .i64 0, .int .i64 1, .string ⟨#[79, 112, 101, 114, 97, 116, 111, 114]⟩, .string ⟨#[63, 46]⟩, .int .i64 1, .int .i64 3, .string ⟨#[78, 117, 109, 98, 101, 114]⟩, .string v, .int .i64 3, .int .i64 q, .string (eofTok q).kind, .string (eofTok q).value, .int .i64 (eofTok q).frm, .int .i64 (eofTok q).to] 33) := ⟨_, rfl⟩
  rw [← hW3]
  have hrow : RowAt W3 (.slice (some ⟨w2.heap.size, 0, none⟩) 4 4) ([⟨0, (1 : Nat), kIdentifier, ⟨#[97]⟩⟩, ⟨(1 : Nat), (3 : Nat), kOperator, ⟨#[63, 46]⟩⟩, ⟨(3 : Nat), (q : Nat), kNumber, v⟩, eofTok q] : List Tok).length (([⟨0, (1 : Nat), kIdentifier, ⟨#[97]⟩⟩, ⟨(1 : Nat), (3 : Nat), kOperator, ⟨#[63, 46]⟩⟩, ⟨(3 : Nat), (q : Nat), kNumber, v⟩, eofTok q] : List Tok).flatMap wantCells) := RowAt.block (by rw [hW3]; exact heap_alloc_at rfl) (by first | rfl | simp [wantCells])
  have hb3 : Below W.heap.size W W3 := by rw [hW3]; exact Hbp.out.alloc Hbp.out.size _
  have Hrow := Lib.hid hrow
  have Hb3 := Lib.hid hb3
  clear hrow hb3 hW3
  refine (newSource_any S _).mono ?_
  rintro e w' ⟨rfl, xs, d, rfl⟩
  go_wp2_with fail
  have hg3 := grow_below W3 xs d
  refine (Hlex.out _ (Hb3.out.trans (hg3.mono Hb3.out.size))).mono ?_
  rintro e w4 ⟨hb4, ⟨_, gv, rfl, hown⟩ | ⟨h, _⟩⟩
  · have hb5 := hg3.trans (hb4.mono hg3.size)
    have hrow4 := Hrow.out.keep hb5
    have hgot := RowAt.owned hown (by simp)
    have hb6 : Below W.heap.size W w4 := Hb3.out.trans (hb5.mono Hb3.out.size)
    have hs := zzSame_any [⟨0, (1 : Nat), kIdentifier, ⟨#[97]⟩⟩, ⟨(1 : Nat), (3 : Nat), kOperator, ⟨#[63, 46]⟩⟩, ⟨(3 : Nat), (q : Nat), kNumber, v⟩, eofTok q] (by simp) gv _ w4 hgot hrow4
    have Hs := Lib.hid hs
    have Hb6 := Lib.hid hb6
    clear hs hb6 hb5 hrow4 hgot hown hb4 hg3 Hrow Hlex Hb3
    go_wp2_with (go_at_call 12; refine Hs.out.mono ?_; rintro e w5 ⟨rfl, hb7⟩)
    go_ret
    exact ⟨rfl, Hb6.out.trans (hb7.mono Hb6.out.size)⟩
  · exact absurd Hue.out h

end Go.Proofs.YtobdglhcepildaaFmt
