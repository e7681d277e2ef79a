/-
  Walk of a law of n003_22: one slash and two.
-/
import Derived.Test.YtobdglhcepildaaFmtJC
namespace Go.Proofs.YtobdglhcepildaaFmt
open Go Go.Lib Go.RowKit Go.Proofs
open Go.Extern.Stop Go.Stop Go.Extern

/-- Two rows that hold one list of tokens. -/
def Pair (gv wv : Value) (w : World) : Prop := ∃ l : List Tok, l.length ≤ 1099511627776 ∧ RowAt w gv l.length (l.flatMap tokCells) ∧ RowAt w wv l.length (l.flatMap wantCells)
theorem zzSame_pair {gv wv : Value} {w : World} (h : Pair gv wv w) : Calls Tryf.prog 12 #[gv, wv] w fun e w' => e = .returned (.bool true) ∧ Below w.heap.size w w' := by
  obtain ⟨l, hl, hg, hw⟩ := h
  exact zzSame_any l hl gv wv w hg hw
theorem sd_trans {w a b : World} (h : Below w.heap.size w a) (k : Below a.heap.size a b) : Below w.heap.size w b := h.trans (k.mono h.size)

set_option maxHeartbeats 4000000 in
set_option maxRecDepth 100000 in
theorem SD_walk {W : World} (hT : Tabs W) (F : Stop.Interp) (hF : F.answers W.tape) (ka kb : Int) (ha0 : -9223372036854775808 ≤ ka) (ha1 : ka ≤ 9223372036854775807) (hb0 : -9223372036854775808 ≤ kb) (hb1 : kb ≤ 9223372036854775807) :
    Calls Tryf.prog 5 #[.int .i64 ka, .int .i64 kb] W fun e w' => e = .returned (.bool true) ∧ Below W.heap.size W w' := by
  by_cases z1 : ka < 0
  · go_enter Tryf.func5, Tryf.ntmps5
    go_wp2_with fail
    go_ret
    exact ⟨rfl, Below.refl _ _⟩
  by_cases z2 : kb < 0
  · go_enter Tryf.func5, Tryf.ntmps5
    go_wp2_with fail
    go_ret
    exact ⟨rfl, Below.refl _ _⟩
  obtain ⟨na, rfl⟩ : ∃ n : Nat, ka = (n : Int) := ⟨ka.toNat, by omega⟩
  obtain ⟨nb, rfl⟩ : ∃ n : Nat, kb = (n : Int) := ⟨kb.toNat, by omega⟩
  have hna : na ≤ 9223372036854775807 := by omega
  have hnb : nb ≤ 9223372036854775807 := by omega
  clear ha0 ha1 hb0 hb1
  have q0 : ∀ wr, Sem.run Tryf.prog (binOp BinOp.eql 25 Value.nilIface Value.nilIface) wr = .ok (.bool true) wr := fun _ => by kernel_rfl
  go_enter Tryf.func5, Tryf.ntmps5
  go_wp2_with fail
  refine (zzItoa_any na hna _).mono ?_
  rintro e w0 ⟨⟨v, rfl, hv⟩, hb0⟩
  have hv24 := hv.small
  have Hv := Lib.hid hv
  have Hb0 := Lib.hid hb0
  clear hv hb0
  go_wp2_with fail
  refine (zzItoa_any nb hnb _).mono ?_
  rintro e w1 ⟨⟨x, rfl, hx⟩, hb1⟩
  have hx24 := hx.small
  have hb01 : Below W.heap.size W w1 := Hb0.out.trans (hb1.mono Hb0.out.size)
  have Hb1 := Lib.hid hb01
  clear hb01 hb1 Hb0
  obtain ⟨A1, hA1⟩ : ∃ S : ByteArray, v ++ (⟨#[47]⟩ : ByteArray) = S := ⟨_, rfl⟩
  obtain ⟨S1, hS1⟩ : ∃ S : ByteArray, A1 ++ x = S := ⟨_, rfl⟩
  obtain ⟨A2, hA2⟩ : ∃ S : ByteArray, v ++ (⟨#[47, 47]⟩ : ByteArray) = S := ⟨_, rfl⟩
  obtain ⟨S2, hS2⟩ : ∃ S : ByteArray, A2 ++ x = S := ⟨_, rfl⟩
  have a1 : A1.size = v.size + 1 := by rw [← hA1, ByteArray.size_append]; rfl
  have a2 : A2.size = v.size + 2 := by rw [← hA2, ByteArray.size_append]; rfl
  have s1 : S1.size = A1.size + x.size := by rw [← hS1, ByteArray.size_append]
  have s2 : S2.size = A2.size + x.size := by rw [← hS2, ByteArray.size_append]
  have m1 : v.size + 1 ≤ 70000 := by omega
  have m2 : v.size + 2 ≤ 70000 := by omega
  have m3 : A1.size + x.size ≤ 70000 := by omega
  have m4 : A2.size + x.size ≤ 70000 := by omega
  obtain ⟨p, hp⟩ : ∃ p : Nat, p = v.size + 1 := ⟨_, rfl⟩
  obtain ⟨q1, hq1⟩ : ∃ p : Nat, p = v.size + 1 + x.size := ⟨_, rfl⟩
  obtain ⟨q2, hq2⟩ : ∃ p : Nat, p = v.size + 2 + x.size := ⟨_, rfl⟩
  have z3 : S1.size = q1 := by omega
  have z4 : S2.size = q2 := by omega
  have hp1 : (v.size : Int) + 1 = (p : Int) := by omega
  have hq3 : q1 ≤ 1099511627776 := by omega
  have hq4 : q2 ≤ 1099511627776 := by omega
  obtain ⟨u1, ho1, hue1⟩ := div_out Hv.out hx
  obtain ⟨u2, ho2, hue2⟩ := div_comment Hv.out hx
  have hu1 : Out S1 (R 0 0 false false) [⟨0, (v.size : Nat), kNumber, v⟩, ⟨(v.size : Nat), (p : Nat), kOperator, ⟨#[47]⟩⟩, ⟨(p : Nat), (q1 : Nat), kNumber, x⟩, eofTok q1] u1 := by rw [← hS1, ← hA1, hq1, hp]; exact ho1
  have hu2 : Out S2 (R 0 0 false false) [⟨0, (v.size : Nat), kNumber, v⟩, eofTok q2] u2 := by rw [← hS2, ← hA2, hq2]; exact ho2
  have hlex1 := fun (w : World) (hl : Below W.heap.size W w) => lex_out hF hT hl (by omega : S1.size ≤ 1099511627776) hu1 (by simp)
  have hlex2 := fun (w : World) (hl : Below W.heap.size W w) => lex_out hF hT hl (by omega : S2.size ≤ 1099511627776) hu2 (by simp)
  have Hlex1 := Lib.hid hlex1
  have Hlex2 := Lib.hid hlex2
  have Hue1 := Lib.hid hue1
  have Hue2 := Lib.hid hue2
  clear hu1 hu2 ho1 ho2 hlex1 hlex2 hue1 hue2 hx Hv hp hq1 hq2 s1 s2 a1 a2
  go_wp2_with fail
  refine (zzEOFTok_any q1 hq3 _).mono ?_
  rintro e w2 ⟨rfl, hb2⟩
  have hbp : Below W.heap.size W w2 := Hb1.out.trans (hb2.mono Hb1.out.size)
  have Hbp := Lib.hid hbp
  clear hbp hb2 Hb1
  unfold wantVal
  go_wp2_with fail
  obtain ⟨V1, hV1⟩ : ∃ y, y = w2.alloc (.cells #[.string ⟨#[78, 117, 109, 98, 101, 114]⟩, .string v, .int .i64 0, .int .i64 v.size, .string ⟨#[79, 112, 101, 114, 97, 116, 111, 114]⟩, .string ⟨#[47]⟩, .int .i64 v.size, .int .i64 p, .string ⟨#[78, 117, 109, 98, 101, 114]⟩, .string x, .int .i64 p, .int .i64 q1, .string (eofTok q1).kind, .string (eofTok q1).value, .int .i64 (eofTok q1).frm, .int .i64 (eofTok q1).to] 33) := ⟨_, rfl⟩
  rw [← hV1]
  have hrow1 : RowAt V1 (.slice (some ⟨w2.heap.size, 0, none⟩) 4 4) [(⟨0, (v.size : Nat), kNumber, v⟩ : Tok), ⟨(v.size : Nat), (p : Nat), kOperator, ⟨#[47]⟩⟩, ⟨(p : Nat), (q1 : Nat), kNumber, x⟩, eofTok q1].length ([(⟨0, (v.size : Nat), kNumber, v⟩ : Tok), ⟨(v.size : Nat), (p : Nat), kOperator, ⟨#[47]⟩⟩, ⟨(p : Nat), (q1 : Nat), kNumber, x⟩, eofTok q1].flatMap wantCells) := RowAt.block (by rw [hV1]; exact heap_alloc_at rfl) rfl
  have hbv1 : Below W.heap.size W V1 := by rw [hV1]; exact Hbp.out.alloc Hbp.out.size _
  have Hrow1 := Lib.hid hrow1
  have Hbv1 := Lib.hid hbv1
  clear hrow1 hbv1 hV1 Hbp
  go_wp2_with fail
  refine (zzEOFTok_any q2 hq4 _).mono ?_
  rintro e w3 ⟨rfl, hb3⟩
  unfold wantVal
  go_wp2_with fail
  obtain ⟨V2, hV2⟩ : ∃ y, y = w3.alloc (.cells #[.string ⟨#[78, 117, 109, 98, 101, 114]⟩, .string v, .int .i64 0, .int .i64 v.size, .string (eofTok q2).kind, .string (eofTok q2).value, .int .i64 (eofTok q2).frm, .int .i64 (eofTok q2).to] 33) := ⟨_, rfl⟩
  rw [← hV2]
  have hrow2 : RowAt V2 (.slice (some ⟨w3.heap.size, 0, none⟩) 2 2) [(⟨0, (v.size : Nat), kNumber, v⟩ : Tok), eofTok q2].length ([(⟨0, (v.size : Nat), kNumber, v⟩ : Tok), eofTok q2].flatMap wantCells) := RowAt.block (by rw [hV2]; exact heap_alloc_at rfl) rfl
  have hb12 : Below V1.heap.size V1 V2 := by rw [hV2]; exact hb3.alloc hb3.size _
  have hrow12 := Hrow1.out.keep hb12
  have hbv2 : Below W.heap.size W V2 := Hbv1.out.trans (hb12.mono Hbv1.out.size)
  have Hrow2 := Lib.hid hrow2
  have Hrow12 := Lib.hid hrow12
  have Hbv2 := Lib.hid hbv2
  clear hrow2 hrow12 hbv2 hb12 hV2 hb3 Hrow1 Hbv1
  refine (newSource_any S1 _).mono ?_
  rintro e w' ⟨rfl, xs1, d1, rfl⟩
  go_wp2_with fail
  have hg1 := grow_below V2 xs1 d1
  refine (Hlex1.out _ (Hbv2.out.trans (hg1.mono Hbv2.out.size))).mono ?_
  rintro e w4 ⟨hb4, ⟨_, gv1, rfl, hown1⟩ | ⟨h, _⟩⟩
  · have hb5 := hg1.trans (hb4.mono hg1.size)
    have hbw4 : Below W.heap.size W w4 := Hbv2.out.trans (hb5.mono Hbv2.out.size)
    have Hgot1 := Lib.hid (RowAt.owned hown1 (by simp))
    have Hr1 := Lib.hid (Hrow12.out.keep hb5)
    have Hr2 := Lib.hid (Hrow2.out.keep hb5)
    have Hbw4 := Lib.hid hbw4
    clear hb5 hbw4 hown1 hb4 hg1 Hrow12 Hrow2 Hbv2 Hlex1
    go_wp2_with fail
    refine (newSource_any S2 _).mono ?_
    rintro e w' ⟨rfl, xs2, d2, rfl⟩
    go_wp2_with fail
    have hg2 := grow_below w4 xs2 d2
    refine (Hlex2.out _ (Hbw4.out.trans (hg2.mono Hbw4.out.size))).mono ?_
    rintro e w5 ⟨hb6, ⟨_, gv2, rfl, hown2⟩ | ⟨h, _⟩⟩
    · have hb7 := hg2.trans (hb6.mono hg2.size)
      have hbw5 : Below W.heap.size W w5 := Hbw4.out.trans (hb7.mono Hbw4.out.size)
      have hp1' : Pair gv1 _ w5 := ⟨_, by simp, Hgot1.out.keep hb7, Hr1.out.keep hb7⟩
      have hgot2 := RowAt.owned hown2 (by simp)
      have hr2 := Hr2.out.keep hb7
      have hp2' := fun (wx : World) (hb : Below w5.heap.size w5 wx) => (⟨_, by simp, hgot2.keep hb, hr2.keep hb⟩ : Pair gv2 _ wx)
      have Hp1 := Lib.hid hp1'
      have Hp2 := Lib.hid hp2'
      have Hbw5 := Lib.hid hbw5
      clear hp1' hp2' hbw5 hb7 hgot2 hr2 hown2 hb6 hg2 Hgot1 Hr1 Hr2 Hbw4 Hlex2
      go_wp2_with (go_at_call 12; refine (zzSame_pair (by first | exact Hp1.out | exact Hp2.out _ (by assumption))).mono ?_; rintro e w6 ⟨rfl, hb8⟩; have hb9 : Below w5.heap.size w5 w6 := (by first | exact hb8 | exact sd_trans (by assumption) hb8))
      go_ret
      exact ⟨rfl, Hbw5.out.trans (hb9.mono Hbw5.out.size)⟩
    · exact absurd Hue2.out h
  · exact absurd Hue1.out h

end Go.Proofs.YtobdglhcepildaaFmt
