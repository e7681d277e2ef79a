/-
  Walk: the state root at a quoted text (printed by genroot2.py).
-/
import Derived.Test.YtdpdgppjeekcmaaFmtRoot
import Derived.Test.YtdpdgppjeekcmaaFmtScan
import Derived.Test.YtdpdgppjeekcmaaFmtUnW
import Derived.Test.YtdpdgppjeekcmaaFmtErrV
import Derived.Test.YtdpdgppjeekcmaaFmtJB
namespace Go.Proofs.YtdpdgppjeekcmaaFmt
open Go Go.Lib Go.RowKit Go.Proofs
open Go.Extern.Stop Go.Stop Go.Extern

theorem cut_zero (s : ByteArray) : s.extract 0 s.size = s := by
  apply ByteArray.ext
  apply Array.ext'
  rw [Lib.extract_to_end, List.drop_zero]

set_option maxHeartbeats 8000000 in
set_option maxRecDepth 100000 in
theorem root_q39 {F : Stop.Interp} {W0 w : World} {S : Nat → Prop} {L : Nat} {s : ByteArray} {t : St} (hF : F.answers W0.tape) (H : Lx W0 S w L s t) (hr : peek s t = 39) (hle : t.eb ≤ s.size) (hn : t.toks.length ≤ 9) :
    Calls Tryf.prog 31 #[.pointer (some ⟨L, 0, none⟩)] w fun e w' => e = .returned (qVal (some .root)) ∧ Done W0 S w L s (rootStr uChar kString 0 s 39 (by decide) (next s t)) w' := by
  have A0 := Acc.refl S w
  have hlo := peek_lo s t
  have hhi := peek_hi s t
  have hsm := H.small
  have hps := H.poss
  have Hr := Lib.hid hr
  clear hr
  have hsc := scan_string s 39 (by decide) (next s t)
  obtain ⟨t2, ht2⟩ : ∃ x, (scanString s 39 (by decide) (next s t)).2 = x := ⟨_, rfl⟩
  rw [ht2] at hsc
  obtain ⟨wd, hwd⟩ : ∃ x, word s t2 = x := ⟨_, rfl⟩
  have hwz : wd.size ≤ 1099511627776 := by rw [← hwd]; unfold word; rw [ByteArray.size_extract]; omega
  obtain ⟨wx, hwx⟩ : ∃ x, wd.extract 0 wd.size = x := ⟨_, rfl⟩
  have hxz : wx.size ≤ 1099511627776 := by rw [← hwx, ByteArray.size_extract]; omega
  obtain ⟨b, str, hu⟩ : ∃ b str, unesc uChar wx = (b, str) := ⟨_, _, rfl⟩
  have hfin : rootStr uChar kString 0 s 39 (by decide) (next s t) = emitV kString str (if b then t2 else error t2) := by unfold rootStr; dsimp only; rw [ht2, hwd, hwx, hu]
  have hle2 : t2.eb ≤ s.size := hsc.le (next_le hle)
  have htk : t2.toks = t.toks := hsc.toks.trans (reads_next s t).toks
  rw [hfin]
  have hx0 : wx = wd := by rw [← hwx, cut_zero]
  subst hx0
  have T2 := Lib.hid ht2
  have WD := Lib.hid hwd
  have HU := Lib.hid hu
  clear ht2 hwd hu hfin hsc
  go_enter Tryf.func31, Tryf.ntmps31
  go_wp2_with fail
  refine (next_any H).mono ?_
  rintro e w1 ⟨rfl, S1, hS1, H1, hf1⟩
  have A1 := Acc.step A0 hS1 hf1
  rw [Hr.out]
  go_wp2_with fail
  refine (isSpace_any (H1).tabsAt 39 (by omega) (by omega)).mono ?_
  rintro e w' ⟨rfl, xs2, d2, rfl⟩
  have H2 := H1.keep (grow_below w1 xs2 d2)
  have A2 := Acc.below A1 (grow_below w1 xs2 d2)
  obtain ⟨w2, hw2⟩ : ∃ x, x = grow w1 xs2 d2 := ⟨_, rfl⟩
  rw [← hw2] at H2 A2 ⊢
  clear hw2
  rw [show isSpaceZ 39 = false from by decide]
  go_wp2_with fail
  refine (scanString_any hF H2 39 (by decide)).mono ?_
  rintro e w3 ⟨rfl, S3, hS3, H3, hf3⟩
  have A3 := Acc.step A2 hS3 hf3
  rw [T2.out] at H3
  go_wp2_with fail
  refine (word_any H3 hle2).mono ?_
  rintro e w' ⟨rfl, xs4, d4, rfl⟩
  have H4 := H3.keep (grow_below w3 xs4 d4)
  have A4 := Acc.below A3 (grow_below w3 xs4 d4)
  obtain ⟨w4, hw4⟩ : ∃ x, x = grow w3 xs4 d4 := ⟨_, rfl⟩
  rw [← hw4] at H4 A4 ⊢
  clear hw4
  rw [WD.out]
  go_wp2_with fail
  refine (unescape_any hF H4.tabs H4.low wx hxz).mono ?_
  intro e w5 hp
  rw [HU.out] at hp
  cases b with
  | true =>
    obtain ⟨rfl, hb⟩ := hp.1 rfl
    have H5 := H4.keep hb
    have A5 := Acc.below A4 hb
    clear hp hb
    go_wp2_with fail
    refine (emitValue_any H5 (by rw [htk]; exact hn) kString str).mono ?_
    rintro e w6 ⟨rfl, S6, hS6, H6, hf6⟩
    have A6 := Acc.step A5 hS6 hf6
    go_wp2_with fail
    go_ret
    exact ⟨rfl, A6.done H6⟩
  | false =>
    obtain ⟨E, m, rfl, hE, hm, hb⟩ := hp.2 rfl
    have H5 := H4.keep hb
    have A5 := Acc.below A4 hb
    have Hm := Lib.hid hm
    have hElt : E < w5.heap.size := (Array.getElem?_eq_some_iff.1 hm).1
    clear hp hb hm
    go_wp2_with fail
    refine (error_v hF (H5.keep (by repeat (first | exact Below.refl _ _ | apply below_drew | apply below_drewN | apply below_alloc | apply below_grow))) ⟨E, 0, none⟩ m (cell_of_block ((Lib.alloc_old w5 _ E hElt).trans Hm.out) 0) (by go_simp)).mono ?_
    rintro e w6 ⟨rfl, S6, hS6, H6, hf6⟩
    have A6 := Acc.step (Acc.below A5 (by repeat (first | exact Below.refl _ _ | apply below_drew | apply below_drewN | apply below_alloc | apply below_grow))) hS6 hf6
    go_wp2_with fail
    refine (emitValue_any H6 (by rw [(error_same t2).2.2.1, htk]; exact hn) kString str).mono ?_
    rintro e w7 ⟨rfl, S7, hS7, H7, hf7⟩
    have A7 := Acc.step A6 hS7 hf7
    go_wp2_with fail
    go_ret
    exact ⟨rfl, A7.done H7⟩

set_option maxHeartbeats 8000000 in
set_option maxRecDepth 100000 in
theorem root_q34 {F : Stop.Interp} {W0 w : World} {S : Nat → Prop} {L : Nat} {s : ByteArray} {t : St} (hF : F.answers W0.tape) (H : Lx W0 S w L s t) (hr : peek s t = 34) (hle : t.eb ≤ s.size) (hn : t.toks.length ≤ 9) :
    Calls Tryf.prog 31 #[.pointer (some ⟨L, 0, none⟩)] w fun e w' => e = .returned (qVal (some .root)) ∧ Done W0 S w L s (rootStr uChar kString 0 s 34 (by decide) (next s t)) w' := by
  have A0 := Acc.refl S w
  have hlo := peek_lo s t
  have hhi := peek_hi s t
  have hsm := H.small
  have hps := H.poss
  have Hr := Lib.hid hr
  clear hr
  have hsc := scan_string s 34 (by decide) (next s t)
  obtain ⟨t2, ht2⟩ : ∃ x, (scanString s 34 (by decide) (next s t)).2 = x := ⟨_, rfl⟩
  rw [ht2] at hsc
  obtain ⟨wd, hwd⟩ : ∃ x, word s t2 = x := ⟨_, rfl⟩
  have hwz : wd.size ≤ 1099511627776 := by rw [← hwd]; unfold word; rw [ByteArray.size_extract]; omega
  obtain ⟨wx, hwx⟩ : ∃ x, wd.extract 0 wd.size = x := ⟨_, rfl⟩
  have hxz : wx.size ≤ 1099511627776 := by rw [← hwx, ByteArray.size_extract]; omega
  obtain ⟨b, str, hu⟩ : ∃ b str, unesc uChar wx = (b, str) := ⟨_, _, rfl⟩
  have hfin : rootStr uChar kString 0 s 34 (by decide) (next s t) = emitV kString str (if b then t2 else error t2) := by unfold rootStr; dsimp only; rw [ht2, hwd, hwx, hu]
  have hle2 : t2.eb ≤ s.size := hsc.le (next_le hle)
  have htk : t2.toks = t.toks := hsc.toks.trans (reads_next s t).toks
  rw [hfin]
  have hx0 : wx = wd := by rw [← hwx, cut_zero]
  subst hx0
  have T2 := Lib.hid ht2
  have WD := Lib.hid hwd
  have HU := Lib.hid hu
  clear ht2 hwd hu hfin hsc
  go_enter Tryf.func31, Tryf.ntmps31
  go_wp2_with fail
  refine (next_any H).mono ?_
  rintro e w1 ⟨rfl, S1, hS1, H1, hf1⟩
  have A1 := Acc.step A0 hS1 hf1
  rw [Hr.out]
  go_wp2_with fail
  refine (isSpace_any (H1).tabsAt 34 (by omega) (by omega)).mono ?_
  rintro e w' ⟨rfl, xs2, d2, rfl⟩
  have H2 := H1.keep (grow_below w1 xs2 d2)
  have A2 := Acc.below A1 (grow_below w1 xs2 d2)
  obtain ⟨w2, hw2⟩ : ∃ x, x = grow w1 xs2 d2 := ⟨_, rfl⟩
  rw [← hw2] at H2 A2 ⊢
  clear hw2
  rw [show isSpaceZ 34 = false from by decide]
  go_wp2_with fail
  refine (scanString_any hF H2 34 (by decide)).mono ?_
  rintro e w3 ⟨rfl, S3, hS3, H3, hf3⟩
  have A3 := Acc.step A2 hS3 hf3
  rw [T2.out] at H3
  go_wp2_with fail
  refine (word_any H3 hle2).mono ?_
  rintro e w' ⟨rfl, xs4, d4, rfl⟩
  have H4 := H3.keep (grow_below w3 xs4 d4)
  have A4 := Acc.below A3 (grow_below w3 xs4 d4)
  obtain ⟨w4, hw4⟩ : ∃ x, x = grow w3 xs4 d4 := ⟨_, rfl⟩
  rw [← hw4] at H4 A4 ⊢
  clear hw4
  rw [WD.out]
  go_wp2_with fail
  refine (unescape_any hF H4.tabs H4.low wx hxz).mono ?_
  intro e w5 hp
  rw [HU.out] at hp
  cases b with
  | true =>
    obtain ⟨rfl, hb⟩ := hp.1 rfl
    have H5 := H4.keep hb
    have A5 := Acc.below A4 hb
    clear hp hb
    go_wp2_with fail
    refine (emitValue_any H5 (by rw [htk]; exact hn) kString str).mono ?_
    rintro e w6 ⟨rfl, S6, hS6, H6, hf6⟩
    have A6 := Acc.step A5 hS6 hf6
    go_wp2_with fail
    go_ret
    exact ⟨rfl, A6.done H6⟩
  | false =>
    obtain ⟨E, m, rfl, hE, hm, hb⟩ := hp.2 rfl
    have H5 := H4.keep hb
    have A5 := Acc.below A4 hb
    have Hm := Lib.hid hm
    have hElt : E < w5.heap.size := (Array.getElem?_eq_some_iff.1 hm).1
    clear hp hb hm
    go_wp2_with fail
    refine (error_v hF (H5.keep (by repeat (first | exact Below.refl _ _ | apply below_drew | apply below_drewN | apply below_alloc | apply below_grow))) ⟨E, 0, none⟩ m (cell_of_block ((Lib.alloc_old w5 _ E hElt).trans Hm.out) 0) (by go_simp)).mono ?_
    rintro e w6 ⟨rfl, S6, hS6, H6, hf6⟩
    have A6 := Acc.step (Acc.below A5 (by repeat (first | exact Below.refl _ _ | apply below_drew | apply below_drewN | apply below_alloc | apply below_grow))) hS6 hf6
    go_wp2_with fail
    refine (emitValue_any H6 (by rw [(error_same t2).2.2.1, htk]; exact hn) kString str).mono ?_
    rintro e w7 ⟨rfl, S7, hS7, H7, hf7⟩
    have A7 := Acc.step A6 hS7 hf7
    go_wp2_with fail
    go_ret
    exact ⟨rfl, A7.done H7⟩

set_option maxHeartbeats 8000000 in
set_option maxRecDepth 100000 in
theorem root_b98q39 {F : Stop.Interp} {W0 w : World} {S : Nat → Prop} {L : Nat} {s : ByteArray} {t : St} (hF : F.answers W0.tape) (H : Lx W0 S w L s t) (hr : peek s t = 98) (hp : peek s (next s t) = 39) (hle : t.eb ≤ s.size) (hn : t.toks.length ≤ 9) :
    Calls Tryf.prog 31 #[.pointer (some ⟨L, 0, none⟩)] w fun e w' => e = .returned (qVal (some .root)) ∧ Done W0 S w L s (rootStr bChar kBytes 1 s 39 (by decide) (next s (next s t))) w' := by
  have A0 := Acc.refl S w
  have hlo := peek_lo s t
  have hhi := peek_hi s t
  have hsm := H.small
  have hps := H.poss
  have hr0 : peek s t = 98 ∨ peek s t = 66 := by omega
  have hp0 := hp
  have Hr := Lib.hid hr
  have Hp := Lib.hid hp
  clear hr hp
  have hsc := scan_string s 39 (by decide) (next s (next s t))
  obtain ⟨t2, ht2⟩ : ∃ x, (scanString s 39 (by decide) (next s (next s t))).2 = x := ⟨_, rfl⟩
  rw [ht2] at hsc
  obtain ⟨wd, hwd⟩ : ∃ x, word s t2 = x := ⟨_, rfl⟩
  have hwz : wd.size ≤ 1099511627776 := by rw [← hwd]; unfold word; rw [ByteArray.size_extract]; omega
  obtain ⟨wx, hwx⟩ : ∃ x, wd.extract 1 wd.size = x := ⟨_, rfl⟩
  have hxz : wx.size ≤ 1099511627776 := by rw [← hwx, ByteArray.size_extract]; omega
  obtain ⟨b, str, hu⟩ : ∃ b str, unesc bChar wx = (b, str) := ⟨_, _, rfl⟩
  have hfin : rootStr bChar kBytes 1 s 39 (by decide) (next s (next s t)) = emitV kBytes str (if b then t2 else error t2) := by unfold rootStr; dsimp only; rw [ht2, hwd, hwx, hu]
  have hle2 : t2.eb ≤ s.size := hsc.le (next_le (next_le hle))
  have htk : t2.toks = t.toks := hsc.toks.trans ((reads_next s _).toks.trans (reads_next s t).toks)
  rw [hfin]
  have hw1 : (1 : Int) ≤ (wd.size : Int) := by
    have h1 : t.eb < s.size := peek_lt (by rcases hr0 with h | h <;> rw [h] <;> decide)
    have h2 : (next s t).eb < s.size := peek_lt (by rw [hp0]; decide)
    have h3 := next_gt h1
    have h4 := next_gt h2
    have h5 := hsc.ge
    have h6 : t2.sb = t.sb := hsc.sb.trans ((reads_next s _).sb.trans (reads_next s t).sb)
    have : 1 ≤ wd.size := by rw [← hwd]; unfold word; rw [ByteArray.size_extract]; omega
    omega
  have T2 := Lib.hid ht2
  have WD := Lib.hid hwd
  have HU := Lib.hid hu
  clear ht2 hwd hu hfin hsc hr0 hp0
  go_enter Tryf.func31, Tryf.ntmps31
  go_wp2_with fail
  refine (next_any H).mono ?_
  rintro e w1 ⟨rfl, S1, hS1, H1, hf1⟩
  have A1 := Acc.step A0 hS1 hf1
  rw [Hr.out]
  go_wp2_with fail
  refine (isSpace_any (H1).tabsAt 98 (by omega) (by omega)).mono ?_
  rintro e w' ⟨rfl, xs2, d2, rfl⟩
  have H2 := H1.keep (grow_below w1 xs2 d2)
  have A2 := Acc.below A1 (grow_below w1 xs2 d2)
  obtain ⟨w2, hw2⟩ : ∃ x, x = grow w1 xs2 d2 := ⟨_, rfl⟩
  rw [← hw2] at H2 A2 ⊢
  clear hw2
  rw [show isSpaceZ 98 = false from by decide]
  go_wp2_with fail
  refine (peek_any H2).mono ?_
  rintro e w' ⟨rfl, xs3, d3, rfl⟩
  have H3 := H2.keep (grow_below w2 xs3 d3)
  have A3 := Acc.below A2 (grow_below w2 xs3 d3)
  obtain ⟨w3, hw3⟩ : ∃ x, x = grow w2 xs3 d3 := ⟨_, rfl⟩
  rw [← hw3] at H3 A3 ⊢
  clear hw3
  rw [Hp.out]
  go_wp2_with fail
  refine (next_any H3).mono ?_
  rintro e w4 ⟨rfl, S4, hS4, H4, hf4⟩
  have A4 := Acc.step A3 hS4 hf4
  rw [Hp.out]
  go_wp2_with fail
  refine (scanString_any hF H4 39 (by decide)).mono ?_
  rintro e w5 ⟨rfl, S5, hS5, H5, hf5⟩
  have A5 := Acc.step A4 hS5 hf5
  rw [T2.out] at H5
  go_wp2_with fail
  refine (word_any H5 hle2).mono ?_
  rintro e w' ⟨rfl, xs6, d6, rfl⟩
  have H6 := H5.keep (grow_below w5 xs6 d6)
  have A6 := Acc.below A5 (grow_below w5 xs6 d6)
  obtain ⟨w6, hw6⟩ : ∃ x, x = grow w5 xs6 d6 := ⟨_, rfl⟩
  rw [← hw6] at H6 A6 ⊢
  clear hw6
  rw [WD.out]
  go_wp2_with fail
  refine (unescapeBytes_any hF H6.tabs H6.low wx hxz).mono ?_
  intro e w7 hp
  rw [HU.out] at hp
  cases b with
  | true =>
    obtain ⟨rfl, hb⟩ := hp.1 rfl
    have H7 := H6.keep hb
    have A7 := Acc.below A6 hb
    clear hp hb
    go_wp2_with fail
    refine (emitValue_any H7 (by rw [htk]; exact hn) kBytes str).mono ?_
    rintro e w8 ⟨rfl, S8, hS8, H8, hf8⟩
    have A8 := Acc.step A7 hS8 hf8
    go_wp2_with fail
    go_ret
    exact ⟨rfl, A8.done H8⟩
  | false =>
    obtain ⟨E, m, rfl, hE, hm, hb⟩ := hp.2 rfl
    have H7 := H6.keep hb
    have A7 := Acc.below A6 hb
    have Hm := Lib.hid hm
    have hElt : E < w7.heap.size := (Array.getElem?_eq_some_iff.1 hm).1
    clear hp hb hm
    go_wp2_with fail
    refine (error_v hF (H7.keep (by repeat (first | exact Below.refl _ _ | apply below_drew | apply below_drewN | apply below_alloc | apply below_grow))) ⟨E, 0, none⟩ m (cell_of_block ((Lib.alloc_old w7 _ E hElt).trans Hm.out) 0) (by go_simp)).mono ?_
    rintro e w8 ⟨rfl, S8, hS8, H8, hf8⟩
    have A8 := Acc.step (Acc.below A7 (by repeat (first | exact Below.refl _ _ | apply below_drew | apply below_drewN | apply below_alloc | apply below_grow))) hS8 hf8
    go_wp2_with fail
    refine (emitValue_any H8 (by rw [(error_same t2).2.2.1, htk]; exact hn) kBytes str).mono ?_
    rintro e w9 ⟨rfl, S9, hS9, H9, hf9⟩
    have A9 := Acc.step A8 hS9 hf9
    go_wp2_with fail
    go_ret
    exact ⟨rfl, A9.done H9⟩

set_option maxHeartbeats 8000000 in
set_option maxRecDepth 100000 in
theorem root_b98q34 {F : Stop.Interp} {W0 w : World} {S : Nat → Prop} {L : Nat} {s : ByteArray} {t : St} (hF : F.answers W0.tape) (H : Lx W0 S w L s t) (hr : peek s t = 98) (hp : peek s (next s t) = 34) (hle : t.eb ≤ s.size) (hn : t.toks.length ≤ 9) :
    Calls Tryf.prog 31 #[.pointer (some ⟨L, 0, none⟩)] w fun e w' => e = .returned (qVal (some .root)) ∧ Done W0 S w L s (rootStr bChar kBytes 1 s 34 (by decide) (next s (next s t))) w' := by
  have A0 := Acc.refl S w
  have hlo := peek_lo s t
  have hhi := peek_hi s t
  have hsm := H.small
  have hps := H.poss
  have hr0 : peek s t = 98 ∨ peek s t = 66 := by omega
  have hp0 := hp
  have Hr := Lib.hid hr
  have Hp := Lib.hid hp
  clear hr hp
  have hsc := scan_string s 34 (by decide) (next s (next s t))
  obtain ⟨t2, ht2⟩ : ∃ x, (scanString s 34 (by decide) (next s (next s t))).2 = x := ⟨_, rfl⟩
  rw [ht2] at hsc
  obtain ⟨wd, hwd⟩ : ∃ x, word s t2 = x := ⟨_, rfl⟩
  have hwz : wd.size ≤ 1099511627776 := by rw [← hwd]; unfold word; rw [ByteArray.size_extract]; omega
  obtain ⟨wx, hwx⟩ : ∃ x, wd.extract 1 wd.size = x := ⟨_, rfl⟩
  have hxz : wx.size ≤ 1099511627776 := by rw [← hwx, ByteArray.size_extract]; omega
  obtain ⟨b, str, hu⟩ : ∃ b str, unesc bChar wx = (b, str) := ⟨_, _, rfl⟩
  have hfin : rootStr bChar kBytes 1 s 34 (by decide) (next s (next s t)) = emitV kBytes str (if b then t2 else error t2) := by unfold rootStr; dsimp only; rw [ht2, hwd, hwx, hu]
  have hle2 : t2.eb ≤ s.size := hsc.le (next_le (next_le hle))
  have htk : t2.toks = t.toks := hsc.toks.trans ((reads_next s _).toks.trans (reads_next s t).toks)
  rw [hfin]
  have hw1 : (1 : Int) ≤ (wd.size : Int) := by
    have h1 : t.eb < s.size := peek_lt (by rcases hr0 with h | h <;> rw [h] <;> decide)
    have h2 : (next s t).eb < s.size := peek_lt (by rw [hp0]; decide)
    have h3 := next_gt h1
    have h4 := next_gt h2
    have h5 := hsc.ge
    have h6 : t2.sb = t.sb := hsc.sb.trans ((reads_next s _).sb.trans (reads_next s t).sb)
    have : 1 ≤ wd.size := by rw [← hwd]; unfold word; rw [ByteArray.size_extract]; omega
    omega
  have T2 := Lib.hid ht2
  have WD := Lib.hid hwd
  have HU := Lib.hid hu
  clear ht2 hwd hu hfin hsc hr0 hp0
  go_enter Tryf.func31, Tryf.ntmps31
  go_wp2_with fail
  refine (next_any H).mono ?_
  rintro e w1 ⟨rfl, S1, hS1, H1, hf1⟩
  have A1 := Acc.step A0 hS1 hf1
  rw [Hr.out]
  go_wp2_with fail
  refine (isSpace_any (H1).tabsAt 98 (by omega) (by omega)).mono ?_
  rintro e w' ⟨rfl, xs2, d2, rfl⟩
  have H2 := H1.keep (grow_below w1 xs2 d2)
  have A2 := Acc.below A1 (grow_below w1 xs2 d2)
  obtain ⟨w2, hw2⟩ : ∃ x, x = grow w1 xs2 d2 := ⟨_, rfl⟩
  rw [← hw2] at H2 A2 ⊢
  clear hw2
  rw [show isSpaceZ 98 = false from by decide]
  go_wp2_with fail
  refine (peek_any H2).mono ?_
  rintro e w' ⟨rfl, xs3, d3, rfl⟩
  have H3 := H2.keep (grow_below w2 xs3 d3)
  have A3 := Acc.below A2 (grow_below w2 xs3 d3)
  obtain ⟨w3, hw3⟩ : ∃ x, x = grow w2 xs3 d3 := ⟨_, rfl⟩
  rw [← hw3] at H3 A3 ⊢
  clear hw3
  rw [Hp.out]
  go_wp2_with fail
  refine (peek_any H3).mono ?_
  rintro e w' ⟨rfl, xs4, d4, rfl⟩
  have H4 := H3.keep (grow_below w3 xs4 d4)
  have A4 := Acc.below A3 (grow_below w3 xs4 d4)
  obtain ⟨w4, hw4⟩ : ∃ x, x = grow w3 xs4 d4 := ⟨_, rfl⟩
  rw [← hw4] at H4 A4 ⊢
  clear hw4
  rw [Hp.out]
  go_wp2_with fail
  refine (next_any H4).mono ?_
  rintro e w5 ⟨rfl, S5, hS5, H5, hf5⟩
  have A5 := Acc.step A4 hS5 hf5
  rw [Hp.out]
  go_wp2_with fail
  refine (scanString_any hF H5 34 (by decide)).mono ?_
  rintro e w6 ⟨rfl, S6, hS6, H6, hf6⟩
  have A6 := Acc.step A5 hS6 hf6
  rw [T2.out] at H6
  go_wp2_with fail
  refine (word_any H6 hle2).mono ?_
  rintro e w' ⟨rfl, xs7, d7, rfl⟩
  have H7 := H6.keep (grow_below w6 xs7 d7)
  have A7 := Acc.below A6 (grow_below w6 xs7 d7)
  obtain ⟨w7, hw7⟩ : ∃ x, x = grow w6 xs7 d7 := ⟨_, rfl⟩
  rw [← hw7] at H7 A7 ⊢
  clear hw7
  rw [WD.out]
  go_wp2_with fail
  refine (unescapeBytes_any hF H7.tabs H7.low wx hxz).mono ?_
  intro e w8 hp
  rw [HU.out] at hp
  cases b with
  | true =>
    obtain ⟨rfl, hb⟩ := hp.1 rfl
    have H8 := H7.keep hb
    have A8 := Acc.below A7 hb
    clear hp hb
    go_wp2_with fail
    refine (emitValue_any H8 (by rw [htk]; exact hn) kBytes str).mono ?_
    rintro e w9 ⟨rfl, S9, hS9, H9, hf9⟩
    have A9 := Acc.step A8 hS9 hf9
    go_wp2_with fail
    go_ret
    exact ⟨rfl, A9.done H9⟩
  | false =>
    obtain ⟨E, m, rfl, hE, hm, hb⟩ := hp.2 rfl
    have H8 := H7.keep hb
    have A8 := Acc.below A7 hb
    have Hm := Lib.hid hm
    have hElt : E < w8.heap.size := (Array.getElem?_eq_some_iff.1 hm).1
    clear hp hb hm
    go_wp2_with fail
    refine (error_v hF (H8.keep (by repeat (first | exact Below.refl _ _ | apply below_drew | apply below_drewN | apply below_alloc | apply below_grow))) ⟨E, 0, none⟩ m (cell_of_block ((Lib.alloc_old w8 _ E hElt).trans Hm.out) 0) (by go_simp)).mono ?_
    rintro e w9 ⟨rfl, S9, hS9, H9, hf9⟩
    have A9 := Acc.step (Acc.below A8 (by repeat (first | exact Below.refl _ _ | apply below_drew | apply below_drewN | apply below_alloc | apply below_grow))) hS9 hf9
    go_wp2_with fail
    refine (emitValue_any H9 (by rw [(error_same t2).2.2.1, htk]; exact hn) kBytes str).mono ?_
    rintro e w10 ⟨rfl, S10, hS10, H10, hf10⟩
    have A10 := Acc.step A9 hS10 hf10
    go_wp2_with fail
    go_ret
    exact ⟨rfl, A10.done H10⟩

set_option maxHeartbeats 8000000 in
set_option maxRecDepth 100000 in
theorem root_b66q39 {F : Stop.Interp} {W0 w : World} {S : Nat → Prop} {L : Nat} {s : ByteArray} {t : St} (hF : F.answers W0.tape) (H : Lx W0 S w L s t) (hr : peek s t = 66) (hp : peek s (next s t) = 39) (hle : t.eb ≤ s.size) (hn : t.toks.length ≤ 9) :
    Calls Tryf.prog 31 #[.pointer (some ⟨L, 0, none⟩)] w fun e w' => e = .returned (qVal (some .root)) ∧ Done W0 S w L s (rootStr bChar kBytes 1 s 39 (by decide) (next s (next s t))) w' := by
  have A0 := Acc.refl S w
  have hlo := peek_lo s t
  have hhi := peek_hi s t
  have hsm := H.small
  have hps := H.poss
  have hr0 : peek s t = 98 ∨ peek s t = 66 := by omega
  have hp0 := hp
  have Hr := Lib.hid hr
  have Hp := Lib.hid hp
  clear hr hp
  have hsc := scan_string s 39 (by decide) (next s (next s t))
  obtain ⟨t2, ht2⟩ : ∃ x, (scanString s 39 (by decide) (next s (next s t))).2 = x := ⟨_, rfl⟩
  rw [ht2] at hsc
  obtain ⟨wd, hwd⟩ : ∃ x, word s t2 = x := ⟨_, rfl⟩
  have hwz : wd.size ≤ 1099511627776 := by rw [← hwd]; unfold word; rw [ByteArray.size_extract]; omega
  obtain ⟨wx, hwx⟩ : ∃ x, wd.extract 1 wd.size = x := ⟨_, rfl⟩
  have hxz : wx.size ≤ 1099511627776 := by rw [← hwx, ByteArray.size_extract]; omega
  obtain ⟨b, str, hu⟩ : ∃ b str, unesc bChar wx = (b, str) := ⟨_, _, rfl⟩
  have hfin : rootStr bChar kBytes 1 s 39 (by decide) (next s (next s t)) = emitV kBytes str (if b then t2 else error t2) := by unfold rootStr; dsimp only; rw [ht2, hwd, hwx, hu]
  have hle2 : t2.eb ≤ s.size := hsc.le (next_le (next_le hle))
  have htk : t2.toks = t.toks := hsc.toks.trans ((reads_next s _).toks.trans (reads_next s t).toks)
  rw [hfin]
  have hw1 : (1 : Int) ≤ (wd.size : Int) := by
    have h1 : t.eb < s.size := peek_lt (by rcases hr0 with h | h <;> rw [h] <;> decide)
    have h2 : (next s t).eb < s.size := peek_lt (by rw [hp0]; decide)
    have h3 := next_gt h1
    have h4 := next_gt h2
    have h5 := hsc.ge
    have h6 : t2.sb = t.sb := hsc.sb.trans ((reads_next s _).sb.trans (reads_next s t).sb)
    have : 1 ≤ wd.size := by rw [← hwd]; unfold word; rw [ByteArray.size_extract]; omega
    omega
  have T2 := Lib.hid ht2
  have WD := Lib.hid hwd
  have HU := Lib.hid hu
  clear ht2 hwd hu hfin hsc hr0 hp0
  go_enter Tryf.func31, Tryf.ntmps31
  go_wp2_with fail
  refine (next_any H).mono ?_
  rintro e w1 ⟨rfl, S1, hS1, H1, hf1⟩
  have A1 := Acc.step A0 hS1 hf1
  rw [Hr.out]
  go_wp2_with fail
  refine (isSpace_any (H1).tabsAt 66 (by omega) (by omega)).mono ?_
  rintro e w' ⟨rfl, xs2, d2, rfl⟩
  have H2 := H1.keep (grow_below w1 xs2 d2)
  have A2 := Acc.below A1 (grow_below w1 xs2 d2)
  obtain ⟨w2, hw2⟩ : ∃ x, x = grow w1 xs2 d2 := ⟨_, rfl⟩
  rw [← hw2] at H2 A2 ⊢
  clear hw2
  rw [show isSpaceZ 66 = false from by decide]
  go_wp2_with fail
  refine (peek_any H2).mono ?_
  rintro e w' ⟨rfl, xs3, d3, rfl⟩
  have H3 := H2.keep (grow_below w2 xs3 d3)
  have A3 := Acc.below A2 (grow_below w2 xs3 d3)
  obtain ⟨w3, hw3⟩ : ∃ x, x = grow w2 xs3 d3 := ⟨_, rfl⟩
  rw [← hw3] at H3 A3 ⊢
  clear hw3
  rw [Hp.out]
  go_wp2_with fail
  refine (next_any H3).mono ?_
  rintro e w4 ⟨rfl, S4, hS4, H4, hf4⟩
  have A4 := Acc.step A3 hS4 hf4
  rw [Hp.out]
  go_wp2_with fail
  refine (scanString_any hF H4 39 (by decide)).mono ?_
  rintro e w5 ⟨rfl, S5, hS5, H5, hf5⟩
  have A5 := Acc.step A4 hS5 hf5
  rw [T2.out] at H5
  go_wp2_with fail
  refine (word_any H5 hle2).mono ?_
  rintro e w' ⟨rfl, xs6, d6, rfl⟩
  have H6 := H5.keep (grow_below w5 xs6 d6)
  have A6 := Acc.below A5 (grow_below w5 xs6 d6)
  obtain ⟨w6, hw6⟩ : ∃ x, x = grow w5 xs6 d6 := ⟨_, rfl⟩
  rw [← hw6] at H6 A6 ⊢
  clear hw6
  rw [WD.out]
  go_wp2_with fail
  refine (unescapeBytes_any hF H6.tabs H6.low wx hxz).mono ?_
  intro e w7 hp
  rw [HU.out] at hp
  cases b with
  | true =>
    obtain ⟨rfl, hb⟩ := hp.1 rfl
    have H7 := H6.keep hb
    have A7 := Acc.below A6 hb
    clear hp hb
    go_wp2_with fail
    refine (emitValue_any H7 (by rw [htk]; exact hn) kBytes str).mono ?_
    rintro e w8 ⟨rfl, S8, hS8, H8, hf8⟩
    have A8 := Acc.step A7 hS8 hf8
    go_wp2_with fail
    go_ret
    exact ⟨rfl, A8.done H8⟩
  | false =>
    obtain ⟨E, m, rfl, hE, hm, hb⟩ := hp.2 rfl
    have H7 := H6.keep hb
    have A7 := Acc.below A6 hb
    have Hm := Lib.hid hm
    have hElt : E < w7.heap.size := (Array.getElem?_eq_some_iff.1 hm).1
    clear hp hb hm
    go_wp2_with fail
    refine (error_v hF (H7.keep (by repeat (first | exact Below.refl _ _ | apply below_drew | apply below_drewN | apply below_alloc | apply below_grow))) ⟨E, 0, none⟩ m (cell_of_block ((Lib.alloc_old w7 _ E hElt).trans Hm.out) 0) (by go_simp)).mono ?_
    rintro e w8 ⟨rfl, S8, hS8, H8, hf8⟩
    have A8 := Acc.step (Acc.below A7 (by repeat (first | exact Below.refl _ _ | apply below_drew | apply below_drewN | apply below_alloc | apply below_grow))) hS8 hf8
    go_wp2_with fail
    refine (emitValue_any H8 (by rw [(error_same t2).2.2.1, htk]; exact hn) kBytes str).mono ?_
    rintro e w9 ⟨rfl, S9, hS9, H9, hf9⟩
    have A9 := Acc.step A8 hS9 hf9
    go_wp2_with fail
    go_ret
    exact ⟨rfl, A9.done H9⟩

set_option maxHeartbeats 8000000 in
set_option maxRecDepth 100000 in
theorem root_b66q34 {F : Stop.Interp} {W0 w : World} {S : Nat → Prop} {L : Nat} {s : ByteArray} {t : St} (hF : F.answers W0.tape) (H : Lx W0 S w L s t) (hr : peek s t = 66) (hp : peek s (next s t) = 34) (hle : t.eb ≤ s.size) (hn : t.toks.length ≤ 9) :
    Calls Tryf.prog 31 #[.pointer (some ⟨L, 0, none⟩)] w fun e w' => e = .returned (qVal (some .root)) ∧ Done W0 S w L s (rootStr bChar kBytes 1 s 34 (by decide) (next s (next s t))) w' := by
  have A0 := Acc.refl S w
  have hlo := peek_lo s t
  have hhi := peek_hi s t
  have hsm := H.small
  have hps := H.poss
  have hr0 : peek s t = 98 ∨ peek s t = 66 := by omega
  have hp0 := hp
  have Hr := Lib.hid hr
  have Hp := Lib.hid hp
  clear hr hp
  have hsc := scan_string s 34 (by decide) (next s (next s t))
  obtain ⟨t2, ht2⟩ : ∃ x, (scanString s 34 (by decide) (next s (next s t))).2 = x := ⟨_, rfl⟩
  rw [ht2] at hsc
  obtain ⟨wd, hwd⟩ : ∃ x, word s t2 = x := ⟨_, rfl⟩
  have hwz : wd.size ≤ 1099511627776 := by rw [← hwd]; unfold word; rw [ByteArray.size_extract]; omega
  obtain ⟨wx, hwx⟩ : ∃ x, wd.extract 1 wd.size = x := ⟨_, rfl⟩
  have hxz : wx.size ≤ 1099511627776 := by rw [← hwx, ByteArray.size_extract]; omega
  obtain ⟨b, str, hu⟩ : ∃ b str, unesc bChar wx = (b, str) := ⟨_, _, rfl⟩
  have hfin : rootStr bChar kBytes 1 s 34 (by decide) (next s (next s t)) = emitV kBytes str (if b then t2 else error t2) := by unfold rootStr; dsimp only; rw [ht2, hwd, hwx, hu]
  have hle2 : t2.eb ≤ s.size := hsc.le (next_le (next_le hle))
  have htk : t2.toks = t.toks := hsc.toks.trans ((reads_next s _).toks.trans (reads_next s t).toks)
  rw [hfin]
  have hw1 : (1 : Int) ≤ (wd.size : Int) := by
    have h1 : t.eb < s.size := peek_lt (by rcases hr0 with h | h <;> rw [h] <;> decide)
    have h2 : (next s t).eb < s.size := peek_lt (by rw [hp0]; decide)
    have h3 := next_gt h1
    have h4 := next_gt h2
    have h5 := hsc.ge
    have h6 : t2.sb = t.sb := hsc.sb.trans ((reads_next s _).sb.trans (reads_next s t).sb)
    have : 1 ≤ wd.size := by rw [← hwd]; unfold word; rw [ByteArray.size_extract]; omega
    omega
  have T2 := Lib.hid ht2
  have WD := Lib.hid hwd
  have HU := Lib.hid hu
  clear ht2 hwd hu hfin hsc hr0 hp0
  go_enter Tryf.func31, Tryf.ntmps31
  go_wp2_with fail
  refine (next_any H).mono ?_
  rintro e w1 ⟨rfl, S1, hS1, H1, hf1⟩
  have A1 := Acc.step A0 hS1 hf1
  rw [Hr.out]
  go_wp2_with fail
  refine (isSpace_any (H1).tabsAt 66 (by omega) (by omega)).mono ?_
  rintro e w' ⟨rfl, xs2, d2, rfl⟩
  have H2 := H1.keep (grow_below w1 xs2 d2)
  have A2 := Acc.below A1 (grow_below w1 xs2 d2)
  obtain ⟨w2, hw2⟩ : ∃ x, x = grow w1 xs2 d2 := ⟨_, rfl⟩
  rw [← hw2] at H2 A2 ⊢
  clear hw2
  rw [show isSpaceZ 66 = false from by decide]
  go_wp2_with fail
  refine (peek_any H2).mono ?_
  rintro e w' ⟨rfl, xs3, d3, rfl⟩
  have H3 := H2.keep (grow_below w2 xs3 d3)
  have A3 := Acc.below A2 (grow_below w2 xs3 d3)
  obtain ⟨w3, hw3⟩ : ∃ x, x = grow w2 xs3 d3 := ⟨_, rfl⟩
  rw [← hw3] at H3 A3 ⊢
  clear hw3
  rw [Hp.out]
  go_wp2_with fail
  refine (peek_any H3).mono ?_
  rintro e w' ⟨rfl, xs4, d4, rfl⟩
  have H4 := H3.keep (grow_below w3 xs4 d4)
  have A4 := Acc.below A3 (grow_below w3 xs4 d4)
  obtain ⟨w4, hw4⟩ : ∃ x, x = grow w3 xs4 d4 := ⟨_, rfl⟩
  rw [← hw4] at H4 A4 ⊢
  clear hw4
  rw [Hp.out]
  go_wp2_with fail
  refine (next_any H4).mono ?_
  rintro e w5 ⟨rfl, S5, hS5, H5, hf5⟩
  have A5 := Acc.step A4 hS5 hf5
  rw [Hp.out]
  go_wp2_with fail
  refine (scanString_any hF H5 34 (by decide)).mono ?_
  rintro e w6 ⟨rfl, S6, hS6, H6, hf6⟩
  have A6 := Acc.step A5 hS6 hf6
  rw [T2.out] at H6
  go_wp2_with fail
  refine (word_any H6 hle2).mono ?_
  rintro e w' ⟨rfl, xs7, d7, rfl⟩
  have H7 := H6.keep (grow_below w6 xs7 d7)
  have A7 := Acc.below A6 (grow_below w6 xs7 d7)
  obtain ⟨w7, hw7⟩ : ∃ x, x = grow w6 xs7 d7 := ⟨_, rfl⟩
  rw [← hw7] at H7 A7 ⊢
  clear hw7
  rw [WD.out]
  go_wp2_with fail
  refine (unescapeBytes_any hF H7.tabs H7.low wx hxz).mono ?_
  intro e w8 hp
  rw [HU.out] at hp
  cases b with
  | true =>
    obtain ⟨rfl, hb⟩ := hp.1 rfl
    have H8 := H7.keep hb
    have A8 := Acc.below A7 hb
    clear hp hb
    go_wp2_with fail
    refine (emitValue_any H8 (by rw [htk]; exact hn) kBytes str).mono ?_
    rintro e w9 ⟨rfl, S9, hS9, H9, hf9⟩
    have A9 := Acc.step A8 hS9 hf9
    go_wp2_with fail
    go_ret
    exact ⟨rfl, A9.done H9⟩
  | false =>
    obtain ⟨E, m, rfl, hE, hm, hb⟩ := hp.2 rfl
    have H8 := H7.keep hb
    have A8 := Acc.below A7 hb
    have Hm := Lib.hid hm
    have hElt : E < w8.heap.size := (Array.getElem?_eq_some_iff.1 hm).1
    clear hp hb hm
    go_wp2_with fail
    refine (error_v hF (H8.keep (by repeat (first | exact Below.refl _ _ | apply below_drew | apply below_drewN | apply below_alloc | apply below_grow))) ⟨E, 0, none⟩ m (cell_of_block ((Lib.alloc_old w8 _ E hElt).trans Hm.out) 0) (by go_simp)).mono ?_
    rintro e w9 ⟨rfl, S9, hS9, H9, hf9⟩
    have A9 := Acc.step (Acc.below A8 (by repeat (first | exact Below.refl _ _ | apply below_drew | apply below_drewN | apply below_alloc | apply below_grow))) hS9 hf9
    go_wp2_with fail
    refine (emitValue_any H9 (by rw [(error_same t2).2.2.1, htk]; exact hn) kBytes str).mono ?_
    rintro e w10 ⟨rfl, S10, hS10, H10, hf10⟩
    have A10 := Acc.step A9 hS10 hf10
    go_wp2_with fail
    go_ret
    exact ⟨rfl, A10.done H10⟩

end Go.Proofs.YtdpdgppjeekcmaaFmt
