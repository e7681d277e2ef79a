/-
  Walk of zzRuneStarts of n003_74: the places of the runes' beginnings, the text's end behind them.
-/
import Derived.Test.YtkplkccjeacniaaGreatFmtZ74w
namespace Go.Proofs.YtkplkccjeacniaaGreatFmt
open Go Go.Lib Go.RowKit Go.Proofs
open Go.Extern.Stop Go.Stop Go.Extern

/-- The places of the runes' beginnings, in order, and the text's end behind them. -/
def Places (s : ByteArray) (l : List Nat) : Prop := ∀ k (h : k < l.length), Bd s (l[k]'h) k
theorem Places.snoc {s : ByteArray} {l : List Nat} (h : Places s l) {i : Nat} (hb : Bd s i l.length) : Places s (l ++ [i]) := fun k hk => by
  by_cases hl : k < l.length
  · rw [List.getElem_append_left hl]; exact h k hl
  · have e : k = l.length := by rw [List.length_append] at hk; simp at hk; omega
    subst e
    simpa using hb
def placeCells (l : List Nat) : List Value := l.map (fun i => .int .i64 (i : Nat))
theorem infoI64 : (Tryz.prog.info? 3).map (fun i => (i.zero, i.size, i.bytes)) = some (some (.int .i64 0), 1, 8) := by kernel_rfl

/-- What zzRuneStarts comes to. -/
def PlacesPost (s : ByteArray) (w : World) (e : Ending) (w' : World) : Prop :=
  ∃ (vo : Value) (l : List Nat), e = .returned vo ∧ w'.ownsRow w.heap.size 3 1 vo (l ++ [s.size]).length (placeCells (l ++ [s.size])) ∧ Places s (l ++ [s.size]) ∧ Below w.heap.size w w'

set_option maxHeartbeats 8000000 in
set_option maxRecDepth 100000 in
theorem zzRuneStarts_any (s : ByteArray) (hs : s.size ≤ 1099511627776) (w : World) :
    Calls Tryz.prog 25 #[.string s] w (PlacesPost s w) := by
  obtain ⟨ib, hib, hzb, hsb, hbb⟩ := info_parts infoI64
  have hub : Tryz.prog.underlying 60 = some (.slice 3) := by kernel_rfl
  have Hib := Lib.hid hib
  have Hzb := Lib.hid hzb
  have Hsb := Lib.hid hsb
  have Hbb := Lib.hid hbb
  have Hub := Lib.hid hub
  clear hib hzb hsb hbb hub
  go_enter Tryz.func25, Tryz.ntmps25
  go_wp2_with fail
  go_loopg [3, 4] (s.size + 1) (fun g ov iv wr => ∃ (i : Nat) (l : List Nat), iv = .int .i64 (i : Nat) ∧ Hid (wr.ownsRow w.heap.size 3 1 ov l.length (placeCells l)) ∧ Hid (Below w.heap.size w wr) ∧ Hid (Places s l) ∧ Hid (Bd s i l.length) ∧ l.length ≤ i ∧ i ≤ s.size ∧ s.size - i < g)
  case atStart => exact ⟨0, [], rfl, Lib.hid (World.ownsRow_nil _ _ _ _), Lib.hid (Below.refl _ _), Lib.hid (fun k h => absurd h (Nat.not_lt_zero _)), Lib.hid .zero, Nat.zero_le _, Nat.zero_le _, by omega⟩
  case round =>
    obtain ⟨i, l, rfl, hoo, hb, hpl, hbd, hli, hi', hg⟩ := hrel
    have hls : l.length ≤ 1099511627776 := by omega
    have hsz := hb.out.size
    by_cases hin : i < s.size
    · have i1 : (i : Int) < (s.size : Int) := by omega
      have hbn := hbd.out.step hin
      have hle := hbn.le
      have hpos := wAt_pos s i hin
      have hdec := zzDecodeLen_any s i
      have Hdec := Lib.hid hdec
      have Hbn := Lib.hid hbn
      clear hdec hbn
      go_wp2_with (first | (at_builtin; refine wpList_append_own_at _ rfl _ _ 60 rfl w.heap.size 3 ib _ 1 8 Hub.out Hib.out Hzb.out Hsb.out Hbb.out rfl (by decide) _ _ _ rfl (hoo.out.alloc _) ⟨wr.heap.size, 0, none⟩ 1 1 [.int .i64 i] rfl rfl ?e1 ?e2 ?e3 ?e4 ?e5 ?_))
      case e1 =>
        intro j u hj
        match j, hj with
        | 0, hj => simp at hj; subst hj; simp [Addr.add]
        | j + 1, hj => simp at hj
      case e2 => intro u hu; simp at hu; subst hu; rfl
      case e3 => unfold maxLen; omega
      case e4 => omega
      case e5 => first | omega | (simp; omega)
      intro vo3 w3 hoo3 hgr3 _ hblk3
      have hbw3 : Below w.heap.size w w3 := (hb.out.alloc hb.out.size _).grown hgr3 (by simp; omega) (fun g hgg => (hoo.out.lt g hgg).1)
      have hpc : placeCells (l ++ [i]) = placeCells l ++ [.int .i64 (i : Nat)] := by simp [placeCells]
      have hll : (l ++ [i]).length = l.length + 1 := by simp
      rw [← hpc, ← hll] at hoo3
      have hpl3 := hpl.out.snoc hbd.out
      have Hoo3 := Lib.hid hoo3
      have Hbw3 := Lib.hid hbw3
      have Hpl3 := Lib.hid hpl3
      have Hll := Lib.hid hll
      clear hoo3 hbw3 hgr3 hblk3 hpc hll hpl3 hoo hb
      go_wp2_with fail
      refine (Hdec.out _ hin hs).mono ?_
      rintro e w4 ⟨rfl, hb4⟩
      obtain ⟨d, hd⟩ : ∃ d, wAt s i = d := ⟨_, rfl⟩
      rw [hd] at Hbn hle hpos ⊢
      have d1 : IntKind.i64.wrap ((i : Int) + (d : Int)) = (i : Int) + (d : Int) := by rw [IntKind.wrap_i64]; omega
      have hoo4 := own_keep Hoo3.out (w' := w4) (fun k hk => hb4.block k (Hoo3.out.lt k hk).2)
      have hbw4 : Below w.heap.size w w4 := Hbw3.out.trans (hb4.mono Hbw3.out.size)
      have Hoo4 := Lib.hid hoo4
      have Hbw4 := Lib.hid hbw4
      have Hd := Lib.hid hd
      clear hoo4 hbw4 hb4 Hoo3 Hbw3 hd hsz
      go_wp2_with fail
      go_roundg (s.size - i)
      case measure => omega
      case rel => exact ⟨i + d, l ++ [i], by go_num, Hoo4, Hbw4, Hpl3, Lib.hid (by rw [Hll.out]; exact Hbn.out), by rw [Hll.out]; omega, hle, by omega⟩
    · have i1 : ¬ (i : Int) < (s.size : Int) := by omega
      obtain rfl : i = s.size := by omega
      go_wp2_with (first | (at_builtin; refine wpList_append_own_at _ rfl _ _ 60 rfl w.heap.size 3 ib _ 1 8 Hub.out Hib.out Hzb.out Hsb.out Hbb.out rfl (by decide) _ _ _ rfl (hoo.out.alloc _) ⟨wr.heap.size, 0, none⟩ 1 1 [.int .i64 s.size] rfl rfl ?e1 ?e2 ?e3 ?e4 ?e5 ?_))
      case e2 => first | rfl | (intro u hu; simp at hu; subst hu; rfl)
      case e3 => unfold maxLen; omega
      case e4 => omega
      case e5 => first | omega | (simp; omega)
      intro vo3 w3 hoo3 hgr3 _ hblk3
      have hbw3 : Below w.heap.size w w3 := (hb.out.alloc hb.out.size _).grown hgr3 (by simp; omega) (fun g hgg => (hoo.out.lt g hgg).1)
      have hpc : placeCells (l ++ [s.size]) = placeCells l ++ [.int .i64 (s.size : Nat)] := by simp [placeCells]
      have hll : (l ++ [s.size]).length = l.length + 1 := by simp
      rw [← hpc, ← hll] at hoo3
      have hpl3 := hpl.out.snoc hbd.out
      have hpost : PlacesPost s w (.returned vo3) w3 := ⟨vo3, l, rfl, hoo3, hpl3, hbw3⟩
      have Hpost := Lib.hid hpost
      clear hoo3 hbw3 hgr3 hblk3 hpc hll hpl3 hpost
      go_wp2_with fail
      go_ret
      exact Hpost.out

end Go.Proofs.YtkplkccjeacniaaGreatFmt
