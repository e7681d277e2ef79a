/-
  Walk of b5Decode of n003_49: one rune and one place a step.
-/
import Derived.Test.YtlbmojpmfgihlaaFmtDec49
import Derived.Test.YtlbmojpmfgihlaaFmtBd
import Derived.Test.YtlbmojpmfgihlaaFmtSteps
import Derived.Maps.AppendAt
import Derived.Laws.MakeOwn
import Derived.WalkKit
namespace Go.Proofs.YtlbmojpmfgihlaaFmt
open Go Go.Lib Go.RowKit Go.Proofs
open Go.Extern.Stop Go.Stop Go.Extern

theorem own_keep {w w' : World} {base : Nat} {e : TypeId} {size n : Nat} {v : Value} {xs : List Value} (h : w.ownsRow base e size v n xs) (hm : ∀ k, v.ownBlock = some k → w'.heap[k]? = w.heap[k]?) : w'.ownsRow base e size v n xs := by
  obtain ⟨h1, h2⟩ := h
  refine ⟨h1, ?_⟩
  rcases h2 with h2 | ⟨g, cap, cur, rfl, hB, hg, hr⟩
  · exact .inl h2
  · exact .inr ⟨g, cap, cur, rfl, hB, (hm g rfl).trans hg, hr⟩

theorem addr_add (B o j : Nat) : (⟨B, o, none⟩ : Addr).add j = ⟨B, o + j, none⟩ := by
  unfold Addr.add
  split <;> simp_all

/-- The places of the runes' beginnings, in order, and the text's end behind them. -/
def Places (s : ByteArray) (l : List Nat) : Prop := ∀ k (h : k < l.length), Bd s (l[k]'h) k
theorem Places.snoc {s : ByteArray} {l : List Nat} (h : Places s l) {i : Nat} (hb : Bd s i l.length) : Places s (l ++ [i]) := fun k hk => by
  by_cases hl : k < l.length
  · rw [List.getElem_append_left hl]; exact h k hl
  · have e : k = l.length := by rw [List.length_append] at hk; simp at hk; omega
    subst e
    simpa using hb
def placeCells (l : List Nat) : List Value := l.map (fun i => .int .i64 (i : Nat))

theorem infoI32 : (Tryf.prog.info? 21).map (fun i => (i.zero, i.size, i.bytes)) = some (some (.int .i32 0), 1, 4) := by kernel_rfl
theorem infoI64 : (Tryf.prog.info? 3).map (fun i => (i.zero, i.size, i.bytes)) = some (some (.int .i64 0), 1, 8) := by kernel_rfl

/-- What b5Decode comes to: N runes, N + 1 places. -/
def DecodePost (s : ByteArray) (w : World) (e : Ending) (w' : World) : Prop :=
  ∃ (vr vo : Value) (rs : List Value) (l : List Nat), e = .returned (.tuple #[vr, vo]) ∧ w'.ownsRow w.heap.size 21 1 vr rs.length rs ∧ w'.ownsRow w.heap.size 3 1 vo (l ++ [s.size]).length (placeCells (l ++ [s.size])) ∧ rs.length = l.length ∧ Places s (l ++ [s.size]) ∧ Below w.heap.size w w'

set_option maxHeartbeats 8000000 in
set_option maxRecDepth 100000 in
theorem b5Decode_any (s : ByteArray) (hs : s.size ≤ 1099511627776) (w : World) :
    Calls Tryf.prog 13 #[.string s] w (DecodePost s w) := by
  obtain ⟨ia, hia, hza, hsa, hba⟩ := info_parts infoI32
  obtain ⟨ib, hib, hzb, hsb, hbb⟩ := info_parts infoI64
  have hua : Tryf.prog.underlying 30 = some (.slice 21) := by kernel_rfl
  have hub : Tryf.prog.underlying 31 = some (.slice 3) := by kernel_rfl
  have mk1 : ∀ wr : World, (Instr.makeSlice 30 (.int .i64 0) (.int .i64 s.size)).run Tryf.prog wr = .ok (.slice (some ⟨wr.heap.size, 0, none⟩) 0 s.size) (wr.alloc (.cells (madeCells (Value.int .i32 0).cells (s.size * ia.size)) 21)) := fun wr => by
    have h := run_make (P := Tryf.prog) wr 30 21 ia (.int .i32 0) hua hia hza .i64 .i64 0 (s.size : Int) (Int.le_refl _) (by omega) (by rw [hba]; omega) (by omega)
    simpa using h
  obtain ⟨n1, hn1⟩ : ∃ n : Nat, n = s.size + 1 := ⟨_, rfl⟩
  have hn2 : (s.size : Int) + 1 = (n1 : Int) := by omega
  have mk2 : ∀ wr : World, (Instr.makeSlice 31 (.int .i64 0) (.int .i64 n1)).run Tryf.prog wr = .ok (.slice (some ⟨wr.heap.size, 0, none⟩) 0 n1) (wr.alloc (.cells (madeCells (Value.int .i64 0).cells (n1 * ib.size)) 3)) := fun wr => by
    have h := run_make (P := Tryf.prog) wr 31 3 ib (.int .i64 0) hub hib hzb .i64 .i64 0 (n1 : Int) (Int.le_refl _) (by omega) (by rw [hbb]; omega) (by omega)
    simpa using h
  obtain ⟨c1, hc1⟩ : ∃ c, madeCells (Value.int .i32 0).cells (s.size * ia.size) = c := ⟨_, rfl⟩
  obtain ⟨c2, hc2⟩ : ∃ c, madeCells (Value.int .i64 0).cells (n1 * ib.size) = c := ⟨_, rfl⟩
  have z1 : c1.size = s.size * 1 := by rw [← hc1, size_madeCells, hsa]
  have z2 : c2.size = n1 * 1 := by rw [← hc2, size_madeCells, hsb]
  rw [hc1] at mk1
  rw [hc2] at mk2
  have hown1 := World.ownsRow_made (w := w) (base := w.heap.size) (e := 21) (size := 1) c1 s.size (Nat.le_refl _) (by unfold maxLen; omega) z1
  have hown2 := World.ownsRow_made (w := w.alloc (.cells c1 21)) (base := w.heap.size) (e := 3) (size := 1) c2 n1 (by simp) (by unfold maxLen; omega) z2
  have Hia := Lib.hid hia
  have Hza := Lib.hid hza
  have Hsa := Lib.hid hsa
  have Hba := Lib.hid hba
  have Hua := Lib.hid hua
  have Hib := Lib.hid hib
  have Hzb := Lib.hid hzb
  have Hsb := Lib.hid hsb
  have Hbb := Lib.hid hbb
  have Hub := Lib.hid hub
  have Hn1 := Lib.hid hn1
  have Hown1 := Lib.hid hown1
  have Hown2 := Lib.hid hown2
  clear hia hza hsa hba hua hib hzb hsb hbb hub hn1 hc1 hc2 z1 z2 hown1 hown2
  go_enter Tryf.func13, Tryf.ntmps13
  go_wp2_with fail
  go_loopg [4, 5, 6] (s.size + 1) (fun g rv ov iv wr => ∃ (i : Nat) (rs : List Value) (l : List Nat), iv = .int .i64 (i : Nat) ∧ Hid (wr.ownsRow w.heap.size 21 1 rv rs.length rs) ∧ Hid (wr.ownsRow w.heap.size 3 1 ov l.length (placeCells l)) ∧ Hid (∀ g, rv.ownBlock = some g → ov.ownBlock ≠ some g) ∧ Hid (Below w.heap.size w wr) ∧ rs.length = l.length ∧ Hid (Places s l) ∧ Hid (Bd s i l.length) ∧ l.length ≤ i ∧ i ≤ s.size ∧ s.size - i < g)
  case atStart =>
    refine ⟨0, [], [], rfl, Lib.hid (Hown1.out.alloc _), Lib.hid (by have h := Hown2.out; rw [show (w.alloc (.cells c1 21)).heap.size = w.heap.size + 1 by simp] at h; exact h), Lib.hid (fun g h1 h2 => ?_), Lib.hid (Below.alloc (Below.alloc (Below.refl _ _) (Nat.le_refl _) _) (by simp) _), rfl, Lib.hid (fun k h => absurd h (Nat.not_lt_zero _)), Lib.hid .zero, Nat.zero_le _, Nat.zero_le _, by omega⟩
    simp [Value.ownBlock] at h1 h2
    omega
  case round =>
    obtain ⟨i, rs, l, rfl, hor, hoo, hdis, hb, hrl, hpl, hbd, hli, hi', hg⟩ := hrel
    by_cases hin : i < s.size
    · have i1 : (i : Int) < (s.size : Int) := by omega
      have hbn := hbd.out.step hin
      have hle := hbn.le
      have hpos := wAt_pos s i hin
      have hdec := b5Dec_any s i
      have Hdec := Lib.hid hdec
      have Hbn := Lib.hid hbn
      clear hdec hbn
      go_wp2_with fail
      refine (Hdec.out _ hin hs).mono ?_
      rintro e w1 ⟨r, rfl, hb1⟩
      obtain ⟨d, hd⟩ : ∃ d, wAt s i = d := ⟨_, rfl⟩
      rw [hd] at Hbn hle hpos ⊢
      have hor1 := own_keep hor.out (w' := w1) (fun k hk => hb1.block k (by have := (hor.out.lt k hk).2; exact this))
      have hoo1 := own_keep hoo.out (w' := w1) (fun k hk => hb1.block k (by have := (hoo.out.lt k hk).2; exact this))
      have hbw1 : Below w.heap.size w w1 := hb.out.trans (hb1.mono hb.out.size)
      have d1 : IntKind.i64.wrap ((i : Int) + (d : Int)) = (i : Int) + (d : Int) := by rw [IntKind.wrap_i64]; omega
      have hrs : rs.length ≤ 1099511627776 := by omega
      have hls : l.length ≤ 1099511627776 := by omega
      have hsz1 := hbw1.size
      have Hor1 := Lib.hid hor1
      have Hoo1 := Lib.hid hoo1
      have Hbw1 := Lib.hid hbw1
      have Hrl := Lib.hid hrl
      have Hd := Lib.hid hd
      clear hor1 hoo1 hbw1 hrl hd hor hoo hb hb1
      go_wp2_with (first | (at_builtin; refine wpList_append_own_at _ rfl _ _ 30 rfl w.heap.size 21 ia _ 1 4 Hua.out Hia.out Hza.out Hsa.out Hba.out rfl (by decide) _ _ _ rfl (Hor1.out.alloc _) ⟨w1.heap.size, 0, none⟩ 1 1 [.int .i32 r] rfl rfl ?c1 ?c2 ?c3 ?c4 ?c5 ?_))
      case c1 =>
        intro j u hj
        match j, hj with
        | 0, hj => simp at hj; subst hj; simp [Addr.add]
        | j + 1, hj => simp at hj
      case c2 => intro u hu; simp at hu; subst hu; rfl
      case c3 => unfold maxLen; omega
      case c4 => omega
      case c5 => first | omega | (simp; omega)
      intro vr2 w2 hor2 hgr2 _ hblk2
      have hgr2' : ∀ k, k < w1.heap.size → u4.ownBlock ≠ some k → w2.heap[k]? = w1.heap[k]? := fun k hk hn => by
        rw [hgr2.block k (by simp; omega) (fun e => hn e.symm)]
        show (w1.heap.push _)[k]? = _
        rw [Array.getElem?_push, if_neg (by omega)]
      have hoo2 := own_keep Hoo1.out (w' := w2) (fun k hk => hgr2' k (Hoo1.out.lt k hk).2 (fun e => hdis.out k e hk))
      have hbw2 : Below w.heap.size w w2 := (Hbw1.out.alloc Hbw1.out.size _).grown hgr2 (by simp; omega) (fun g hgg => (Hor1.out.lt g hgg).1)
      have hdis2 : ∀ g, vr2.ownBlock = some g → u5.ownBlock ≠ some g := fun g h1 h2 => by
        rcases hblk2 with h | h
        · exact hdis.out g (h.symm.trans h1) h2
        · rw [h1] at h
          have := (Hoo1.out.lt g h2).2
          simp at h
          omega
      have hsz2 := hbw2.size
      have hrl2 : (rs ++ [Value.int .i32 r]).length = rs.length + 1 := by simp
      rw [← hrl2] at hor2
      have Hor2 := Lib.hid hor2
      have Hoo2 := Lib.hid hoo2
      have Hbw2 := Lib.hid hbw2
      have Hdis2 := Lib.hid hdis2
      have Hrl2 := Lib.hid hrl2
      clear hor2 hoo2 hbw2 hdis2 hgr2 hgr2' hblk2 Hor1 Hoo1 hdis hrl2
      go_wp2_with (first | (at_builtin; refine wpList_append_own_at _ rfl _ _ 31 rfl w.heap.size 3 ib _ 1 8 Hub.out Hib.out Hzb.out Hsb.out Hbb.out rfl (by decide) _ _ _ rfl (Hoo2.out.alloc _) ⟨w2.heap.size, 0, none⟩ 1 1 [.int .i64 i] rfl rfl ?e1 ?e2 ?e3 ?e4 ?e5 ?_))
      case e1 =>
        intro j u hj
        match j, hj with
        | 0, hj => simp at hj; subst hj; simp [Addr.add]
        | j + 1, hj => simp at hj
      case e2 => intro u hu; simp at hu; subst hu; rfl
      case e3 => unfold maxLen; omega
      case e4 => omega
      case e5 => first | omega | (simp; omega)
      intro vo3 w3 hoo3 hgr3 _ hblk3
      have hgr3' : ∀ k, k < w2.heap.size → u5.ownBlock ≠ some k → w3.heap[k]? = w2.heap[k]? := fun k hk hn => by
        rw [hgr3.block k (by simp; omega) (fun e => hn e.symm)]
        show (w2.heap.push _)[k]? = _
        rw [Array.getElem?_push, if_neg (by omega)]
      have hor3 := own_keep Hor2.out (w' := w3) (fun k hk => hgr3' k (Hor2.out.lt k hk).2 (Hdis2.out k hk))
      have hbw3 : Below w.heap.size w w3 := (Hbw2.out.alloc Hbw2.out.size _).grown hgr3 (by simp; omega) (fun g hgg => (Hoo2.out.lt g hgg).1)
      have hdis3 : ∀ g, vr2.ownBlock = some g → vo3.ownBlock ≠ some g := fun g h1 h2 => by
        rcases hblk3 with h | h
        · exact Hdis2.out g h1 (h.symm.trans h2)
        · rw [h2] at h
          have := (Hor2.out.lt g h1).2
          simp at h
          omega
      have hpc : placeCells (l ++ [i]) = placeCells l ++ [.int .i64 (i : Nat)] := by simp [placeCells]
      have hll : (l ++ [i]).length = l.length + 1 := by simp
      rw [← hpc, ← hll] at hoo3
      have hpl3 := hpl.out.snoc hbd.out
      have Hor3 := Lib.hid hor3
      have Hoo3 := Lib.hid hoo3
      have Hbw3 := Lib.hid hbw3
      have Hdis3 := Lib.hid hdis3
      have Hpl3 := Lib.hid hpl3
      have Hll := Lib.hid hll
      clear hor3 hoo3 hbw3 hdis3 hgr3 hgr3' hblk3 Hor2 Hoo2 Hdis2 Hbw2 hpc hll hpl3 hsz1 hsz2
      go_wp2_with fail
      go_roundg (s.size - i)
      case measure => omega
      case rel => exact ⟨i + d, rs ++ [.int .i32 r], l ++ [i], by go_num, Hor3, Hoo3, Hdis3, Hbw3, by rw [Hrl2.out, Hll.out, Hrl.out], Hpl3, Lib.hid (by rw [Hll.out]; exact Hbn.out), by rw [Hll.out]; omega, hle, by omega⟩
    · have i1 : ¬ (i : Int) < (s.size : Int) := by omega
      obtain rfl : i = s.size := by omega
      have hls : l.length ≤ 1099511627776 := by omega
      have hsz := hb.out.size
      go_wp2_with (first | (at_builtin; refine wpList_append_own_at _ rfl _ _ 31 rfl w.heap.size 3 ib _ 1 8 Hub.out Hib.out Hzb.out Hsb.out Hbb.out rfl (by decide) _ _ _ rfl (hoo.out.alloc _) ⟨wr.heap.size, 0, none⟩ 1 1 [.int .i64 s.size] rfl rfl ?e1 ?e2 ?e3 ?e4 ?e5 ?_))
      case e2 => first | rfl | (intro u hu; simp at hu; subst hu; rfl)
      case e3 => unfold maxLen; omega
      case e4 => omega
      case e5 => first | omega | (simp; omega)
      intro vo3 w3 hoo3 hgr3 _ hblk3
      have hgr3' : ∀ k, k < wr.heap.size → u5.ownBlock ≠ some k → w3.heap[k]? = wr.heap[k]? := fun k hk hn => by
        rw [hgr3.block k (by simp; omega) (fun e => hn e.symm)]
        show (wr.heap.push _)[k]? = _
        rw [Array.getElem?_push, if_neg (by omega)]
      have hor3 := own_keep hor.out (w' := w3) (fun k hk => hgr3' k (hor.out.lt k hk).2 (hdis.out k hk))
      have hbw3 : Below w.heap.size w w3 := (hb.out.alloc hb.out.size _).grown hgr3 (by simp; omega) (fun g hgg => (hoo.out.lt g hgg).1)
      have hpc : placeCells (l ++ [s.size]) = placeCells l ++ [.int .i64 (s.size : Nat)] := by simp [placeCells]
      have hll : (l ++ [s.size]).length = l.length + 1 := by simp
      rw [← hpc, ← hll] at hoo3
      have hpl3 := hpl.out.snoc hbd.out
      have hpost : DecodePost s w (.returned (.tuple #[u4, vo3])) w3 := ⟨u4, vo3, rs, l, rfl, hor3, hoo3, hrl, hpl3, hbw3⟩
      have Hpost := Lib.hid hpost
      clear hor3 hoo3 hbw3 hgr3 hgr3' hblk3 hpc hll hpl3 hpost
      go_wp2_with fail
      go_ret2
      exact Hpost.out

end Go.Proofs.YtlbmojpmfgihlaaFmt
