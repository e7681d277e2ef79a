/-
  Walk: (*strings.Builder).Write of a row of bytes that lies.
-/
import Derived.Test.YtdpdgppjeekcmaaFmtBuild
import Derived.Test.YtdpdgppjeekcmaaFmtBytes
import Derived.WalkKit
namespace Go.Proofs.YtdpdgppjeekcmaaFmt
open Go Go.Lib Go.RowKit Go.Proofs

theorem bytes_oneCell {l : List UInt8} : ∀ u ∈ byteCells l, u.oneCell' = true := by
  intro u hu
  unfold byteCells at hu
  obtain ⟨b, _, rfl⟩ := List.mem_map.1 hu
  rfl
theorem infoB : (Tryf.prog.info? 5).map (fun i => (i.zero, i.size, i.bytes)) = some (some (.int .u8 0), 1, 1) := by kernel_rfl

set_option maxHeartbeats 2000000 in
set_option maxRecDepth 100000 in
theorem builderWrite_any (B b K cap : Nat) (bs : List Value) (l : List UInt8) (w : World) (h : Lib.IsBuilder 90 5 B b bs w) (hne0 : 1 ≤ l.length) (hlen : bs.length + l.length ≤ 140737488355328) (hBw : B ≤ w.heap.size) (hK : K < B) (_hKb : K < w.heap.size)
    (hc : ∀ j u, (byteCells l)[j]? = some u → w.cell? ⟨K, j, none⟩ = some u) :
    Calls Tryf.prog 86 #[.pointer (some ⟨b, 0, none⟩), .slice (some ⟨K, 0, none⟩) l.length cap] w fun e w' => e = .returned (.tuple #[.int .i64 l.length, .nilIface]) ∧ (Lib.BuilderAt 90 5 B b (.pointer (some ⟨b, 0, none⟩)) (bs ++ byteCells l) w' ∧ Below B w w') := by
  obtain ⟨i0, hi, hz0, hz1, hz2⟩ := info_parts infoB
  have hu : Tryf.prog.underlying 46 = some (.slice 5) := by kernel_rfl
  have Hi := Lib.hid hi
  have Hz0 := Lib.hid hz0
  have Hz1 := Lib.hid hz1
  have Hz2 := Lib.hid hz2
  have Hu := Lib.hid hu
  have HC := Lib.hid hc
  clear hi hz0 hz1 hz2 hu hc
  go_enter Tryf.func86, Tryf.ntmps86
  go_wp2_with fail
  refine (Tryf.copyCheck_any B b bs w h).mono ?_
  rintro e w1 ⟨rfl, h1, hb1⟩
  obtain ⟨hB, v, hbk, hown, hne⟩ := h1
  have c0 : w1.cell? ⟨b, 0, none⟩ = some (.pointer (some ⟨b, 0, none⟩)) := by rw [Lib.cell_of_heap hbk]; rfl
  have c1 : w1.cell? ⟨b, 1, none⟩ = some v := by rw [Lib.cell_of_heap hbk]; rfl
  have Hbk := Lib.hid hbk
  clear hbk
  go_wp2_with (at_builtin; refine wpList_append_own _ rfl _ _ 46 rfl B 5 i0 (.int .u8 0) 1 1 Hu.out Hi.out Hz0.out Hz1.out Hz2.out rfl (by decide) _ _ _ rfl hown ⟨K, 0, none⟩ l.length cap (byteCells l) rfl (by simp [byteCells]) ?c1 bytes_oneCell ?c3 ?c4 ?c5 ?_)
  case c1 =>
    intro j u hj
    rw [addr_at, Nat.zero_add]
    have h2 := HC.out j u hj
    rw [← h2]
    unfold World.cell?
    rw [hb1.block K hK]
  case c3 => unfold maxLen; omega
  case c4 => omega
  case c5 => have := hb1.size; omega
  intro v' w2 hown' hgrow _
  have hlt : b < w1.heap.size := by
    rcases Nat.lt_or_ge b w1.heap.size with h' | h'
    · exact h'
    · have := Hbk.out; simp [Array.getElem?_eq_none h'] at this
  have hb2 : w2.heap[b]? = some (.cells #[.pointer (some ⟨b, 0, none⟩), v] 90 (0, 0)) := by
    rw [hgrow.block b (by omega) (fun e => hne e.symm)]
    exact Hbk.out
  have d0 : w2.cell? ⟨b, 0, none⟩ = some (.pointer (some ⟨b, 0, none⟩)) := by rw [Lib.cell_of_heap hb2]; rfl
  have d1 : w2.cell? ⟨b, 1, none⟩ = some v := by rw [Lib.cell_of_heap hb2]; rfl
  have f1 : w2.frozen? ⟨b, 1, none⟩ = false := Lib.frozen_of_heap hb2 1
  obtain ⟨g, cap2, rfl⟩ : ∃ g cap2, v' = .slice (some ⟨g, 0, none⟩) (bs.length + l.length) cap2 := by
    rcases hown'.2 with ⟨_, h0⟩ | ⟨g, cap2, cur, hv, _⟩
    · omega
    · exact ⟨g, cap2, hv⟩
  have Hb2 := Lib.hid hb2
  clear hb2
  go_wp2_with fail
  refine bodyPost_ret (v := .tuple #[.int .i64 l.length, .nilIface]) ?_ rfl ⟨rfl, ?_, ?_⟩
  · simp [results, Tryf.results86, go_sem]
  · exact Lib.BuilderAt.put (T := 90) (e := 5) hB Hb2.out (bs' := bs ++ byteCells l) (by simpa [byteCells] using hown') (by decide)
  · exact (hb1.grown hgrow (by have := hb1.size; omega) (fun k hk => (hown.lt k hk).1)).setCell (p := ⟨b, 1, none⟩) hB _

end Go.Proofs.YtdpdgppjeekcmaaFmt
