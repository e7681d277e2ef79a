/-
  Walks: runeCount and byteOffset of n003_66.
-/
import Derived.Test.YtoopnllpocioiaaGreatFmtZ66
namespace Go.Proofs.YtoopnllpocioiaaGreatFmt
open Go Go.Lib Go.RowKit Go.Proofs

set_option maxRecDepth 100000 in
theorem runeCount_any (s : ByteArray) (w : World) (hs : s.size ≤ 1048576) :
    Calls Tryz.prog 12 #[.string s] w fun e w' => e = .returned (.int .i64 (runes s)) ∧ Below w.heap.size w w' := by
  obtain ⟨N, hN⟩ : ∃ n, runes s = n := ⟨_, rfl⟩
  rw [hN]
  have HN := Lib.hid hN
  clear hN
  go_enter Tryz.func12, Tryz.ntmps12
  go_wp2_with fail
  go_loopg [3] s.size (fun g n wr => ∃ j : Nat, n = .int .i64 j ∧ wr.heap[w.heap.size]? = some (.stringIter s (offs s j)) ∧ Below w.heap.size w wr ∧ Hid (j = cnts s j) ∧ s.size ≤ offs s j + g ∧ j ≤ 1048576)
  case atStart => exact ⟨0, rfl, World.iter_heap w s 0, Below.alloc (Below.refl _ _) (Nat.le_refl _) _, Lib.hid rfl, by omega, by omega⟩
  case round =>
    obtain ⟨j, rfl, hit, hbw, hcn, hfu, hj⟩ := hrel
    have hsz : w.heap.size < wr.heap.size := (Array.getElem?_eq_some_iff.1 hit).1
    by_cases hp : offs s j < s.size
    · have hnx : ∀ ty, (Instr.next (.pointer (some ⟨w.heap.size, 0, none⟩)) true ty).run Tryz.prog wr = _ := fun ty => Lib.run_next_any_at wr w.heap.size s (offs s j) ty hit hp
      have hbw2 := Lib.below_iterAt hbw (k := w.heap.size) (Nat.le_refl _) s (offs s j + (Utf8.decode s (offs s j)).2)
      have hit2 := Lib.iterAt_heap wr w.heap.size s (offs s j) (offs s j + (Utf8.decode s (offs s j)).2) hit
      have hwd := wAt_pos s (offs s j) hp
      have hgt := offs_gt s j hp
      obtain ⟨g', rfl⟩ : ∃ g', gk = g' + 1 := ⟨gk - 1, by omega⟩
      have hj2 : j + 1 ≤ s.size := by
        have h1 := offs_le s (j + 1)
        by_cases hjs : j < s.size
        · omega
        · exfalso
          have := offs_mono s s.size (j - s.size)
          rw [offs_all, show s.size + (j - s.size) = j by omega] at this
          omega
      have hcn2 : Hid (j + 1 = cnts s (j + 1)) := by
        refine Lib.hid ?_
        unfold cnts
        rw [nextN_snoc, next_in hp]
        show j + 1 = (nextN s j start).er + 1
        have := hcn.out
        unfold cnts at this
        omega
      have Hgt := Lib.hid hgt
      clear hgt
      go_wp2_with fail
      go_roundg g'
      case measure => omega
      case rel =>
        refine ⟨j + 1, by go_num, ?_, hbw2, hcn2, ?_, by omega⟩
        · rw [Hgt.out]; exact hit2
        · rw [Hgt.out]; omega
    · have hnx : ∀ ty, (Instr.next (.pointer (some ⟨w.heap.size, 0, none⟩)) true ty).run Tryz.prog wr = _ := fun ty => Lib.run_next_end_at wr w.heap.size s (offs s j) ty hit hp
      have hfin : N = j := by rw [← HN.out, ← cnts_all s j hp]; exact hcn.out.symm
      subst hfin
      go_wp2_with fail
      go_ret
      exact ⟨rfl, hbw⟩

set_option maxRecDepth 100000 in
theorem byteOffset_any (s : ByteArray) (i : Nat) (w : World) (hs : s.size ≤ 1048576) :
    Calls Tryz.prog 14 #[.string s, .int .i64 i] w fun e w' => e = .returned (.int .i64 (offs s i)) ∧ Below w.heap.size w w' := by
  obtain ⟨N, hN⟩ : ∃ n, offs s i = n := ⟨_, rfl⟩
  rw [hN]
  have HN := Lib.hid hN
  clear hN
  go_enter Tryz.func14, Tryz.ntmps14
  go_wp2_with fail
  go_loopg [5] s.size (fun g n wr => ∃ j : Nat, n = .int .i64 j ∧ wr.heap[w.heap.size]? = some (.stringIter s (offs s j)) ∧ Below w.heap.size w wr ∧ s.size ≤ offs s j + g ∧ j ≤ i ∧ j ≤ 1048576)
  case atStart => exact ⟨0, rfl, World.iter_heap w s 0, Below.alloc (Below.refl _ _) (Nat.le_refl _) _, by omega, by omega, by omega⟩
  case round =>
    obtain ⟨j, rfl, hit, hbw, hfu, hji, hj⟩ := hrel
    have hsz : w.heap.size < wr.heap.size := (Array.getElem?_eq_some_iff.1 hit).1
    by_cases hp : offs s j < s.size
    · have hnx : ∀ ty, (Instr.next (.pointer (some ⟨w.heap.size, 0, none⟩)) true ty).run Tryz.prog wr = _ := fun ty => Lib.run_next_any_at wr w.heap.size s (offs s j) ty hit hp
      have hbw2 := Lib.below_iterAt hbw (k := w.heap.size) (Nat.le_refl _) s (offs s j + (Utf8.decode s (offs s j)).2)
      have hit2 := Lib.iterAt_heap wr w.heap.size s (offs s j) (offs s j + (Utf8.decode s (offs s j)).2) hit
      have hwd := wAt_pos s (offs s j) hp
      have hgt := offs_gt s j hp
      obtain ⟨g', rfl⟩ : ∃ g', gk = g' + 1 := ⟨gk - 1, by omega⟩
      have hj2 : j + 1 ≤ s.size := by
        have h1 := offs_le s (j + 1)
        by_cases hjs : j < s.size
        · omega
        · exfalso
          have := offs_mono s s.size (j - s.size)
          rw [offs_all, show s.size + (j - s.size) = j by omega] at this
          omega
      by_cases hij : j = i
      · subst hij
        have d1 : ((j : Int) == (j : Int)) = true := by simp
        have hfin := HN.out
        subst hfin
        have Hgt := Lib.hid hgt
        clear hgt
        go_wp2_with fail
        go_ret
        exact ⟨rfl, hbw2⟩
      · have d1 : ((j : Int) == (i : Int)) = false := by simp; omega
        have d2 : ¬ ((j : Int) = (i : Int)) := by omega
        have Hgt := Lib.hid hgt
        clear hgt
        go_wp2_with fail
        go_roundg g'
        case measure => omega
        case rel =>
          refine ⟨j + 1, by go_num, ?_, hbw2, ?_, by omega, by omega⟩
          · rw [Hgt.out]; exact hit2
          · rw [Hgt.out]; omega
    · have hnx : ∀ ty, (Instr.next (.pointer (some ⟨w.heap.size, 0, none⟩)) true ty).run Tryz.prog wr = _ := fun ty => Lib.run_next_end_at wr w.heap.size s (offs s j) ty hit hp
      have hfin : s.size = N := by
        rw [← HN.out]
        have := (offs_end s j hp (i - j)).1
        rw [show j + (i - j) = i by omega] at this
        exact this.symm
      subst hfin
      go_wp2_with fail
      go_ret
      exact ⟨rfl, hbw⟩

end Go.Proofs.YtoopnllpocioiaaGreatFmt
