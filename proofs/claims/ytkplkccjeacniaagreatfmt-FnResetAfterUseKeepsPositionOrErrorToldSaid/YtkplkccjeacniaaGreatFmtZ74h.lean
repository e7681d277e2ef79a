/-
  Walks of what the laws of n003_74 call: a zero token, an end token among others.
-/
import Derived.Test.YtkplkccjeacniaaGreatFmtJG
namespace Go.Proofs.YtkplkccjeacniaaGreatFmt
open Go Go.Lib Go.RowKit Go.Proofs
open Go.Extern.Stop Go.Stop Go.Extern

set_option maxRecDepth 100000 in
theorem zzIsZero_any (w : World) : Calls Tryz.prog 18 #[zeroTok] w fun e w' => e = .returned (.bool true) ∧ Below w.heap.size w w' := by
  unfold zeroTok
  go_enter Tryz.func18, Tryz.ntmps18
  go_wp2_with fail
  go_ret
  exact ⟨rfl, (by repeat (first | exact Below.refl _ _ | apply below_drew | apply below_drewN | apply below_alloc | apply below_grow))⟩

set_option maxHeartbeats 4000000 in
set_option maxRecDepth 100000 in
theorem zzHasEOF_no (l : List Tok) (hl : l.length ≤ 1099511627776) (hk : ∀ k ∈ l, k.kind ≠ kEOF) (gv : Value) (base : Nat) (w : World) (hown : w.ownsRow base 43 4 gv l.length (l.flatMap tokCells)) :
    Calls Tryz.prog 15 #[gv] w fun e w' => e = .returned (.bool false) ∧ Below w.heap.size w w' := by
  obtain ⟨n, hn⟩ : ∃ n, l.length = n := ⟨_, rfl⟩
  have hrow : 0 < n → RowAt w gv n (l.flatMap tokCells) := fun h => by rw [← hn]; exact RowAt.owned hown (by omega)
  have hshape : ∃ a c, gv = .slice a n c := by
    obtain ⟨_, ⟨rfl, h⟩ | ⟨g, cap, cur, rfl, _⟩⟩ := hown
    · exact ⟨none, 0, by rw [← hn, h]⟩
    · exact ⟨_, cap, by rw [hn]⟩
  obtain ⟨a, c, rfl⟩ := hshape
  rw [hn] at hl
  have Hrow := Lib.hid hrow
  have Hn := Lib.hid hn
  have Hk := Lib.hid hk
  clear hrow hown hn hk
  go_enter Tryz.func15, Tryz.ntmps15
  go_wp2_with fail
  go_loopg [3] (n + 1) (fun g iv wr => ∃ i : Nat, iv = .int .i64 (i : Nat) ∧ Hid (Below w.heap.size w wr) ∧ i ≤ n ∧ n - i < g)
  case atStart => exact ⟨0, rfl, Lib.hid (Below.refl _ _), Nat.zero_le _, by omega⟩
  case round =>
    obtain ⟨i, rfl, hb, hi', hgk⟩ := hrel
    by_cases hin : i < n
    · have j0 : (0 : Int) ≤ (i : Int) := by omega
      have j1 : (i : Int) < (n : Int) := by omega
      have hil : i < l.length := by have := Hn.out; omega
      obtain ⟨ga, gc, hga, hgl, hgr⟩ := Hrow.out (by omega)
      cases hga
      obtain ⟨k, hk⟩ : ∃ k, k = l[i]'hil := ⟨_, rfl⟩
      have g2 : wr.cell? ⟨ga, i * 4 + 2, none⟩ = some (.string k.kind) := by
        rw [hb.out.cell hgl]
        exact hgr _ _ (by rw [flat_at tokCells (fun _ => rfl) l i hil 2 (by decide), ← hk]; rfl)
      have a0 : ga < wr.heap.size := Nat.lt_of_lt_of_le hgl hb.out.size
      have hne : (k.kind.toList == [69, 79, 70]) = false := str_ne (v := k.kind) (fun e => Hk.out k (by rw [hk]; exact List.getElem_mem hil) (by rw [e]; rfl))
      have Hk2 := Lib.hid hk
      clear hk hgr
      go_wp2_with fail
      go_roundg (n - i)
      case measure => omega
      case rel => exact ⟨i + 1, by go_num, Lib.hid (by repeat (first | exact hb.out | apply below_drew | apply below_drewN | apply below_alloc | apply below_grow)), by omega, by omega⟩
    · have j1 : ¬ (i : Int) < (n : Int) := by omega
      go_wp2_with fail
      go_ret
      exact ⟨rfl, (by repeat (first | exact hb.out | apply below_drew | apply below_drewN | apply below_alloc | apply below_grow))⟩

end Go.Proofs.YtkplkccjeacniaaGreatFmt
