/-
  What follows an accepted quoted text changes nothing: the plain law. No program stands in this text.
-/
import Derived.Test.YtdpdgppjeekcmaaFmtSim
import Derived.Test.YtdpdgppjeekcmaaFmtPure
import Derived.Test.YtdpdgppjeekcmaaFmtSteps
namespace Go.Proofs.YtdpdgppjeekcmaaFmt
open Go Go.Lib

theorem byt_left {A B : ByteArray} {k : Nat} (h : k < A.size) : byt (A ++ B) k = byt A k := by
  rw [byt_of (s := A ++ B) (k := k) (by rw [ByteArray.size_append]; omega), byt_of h]
  congr 1
  exact ByteArray.getElem_append_left h

theorem ign_main (A rest : ByteArray) (q : Nat) (hq8 : q < 128) (hq : (q : Int) ≠ -1) (h0 : 0 < A.size) (hA : byt A 0 = q) (n : Nat) (t1 : St) (h : scanString A q hq (next A start) = (n, t1)) (he : t1.err = none) :
    2 ≤ t1.eb ∧ t1.eb ≤ A.size ∧ byt A (t1.eb - 1) = q ∧ n + 2 ≤ t1.eb ∧ t1.er ≤ t1.eb ∧ scanString (A.extract 0 t1.eb ++ rest) q hq (next (A.extract 0 t1.eb ++ rest) start) = (n, t1) := by
  have hd0 := dec1 (s := A) (i := 0) (by omega)
  have hp0 : peek A start = q := by
    unfold peek
    rw [if_pos (show start.eb < A.size from h0)]
    rw [← hA]
    exact hd0.1
  have hn0 : (next A start).eb = 1 := by
    rw [next_in (show start.eb < A.size from h0)]
    show 0 + wAt A 0 = 1
    omega
  have hsc := scan_string A q hq (next A start)
  rw [h] at hsc
  have hed : Edge A (next A start) := Edge.next ⟨Bd.zero, (fun e => by cases e)⟩
  have hB := hsc.edge hed
  have hle : t1.eb ≤ A.size := hsc.le (next_le (Nat.zero_le _))
  have her := hB.bd.n_le
  obtain ⟨t0, ht0⟩ : ∃ t0, next A start = t0 := ⟨_, rfl⟩
  have h' := h
  rw [ht0] at h hn0
  unfold scanString at h
  have hp : peek A t0 ≠ -1 := by
    intro hh
    rw [hh] at h
    have := str_m1 (s := A) (quote := q) (hq := hq) (n := 0) (t := next A t0)
    rw [h] at this
    exact this he
  obtain ⟨i1, i2, i3⟩ := str_said A q hq (togo A (peek A t0) (next A t0) + 1) 0 _ _ (Nat.lt_succ_self _) (last_next A t0) (by rw [h]; exact he)
  rw [h] at i1 i2 i3
  dsimp only at i1 i2 i3
  have hg := next_gt (peek_lt hp)
  have h2 : 2 ≤ t1.eb := by omega
  have hlast : byt A (t1.eb - 1) = q := by
    rcases i1 with e | ⟨i, hi, hw, hr⟩
    · exact absurd e hq
    · have h8 : byt A i < 128 := by
        rcases Nat.lt_or_ge (byt A i) 128 with h | h
        · exact h
        · have := rAt_high hi (by rw [← byt_of hi]; exact h)
          omega
      have hd := dec1 h8
      have : i = t1.eb - 1 := by omega
      rw [← this]
      have := hd.1
      omega
  refine ⟨h2, hle, hlast, by omega, her, ?_⟩
  have hH : Head A (A.extract 0 t1.eb ++ rest) t1.eb := by
    have hsz : (A.extract 0 t1.eb).size = t1.eb := by rw [ByteArray.size_extract]; omega
    refine ⟨hle, by rw [ByteArray.size_append]; omega, fun k hk => ?_, by omega⟩
    rw [byt_left (by omega), byt_take hk hle]
  have hx := hH.next (t := start) (by rw [hp0]; omega) (by rw [ht0]; omega)
  rw [hx.2, ht0]
  have hy := hH.next (t := t0) hp (by omega)
  unfold scanString
  rw [hy.1, hy.2, i3 _ _ hH (Nat.le_refl _)]

end Go.Proofs.YtdpdgppjeekcmaaFmt
