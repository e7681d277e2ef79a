/-
  Walk of a law of n003_49: an escape reads ten runes at most.
-/
import Derived.Test.YtlbmojpmfgihlaaFmtZ49e
import Derived.Test.YtlbmojpmfgihlaaFmtZ49d
namespace Go.Proofs.YtlbmojpmfgihlaaFmt
open Go Go.Lib Go.RowKit Go.Proofs
open Go.Extern.Stop Go.Stop Go.Extern

def SaysB (w : World) (e : Ending) (w' : World) : Prop := ∃ b, e = .returned (.bool b) ∧ w = w'

set_option maxRecDepth 100000 in
theorem zzBytes_SE (a b : ByteArray) (q : Int) (w : World) (wa : a.size ≤ maxLen) (wb : b.size ≤ maxLen) : Calls Tryf.prog 12 #[.string a, .string b, .int .i32 q] w (SaysB w) := by
  unfold maxLen at wa wb
  by_cases z0 : (1048576 : Int) < (a.size : Int)
  · go_enter Tryf.func12, Tryf.ntmps12
    go_wp2_with fail
    go_ret
    exact ⟨_, rfl, rfl⟩
  by_cases z1 : (1048576 : Int) < (b.size : Int)
  · go_enter Tryf.func12, Tryf.ntmps12
    go_wp2_with fail
    go_ret
    exact ⟨_, rfl, rfl⟩
  by_cases z2 : (1048576 : Int) < (a.size : Int) + (b.size : Int)
  · go_enter Tryf.func12, Tryf.ntmps12
    go_wp2_with fail
    go_ret
    exact ⟨_, rfl, rfl⟩
  · go_enter Tryf.func12, Tryf.ntmps12
    go_wp2_with fail
    go_ret
    exact ⟨_, rfl, rfl⟩

set_option maxHeartbeats 8000000 in
set_option maxRecDepth 100000 in
theorem SE_walk {W : World} (hT : Tabs W) (F : Stop.Interp) (hF : F.answers W.tape) (s t : ByteArray) (quote : Int) (ws : s.size ≤ maxLen) (wt : t.size ≤ maxLen) (hq0 : -2147483648 ≤ quote) (hq1 : quote ≤ 2147483647) :
    Calls Tryf.prog 4 #[.string s, .string t, .int .i32 quote] W fun e w' => e = .returned (.bool true) ∧ Below W.heap.size W w' := by
  have hz := zzBytes_SE s t quote W ws wt
  have Hz := Lib.hid hz
  clear hz
  by_cases c0 : (65536 : Int) < (s.size : Int)
  · go_enter Tryf.func4, Tryf.ntmps4
    go_wp2_with fail
    refine (Hz.out).mono ?_
    rintro e w' ⟨b, rfl, rfl⟩
    cases b
    · go_wp2_with fail
      go_ret
      exact ⟨rfl, Below.refl _ _⟩
    · go_wp2_with fail
      go_ret
      exact ⟨rfl, Below.refl _ _⟩
  by_cases c1 : (65536 : Int) < (t.size : Int)
  · go_enter Tryf.func4, Tryf.ntmps4
    go_wp2_with fail
    refine (Hz.out).mono ?_
    rintro e w' ⟨b, rfl, rfl⟩
    cases b
    · go_wp2_with fail
      go_ret
      exact ⟨rfl, Below.refl _ _⟩
    · go_wp2_with fail
      go_ret
      exact ⟨rfl, Below.refl _ _⟩
  have hs : s.size ≤ 1099511627776 := by omega
  obtain ⟨S, hS⟩ : ∃ S, s ++ t = S := ⟨_, rfl⟩
  have hSs : S.size = s.size + t.size := by rw [← hS, ByteArray.size_append]
  have hSl : S.size ≤ 1099511627776 := by omega
  have hmx : s.size + t.size ≤ 131072 := by omega
  go_enter Tryf.func4, Tryf.ntmps4
  go_wp2_with fail
  refine Hz.out.mono ?_
  rintro e w' ⟨b, rfl, rfl⟩
  cases b
  · go_wp2_with fail
    go_ret
    exact ⟨rfl, Below.refl _ _⟩
  go_wp2_with fail
  refine (b5Decode_any s hs W).mono ?_
  rintro e w0 ⟨vr, vo, rs, l, rfl, hor, hoo, hrl, hpl, hb0⟩
  obtain ⟨M, hM⟩ : ∃ M, (l ++ [s.size]).length = M := ⟨_, rfl⟩
  have hM0 : 0 < M := by rw [← hM]; simp
  have hrow : ∃ g cap, vo = .slice (some ⟨g, 0, none⟩) M cap ∧ g < w0.heap.size ∧ ∀ j u, (placeCells (l ++ [s.size]))[j]? = some u → w0.cell? ⟨g, j, none⟩ = some u := by
    have h2 := hoo
    obtain ⟨_, ⟨rfl, h⟩ | ⟨g, cap, cur, rfl, _⟩⟩ := hoo
    · omega
    · exact ⟨g, cap, by rw [hM], (h2.lt g rfl).2, fun j u hj => by have := h2.cells (g := g) rfl j u hj; rwa [addr_add, Nat.zero_add] at this⟩
  obtain ⟨g, cap, rfl, hgl, hcells⟩ := hrow
  have Hb0 := Lib.hid hb0
  have Hpl := Lib.hid hpl
  have HM := Lib.hid hM
  have Hcells := Lib.hid hcells
  clear hor hoo hrl hb0 hpl hM hcells
  by_cases hm11 : M < 11
  · have i11 : (M : Int) < 11 := by omega
    go_wp2_with fail
    go_ret
    exact ⟨rfl, Hb0.out⟩
  have i11 : ¬ (M : Int) < 11 := by omega
  have i10 : (10 : Int) < (M : Int) := by omega
  have hil : 10 < (l ++ [s.size]).length := by rw [HM.out]; omega
  obtain ⟨p, hp⟩ : ∃ p, p = (l ++ [s.size])[10]'hil := ⟨_, rfl⟩
  have hbd : Bd s p 10 := by rw [hp]; exact Hpl.out 10 hil
  have hple := hbd.le
  have hc10 : w0.cell? ⟨g, 10, none⟩ = some (.int .i64 (p : Nat)) := Hcells.out 10 _ (by
    unfold placeCells
    rw [List.getElem?_map, List.getElem?_eq_getElem hil, ← hp]; rfl)
  have Hbd := Lib.hid hbd
  clear hbd hp
  by_cases hp3 : (s.size : Int) < (p : Int) + 3
  · go_wp2_with fail
    go_ret
    exact ⟨rfl, Hb0.out⟩
  have halike := alike_ten t Hbd.out (by omega)
  rw [hS] at halike
  obtain ⟨hesc, her⟩ := halike.escape quote
  obtain ⟨r, t1, hr⟩ : ∃ r t1, scanEscape s quote start = (r, t1) := ⟨_, _, rfl⟩
  rw [hr] at hesc her
  have her2 : ¬ (10 : Int) < (t1.er : Int) := by change t1.er ≤ 10 at her; omega
  have Hesc := Lib.hid hesc
  have Hr := Lib.hid hr
  clear halike hesc her hr
  go_wp2_with fail
  refine (znew_any hT Hb0.out s hs).mono ?_
  rintro e w1 ⟨L1, S1, rfl, hS1, H1, hb1⟩
  have hbw1 : Below W.heap.size W w1 := Hb0.out.trans (hb1.mono Hb0.out.size)
  have hS1w : ∀ k, S1 k → W.heap.size ≤ k := fun k hk => Nat.le_trans Hb0.out.size (hS1 k hk)
  have Hbw1 := Lib.hid hbw1
  have HS1 := Lib.hid hS1w
  clear hbw1 hS1w hb1 hS1
  go_wp2_with fail
  refine (zscanEscape_any hF H1 quote).mono ?_
  rintro e w2 ⟨rfl, S2, hS2, H2, hf2⟩
  rw [Hr.out] at H2
  rw [Hr.out]
  have hbw2 : Below W.heap.size W w2 := Hbw1.out.trans (hf2.below HS1.out Hbw1.out.size)
  have Hbw2 := Lib.hid hbw2
  clear hbw2 hf2 hS2 H1 HS1 Hbw1
  go_wp2_with fail
  refine (znew_any hT Hbw2.out S hSl).mono ?_
  rintro e w4 ⟨L4, S4, rfl, hS4, H4, hb4⟩
  have hbw4 : Below W.heap.size W w4 := Hbw2.out.trans (hb4.mono Hbw2.out.size)
  have H3' := H2.keep hb4
  have hdis : ∀ k, S2 k → ¬ S4 k := fun k h2 h4 => by have := H2.lt k h2; have := hS4 k h4; omega
  have Hbw4 := Lib.hid hbw4
  have Hdis := Lib.hid hdis
  clear hbw4 hb4 H2 hdis
  go_wp2_with fail
  refine (zscanEscape_any hF H4 quote).mono ?_
  rintro e w5 ⟨rfl, S5, hS5, H5, hf5⟩
  rw [Hesc.out] at H5
  rw [Hesc.out]
  have hbw5 : Below W.heap.size W w5 := Hbw4.out.trans (hf5.below (fun k hk => Nat.le_trans Hbw2.out.size (hS4 k hk)) Hbw4.out.size)
  have H6 := H3'.keepFr hf5 (fun k h2 h4 => Hdis.out k h2 h4) (fun k hk => Nat.le_trans Hbw2.out.size (hS4 k hk))
  have hsame : SameAt w5 L1 L4 := ⟨W, S2, S5, s, S, t1, t1, H6, H5, rfl, rfl, rfl, rfl⟩
  have hrr : (r == r) = true := by simp
  have Hsame := Lib.hid hsame
  have Hbw5 := Lib.hid hbw5
  clear hsame hbw5 hf5 hS5 H5 H4 H3' Hdis Hbw4 hS4 Hbw2
  go_wp2_with fail
  refine (zendRune_any H6).mono ?_
  rintro e w' ⟨rfl, rfl⟩
  go_wp2_with fail
  refine (sameState_any Hsame.out).mono ?_
  rintro e w6 ⟨rfl, hb6⟩
  go_wp2_with fail
  go_ret
  exact ⟨rfl, Hbw5.out.trans (hb6.mono Hbw5.out.size)⟩

end Go.Proofs.YtlbmojpmfgihlaaFmt
