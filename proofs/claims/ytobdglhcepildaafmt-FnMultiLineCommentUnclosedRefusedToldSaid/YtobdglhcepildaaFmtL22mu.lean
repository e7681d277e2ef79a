/-
  Walk of a law of n003_22: an unclosed comment is refused.
-/
import Derived.Test.YtobdglhcepildaaFmtZ22
namespace Go.Proofs.YtobdglhcepildaaFmt
open Go Go.Lib Go.RowKit Go.Proofs
open Go.Extern.Stop Go.Stop Go.Extern

set_option maxRecDepth 100000 in
theorem zzBytes_MU (c : ByteArray) (w : World) (wc : c.size ≤ maxLen) : Calls Tryf.prog 6 #[.string c] w (Says (fun _ => True) w) := by
  unfold maxLen at wc
  by_cases z0 : (1048576 : Int) < (c.size : Int)
  · go_enter Tryf.func6, Tryf.ntmps6
    go_wp2_with fail
    go_ret
    exact says_ret trivial
  · go_enter Tryf.func6, Tryf.ntmps6
    go_wp2_with fail
    go_ret
    exact says_ret trivial

set_option maxHeartbeats 2000000 in
set_option maxRecDepth 100000 in
theorem MU_walk {W : World} (hT : Tabs W) (F : Stop.Interp) (hF : F.answers W.tape) (c : ByteArray) (wc : c.size ≤ maxLen) :
    Calls Tryf.prog 3 #[.string c] W fun e w' => e = .returned (.bool true) ∧ Below W.heap.size W w' := by
  have hz := zzBytes_MU c W wc
  have Hz := Lib.hid hz
  clear hz
  by_cases z0 : (65536 : Int) < (c.size : Int)
  · go_enter Tryf.func3, Tryf.ntmps3
    go_wp2_with fail
    refine Hz.out.mono ?_
    rintro e w' ⟨b, rfl, _, rfl⟩
    cases b
    · go_wp2_with fail
      go_ret
      exact ⟨rfl, Below.refl _ _⟩
    · go_wp2_with fail
      go_ret
      exact ⟨rfl, Below.refl _ _⟩
  · have hh := zzHasCloser_any c (by omega) W
    have Hh := Lib.hid hh
    clear hh
    obtain ⟨S, hS⟩ : ∃ S : ByteArray, S = openML ++ c := ⟨_, rfl⟩
    have hcat : (⟨#[47, 42]⟩ : ByteArray) ++ c = S := hS.symm
    have hsz : S.size = c.size + 2 := by rw [hS, ByteArray.size_append]; show 2 + c.size = _; omega
    have hSs : S.size ≤ 1099511627776 := by omega
    have hmx : 2 + c.size ≤ 65538 := by omega
    have q0 : ∀ E wr, Sem.run Tryf.prog (binOp BinOp.neq 25 (.iface 56 (.pointer (some ⟨E, 0, none⟩))) Value.nilIface) wr = .ok (.bool true) wr := fun _ _ => by kernel_rfl
    have q1 : ∀ wr, Sem.run Tryf.prog (binOp BinOp.eql 23 (.slice none 0 0) (.slice none 0 0)) wr = .ok (.bool true) wr := fun _ => by kernel_rfl
    have HS := Lib.hid hS
    clear hS
    go_enter Tryf.func3, Tryf.ntmps3
    go_wp2_with fail
    refine Hz.out.mono ?_
    rintro e w' ⟨b, rfl, _, rfl⟩
    cases b
    · go_wp2_with fail
      go_ret
      exact ⟨rfl, Below.refl _ _⟩
    · go_wp2_with fail
      refine Hh.out.mono ?_
      rintro e w' ⟨b, rfl, hno, rfl⟩
      cases b
      · obtain ⟨u, hu, hne⟩ := multi_refused (hno rfl)
        rw [← HS.out] at hu
        clear hno
        have hlex := fun (w : World) (hl : Below W.heap.size W w) => lex_out hF hT hl hSs hu (by decide)
        have Hlex := Lib.hid hlex
        clear hu hlex
        go_wp2_with fail
        refine (newSource_any S _).mono ?_
        rintro e w' ⟨rfl, xs, d, rfl⟩
        go_wp2_with fail
        refine (Hlex.out _ (by repeat (first | exact Below.refl _ _ | apply below_drew | apply below_drewN | apply below_alloc | apply below_grow))).mono ?_
        rintro e w2 ⟨hb, ⟨h, _⟩ | ⟨_, E, rfl⟩⟩
        · exact absurd h hne
        · have hb2 : Below W.heap.size W w2 := Below.trans (by repeat (first | exact Below.refl _ _ | apply below_drew | apply below_drewN | apply below_alloc | apply below_grow)) (hb.mono (by first | exact grow_size _ _ _ | simp))
          go_wp2_with fail
          go_ret
          exact ⟨rfl, hb2⟩
      · go_wp2_with fail
        go_ret
        exact ⟨rfl, Below.refl _ _⟩

end Go.Proofs.YtobdglhcepildaaFmt
