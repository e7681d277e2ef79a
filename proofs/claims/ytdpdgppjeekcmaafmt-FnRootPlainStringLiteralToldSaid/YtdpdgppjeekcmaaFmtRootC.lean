/-
  Walk: the state root at a raw string.
-/
import Derived.Test.YtdpdgppjeekcmaaFmtRootB
import Derived.Test.YtdpdgppjeekcmaaFmtRaw
namespace Go.Proofs.YtdpdgppjeekcmaaFmt
open Go Go.Lib Go.RowKit Go.Proofs
open Go.Extern.Stop Go.Stop Go.Extern

theorem scanRaw_end {s : ByteArray} {q : Int} {t : St} {F : Nat × Nat × Bool × St} (h : rawGo s q 0 0 (peek s t) (next s t) = F) : scanRaw s q t = (F.1, if F.2.2.1 then emitV kString (rawValue q F.2.1 (s.extract (F.2.2.2.sb + 1) (F.2.2.2.eb - 1))) F.2.2.2 else F.2.2.2) := by
  obtain ⟨n, e, b, t1⟩ := F
  unfold scanRaw
  rw [h]
  cases b <;> rfl

set_option maxHeartbeats 8000000 in
set_option maxRecDepth 100000 in
theorem root_q96 {F : Stop.Interp} {W0 w : World} {S : Nat → Prop} {L : Nat} {s : ByteArray} {t : St} (hF : F.answers W0.tape) (H : Lx W0 S w L s t) (hr : peek s t = 96) (hle : t.eb ≤ s.size) (hn : t.toks.length ≤ 9) (hsb : t.sb + 1 ≤ (next s t).eb) :
    Calls Tryf.prog 31 #[.pointer (some ⟨L, 0, none⟩)] w fun e w' => e = .returned (qVal (some .root)) ∧ Done W0 S w L s (scanRaw s 96 (next s t)).2 w' := by
  have A0 := Acc.refl S w
  have hlo := peek_lo s t
  have hhi := peek_hi s t
  have hsm := H.small
  have hps := H.poss
  have Hr := Lib.hid hr
  clear hr
  obtain ⟨G, hG⟩ : ∃ G, rawGo s 96 0 0 (peek s (next s t)) (next s (next s t)) = G := ⟨_, rfl⟩
  have hfin := scanRaw_end hG
  rw [hfin]
  obtain ⟨T, hT⟩ : ∃ T, (if G.2.2.1 then emitV kString (rawValue 96 G.2.1 (s.extract (G.2.2.2.sb + 1) (G.2.2.2.eb - 1))) G.2.2.2 else G.2.2.2) = T := ⟨_, rfl⟩
  dsimp only
  rw [hT]
  have HT := Lib.hid hT
  clear hT
  have hsb2 : (next s t).sb + 1 ≤ (next s t).eb := by rw [(reads_next s t).sb]; exact hsb
  have hn2 : (next s t).toks.length ≤ 9 := by rw [(reads_next s t).toks]; exact hn
  have hle2 := next_le hle
  have HG := Lib.hid hG
  have Hsb := Lib.hid hsb2
  have Hn := Lib.hid hn2
  clear hG hsb hsb2 hn2 hfin
  go_enter Tryf.func31, Tryf.ntmps31
  go_wp2_with fail
  refine (next_any H).mono ?_
  rintro e w1 ⟨rfl, S1, hS1, H1, hf1⟩
  have A1 := Acc.step A0 hS1 hf1
  rw [Hr.out]
  go_wp2_with fail
  refine (isSpace_any (H1).tabsAt 96 (by omega) (by omega)).mono ?_
  rintro e w' ⟨rfl, xs2, d2, rfl⟩
  have H2 := H1.keep (grow_below w1 xs2 d2)
  have A2 := Acc.below A1 (grow_below w1 xs2 d2)
  obtain ⟨w2, hw2⟩ : ∃ x, x = grow w1 xs2 d2 := ⟨_, rfl⟩
  rw [← hw2] at H2 A2 ⊢
  clear hw2
  rw [show isSpaceZ 96 = false from by decide]
  go_wp2_with fail
  refine (scanRaw_walk hF H2 96 (by decide) hle2 Hn.out Hsb.out G HG.out).mono ?_
  rintro e w3 ⟨rfl, S3, hS3, H3, hf3⟩
  rw [HT.out] at H3
  have A3 := Acc.step A2 hS3 hf3
  go_wp2_with fail
  go_ret
  exact ⟨rfl, A3.done H3⟩

end Go.Proofs.YtdpdgppjeekcmaaFmt
