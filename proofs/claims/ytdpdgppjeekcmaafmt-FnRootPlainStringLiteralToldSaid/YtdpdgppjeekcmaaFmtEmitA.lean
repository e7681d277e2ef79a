/-
  Walks: emitValue, emit, emitEOF.
-/
import Derived.Test.YtdpdgppjeekcmaaFmtJD
import Derived.Test.YtdpdgppjeekcmaaFmtNew
import Derived.Test.YtdpdgppjeekcmaaFmtRing2
import Derived.Deep.RegionHeld3
namespace Go.Proofs.YtdpdgppjeekcmaaFmt
open Go Go.Lib Go.RowKit Go.Proofs

theorem RDone.lex {S : Nat → Prop} {R L : Nat} {toks : List Tok} {w w' : World} {c : Array Value} (h : RDone S R toks w w') (hc : w.heap[L]? = some (.cells c 61 (0, 0))) (hR : R ≠ L) : w'.heap[L]? = some (.cells c 61 (0, 0)) := by
  obtain ⟨S', _, _, _, hf, _⟩ := h
  exact hf.lex hc hR

set_option maxHeartbeats 1000000 in
set_option maxRecDepth 100000 in
theorem emitValue_any {W0 w : World} {S : Nat → Prop} {L : Nat} {s : ByteArray} {t : St} (H : Lx W0 S w L s t) (hn : t.toks.length ≤ 9) (k v : ByteArray) :
    Calls Tryf.prog 51 #[.pointer (some ⟨L, 0, none⟩), .string k, .string v] w fun e w' => e = .returned (.tuple #[]) ∧ Done W0 S w L s (emitV k v t) w' := by
  obtain ⟨R, ev, hL, hR, hc, hr, he, l0, c0, c1, c2, c3, c4, c5, c6, c7, c8, c9, fz⟩ := H.opened
  have hsm := H.small
  obtain ⟨p1, p2, p3, p4⟩ := H.poss
  have p5 : t.er ≤ 1099511627776 := by omega
  have l1 : L < w.heap.size + 1 := by omega
  have l2 : L < w.heap.size + 1 + 1 := by omega
  have l3 : L < w.heap.size + 1 + 1 + 1 := by omega
  have hRL := hr.ne hc.out
  have ho : OnlyL L 61 (cellsL s R ev t) w w.drew := (OnlyL.refl hc.out).drew
  have hr1 : RingW S w.drew R t.toks := hr
  have hlt1 : ∀ k, S k → k < w.drew.heap.size := H.lt
  go_enter Tryf.func51, Tryf.ntmps51
  go_wp2_with fail
  go_region_held3 (fun w' => w'.cell? ⟨L, 2, none⟩ = some (.pointer (some ⟨R, 0, none⟩)) ∧ w'.cell? ⟨L, 4, none⟩ = some (.int .i64 t.sb) ∧ w'.cell? ⟨L, 5, none⟩ = some (.int .i64 t.sr) ∧ w'.cell? ⟨L, 7, none⟩ = some (.int .i64 t.er))
    (first | go_keep | (have hL2 := hd.lex ho.own hRL; exact ⟨cell_of_block hL2 2, cell_of_block hL2 4, cell_of_block hL2 5, cell_of_block hL2 7⟩))
    (first | (go_at_call 78; refine (enqueue_any hr1 hlt1 hR hn ⟨t.sr, t.er, k, v⟩).mono ?_; rintro e w2 ⟨rfl, hd⟩))
  have hL2 := hd.lex ho.own hRL
  have H2 : Done W0 S w L s { t with toks := t.toks ++ [⟨t.sr, t.er, k, v⟩] } w2 :=
    Done.ring (t2 := { t with toks := t.toks ++ [⟨t.sr, t.er, k, v⟩] }) H hL hR hr he hc.out ho hd (OnlyL.refl hL2) hsm rfl rfl ⟨p1, p2, p3, p4⟩
  obtain ⟨S2, hS2, H3, hf2⟩ := H2
  go_wp2_with fail
  refine (commit_any H3).mono ?_
  rintro e w3 ⟨rfl, hd3⟩
  go_wp2_with fail
  go_end0
  exact ⟨rfl, Done.trans hS2 hf2 hd3⟩

set_option maxHeartbeats 1000000 in
set_option maxRecDepth 100000 in
theorem emit_any {W0 w : World} {S : Nat → Prop} {L : Nat} {s : ByteArray} {t : St} (H : Lx W0 S w L s t) (hle : t.eb ≤ s.size) (hn : t.toks.length ≤ 9) (k : ByteArray) :
    Calls Tryf.prog 46 #[.pointer (some ⟨L, 0, none⟩), .string k] w fun e w' => e = .returned (.tuple #[]) ∧ Done W0 S w L s (emit k s t) w' := by
  go_enter Tryf.func46, Tryf.ntmps46
  go_wp2_with fail
  refine (word_any H hle).mono ?_
  rintro e w2 ⟨rfl, xs, d, rfl⟩
  have H2 := H.keep (grow_below w xs d)
  go_wp2_with fail
  refine (emitValue_any H2 hn k _).mono ?_
  rintro e w3 ⟨rfl, hd3⟩
  go_wp2_with fail
  go_end0
  exact ⟨rfl, Done.trans (fun _ h => .inl h) (Fr.of_below (grow_below w xs d)) hd3⟩

theorem emitEOF_eq (t : St) : emitEOF t = commit { t with toks := t.toks ++ [⟨if (t.er : Int) - 1 < 0 then 0 else (t.er : Int) - 1, t.er, kEOF, ⟨#[]⟩⟩] } := by
  unfold emitEOF
  by_cases h : (t.er : Int) - 1 < 0
  · rw [if_pos h, show t.er - 1 = 0 by omega]; rfl
  · rw [if_neg h, show ((t.er - 1 : Nat) : Int) = (t.er : Int) - 1 by omega]

set_option maxHeartbeats 1000000 in
set_option maxRecDepth 100000 in
theorem emitEOF_any {W0 w : World} {S : Nat → Prop} {L : Nat} {s : ByteArray} {t : St} (H : Lx W0 S w L s t) (hn : t.toks.length ≤ 9) :
    Calls Tryf.prog 47 #[.pointer (some ⟨L, 0, none⟩)] w fun e w' => e = .returned (.tuple #[]) ∧ Done W0 S w L s (emitEOF t) w' := by
  rw [emitEOF_eq]
  obtain ⟨R, ev, hL, hR, hc, hr, he, l0, c0, c1, c2, c3, c4, c5, c6, c7, c8, c9, fz⟩ := H.opened
  have hsm := H.small
  obtain ⟨p1, p2, p3, p4⟩ := H.poss
  have p5 : t.er ≤ 1099511627776 := by omega
  have l1 : L < w.heap.size + 1 := by omega
  have l2 : L < w.heap.size + 1 + 1 := by omega
  have l3 : L < w.heap.size + 1 + 1 + 1 := by omega
  have hRL := hr.ne hc.out
  have ho : OnlyL L 61 (cellsL s R ev t) w w.drew := (OnlyL.refl hc.out).drew
  have hr1 : RingW S w.drew R t.toks := hr
  have hlt1 : ∀ k, S k → k < w.drew.heap.size := H.lt
  have q1 : ¬ (t.er : Int) < 0 := by omega
  by_cases hz : (t.er : Int) - 1 < 0
  · rw [if_pos hz]
    go_enter Tryf.func47, Tryf.ntmps47
    go_wp2_with fail
    refine (enqueue_any hr H.lt hR hn ⟨0, t.er, kEOF, ⟨#[]⟩⟩).mono ?_
    rintro e w2 ⟨rfl, hd⟩
    have hL2 := hd.lex hc.out hRL
    have H2 : Done W0 S w L s { t with toks := t.toks ++ [⟨0, t.er, kEOF, ⟨#[]⟩⟩] } w2 :=
      Done.ring (t2 := { t with toks := t.toks ++ [⟨0, t.er, kEOF, ⟨#[]⟩⟩] }) H hL hR hr he hc.out (OnlyL.refl hc.out) hd (OnlyL.refl hL2) hsm rfl rfl ⟨p1, p2, p3, p4⟩
    obtain ⟨S2, hS2, H3, hf2⟩ := H2
    go_wp2_with fail
    refine (commit_any H3).mono ?_
    rintro e w3 ⟨rfl, hd3⟩
    go_wp2_with fail
    go_end0
    exact ⟨rfl, Done.trans hS2 hf2 hd3⟩
  · rw [if_neg hz]
    go_enter Tryf.func47, Tryf.ntmps47
    go_wp2_with fail
    refine (enqueue_any hr H.lt hR hn ⟨(t.er : Int) - 1, t.er, kEOF, ⟨#[]⟩⟩).mono ?_
    rintro e w2 ⟨rfl, hd⟩
    have hL2 := hd.lex hc.out hRL
    have H2 : Done W0 S w L s { t with toks := t.toks ++ [⟨(t.er : Int) - 1, t.er, kEOF, ⟨#[]⟩⟩] } w2 :=
      Done.ring (t2 := { t with toks := t.toks ++ [⟨(t.er : Int) - 1, t.er, kEOF, ⟨#[]⟩⟩] }) H hL hR hr he hc.out (OnlyL.refl hc.out) hd (OnlyL.refl hL2) hsm rfl rfl ⟨p1, p2, p3, p4⟩
    obtain ⟨S2, hS2, H3, hf2⟩ := H2
    go_wp2_with fail
    refine (commit_any H3).mono ?_
    rintro e w3 ⟨rfl, hd3⟩
    go_wp2_with fail
    go_end0
    exact ⟨rfl, Done.trans hS2 hf2 hd3⟩

end Go.Proofs.YtdpdgppjeekcmaaFmt
