/-
  Walks: emitValue, emit, emitEOF; Next where a token waits.
-/
import Derived.Test.YtoopnllpocioiaaGreatFmtCore3
import Derived.Test.YtoopnllpocioiaaGreatFmtNew
import Derived.Test.YtoopnllpocioiaaGreatFmtRing2
import Derived.Deep.RegionHeld3
namespace Go.Proofs.YtoopnllpocioiaaGreatFmt
open Go Go.Lib Go.RowKit Go.Proofs

theorem RDone.lex {S : Nat → Prop} {R L : Nat} {toks : List Tok} {w w' : World} {c : Array Value} (h : RDone S R toks w w') (hc : w.heap[L]? = some (.cells c 61 (0, 0))) (hR : R ≠ L) : w'.heap[L]? = some (.cells c 61 (0, 0)) := by
  obtain ⟨S', _, _, _, hf, _⟩ := h
  exact hf.lex hc hR

set_option maxHeartbeats 1000000 in
set_option maxRecDepth 100000 in
theorem emitValue_any {W0 w : World} {S : Nat → Prop} {L : Nat} {s : ByteArray} {t : St} (H : Lx W0 S w L s t) (hn : t.toks.length ≤ 9) (k v : ByteArray) :
    Calls Tryz.prog 41 #[.pointer (some ⟨L, 0, none⟩), .string k, .string v] w fun e w' => e = .returned (.tuple #[]) ∧ Done W0 S w L s (emitV k v t) w' := by
  obtain ⟨R, ev, hL, hR, hc, hr, he, l0, c0, c1, c2, c3, c4, c5, c6, c7, c8, c9, fz⟩ := H.opened
  have hsm := H.small
  obtain ⟨p1, p2, p3, p4⟩ := H.poss
  have p5 : t.er ≤ 1099511627776 := by omega
  have l1 : L < w.heap.size + 1 := by omega
  have l2 : L < w.heap.size + 1 + 1 := by omega
  have l3 : L < w.heap.size + 1 + 1 + 1 := by omega
  have hRL := hr.ne hc.out
  have ho : OnlyL L 61 (cellsL s R ev t) w w.drew := (OnlyL.refl hc.out).drew
  have hr1 : RingW S w.drew R t.toks := hr
  have hlt1 : ∀ k, S k → k < w.drew.heap.size := H.lt
  go_enter Tryz.func41, Tryz.ntmps41
  go_wp2_with fail
  go_region_held3 (fun w' => w'.cell? ⟨L, 2, none⟩ = some (.pointer (some ⟨R, 0, none⟩)) ∧ w'.cell? ⟨L, 4, none⟩ = some (.int .i64 t.sb) ∧ w'.cell? ⟨L, 5, none⟩ = some (.int .i64 t.sr) ∧ w'.cell? ⟨L, 7, none⟩ = some (.int .i64 t.er))
    (first | go_keep | (have hL2 := hd.lex ho.own hRL; exact ⟨cell_of_block hL2 2, cell_of_block hL2 4, cell_of_block hL2 5, cell_of_block hL2 7⟩))
    (first | (go_at_call 54; refine (enqueue_any hr1 hlt1 hR hn ⟨t.sr, t.er, k, v⟩).mono ?_; rintro e w2 ⟨rfl, hd⟩))
  have hL2 := hd.lex ho.own hRL
  have H2 : Done W0 S w L s { t with toks := t.toks ++ [⟨t.sr, t.er, k, v⟩] } w2 :=
    Done.ring (t2 := { t with toks := t.toks ++ [⟨t.sr, t.er, k, v⟩] }) H hL hR hr he hc.out ho hd (OnlyL.refl hL2) hsm rfl rfl ⟨p1, p2, p3, p4⟩
  obtain ⟨S2, hS2, H3, hf2⟩ := H2
  go_wp2_with fail
  refine (commit_any H3).mono ?_
  rintro e w3 ⟨rfl, hd3⟩
  go_wp2_with fail
  go_end0
  exact ⟨rfl, Done.trans hS2 hf2 hd3⟩

set_option maxHeartbeats 1000000 in
set_option maxRecDepth 100000 in
theorem emit_any {W0 w : World} {S : Nat → Prop} {L : Nat} {s : ByteArray} {t : St} (H : Lx W0 S w L s t) (hle : t.eb ≤ s.size) (hn : t.toks.length ≤ 9) (k : ByteArray) :
    Calls Tryz.prog 34 #[.pointer (some ⟨L, 0, none⟩), .string k] w fun e w' => e = .returned (.tuple #[]) ∧ Done W0 S w L s (emit k s t) w' := by
  go_enter Tryz.func34, Tryz.ntmps34
  go_wp2_with fail
  refine (word_any H hle).mono ?_
  rintro e w2 ⟨rfl, xs, d, rfl⟩
  have H2 := H.keep (grow_below w xs d)
  go_wp2_with fail
  refine (emitValue_any H2 hn k _).mono ?_
  rintro e w3 ⟨rfl, hd3⟩
  go_wp2_with fail
  go_end0
  exact ⟨rfl, Done.trans (fun _ h => .inl h) (Fr.of_below (grow_below w xs d)) hd3⟩

theorem emitEOF_eq (t : St) : emitEOF t = commit { t with toks := t.toks ++ [⟨if (t.er : Int) - 1 < 0 then 0 else (t.er : Int) - 1, t.er, kEOF, ⟨#[]⟩⟩] } := by
  unfold emitEOF
  by_cases h : (t.er : Int) - 1 < 0
  · rw [if_pos h, show t.er - 1 = 0 by omega]; rfl
  · rw [if_neg h, show ((t.er - 1 : Nat) : Int) = (t.er : Int) - 1 by omega]

set_option maxHeartbeats 1000000 in
set_option maxRecDepth 100000 in
theorem emitEOF_any {W0 w : World} {S : Nat → Prop} {L : Nat} {s : ByteArray} {t : St} (H : Lx W0 S w L s t) (hn : t.toks.length ≤ 9) :
    Calls Tryz.prog 39 #[.pointer (some ⟨L, 0, none⟩)] w fun e w' => e = .returned (.tuple #[]) ∧ Done W0 S w L s (emitEOF t) w' := by
  rw [emitEOF_eq]
  obtain ⟨R, ev, hL, hR, hc, hr, he, l0, c0, c1, c2, c3, c4, c5, c6, c7, c8, c9, fz⟩ := H.opened
  have hsm := H.small
  obtain ⟨p1, p2, p3, p4⟩ := H.poss
  have p5 : t.er ≤ 1099511627776 := by omega
  have l1 : L < w.heap.size + 1 := by omega
  have l2 : L < w.heap.size + 1 + 1 := by omega
  have l3 : L < w.heap.size + 1 + 1 + 1 := by omega
  have hRL := hr.ne hc.out
  have ho : OnlyL L 61 (cellsL s R ev t) w w.drew := (OnlyL.refl hc.out).drew
  have hr1 : RingW S w.drew R t.toks := hr
  have hlt1 : ∀ k, S k → k < w.drew.heap.size := H.lt
  have q1 : ¬ (t.er : Int) < 0 := by omega
  by_cases hz : (t.er : Int) - 1 < 0
  · rw [if_pos hz]
    go_enter Tryz.func39, Tryz.ntmps39
    go_wp2_with fail
    refine (enqueue_any hr H.lt hR hn ⟨0, t.er, kEOF, ⟨#[]⟩⟩).mono ?_
    rintro e w2 ⟨rfl, hd⟩
    have hL2 := hd.lex hc.out hRL
    have H2 : Done W0 S w L s { t with toks := t.toks ++ [⟨0, t.er, kEOF, ⟨#[]⟩⟩] } w2 :=
      Done.ring (t2 := { t with toks := t.toks ++ [⟨0, t.er, kEOF, ⟨#[]⟩⟩] }) H hL hR hr he hc.out (OnlyL.refl hc.out) hd (OnlyL.refl hL2) hsm rfl rfl ⟨p1, p2, p3, p4⟩
    obtain ⟨S2, hS2, H3, hf2⟩ := H2
    go_wp2_with fail
    refine (commit_any H3).mono ?_
    rintro e w3 ⟨rfl, hd3⟩
    go_wp2_with fail
    go_end0
    exact ⟨rfl, Done.trans hS2 hf2 hd3⟩
  · rw [if_neg hz]
    go_enter Tryz.func39, Tryz.ntmps39
    go_wp2_with fail
    refine (enqueue_any hr H.lt hR hn ⟨(t.er : Int) - 1, t.er, kEOF, ⟨#[]⟩⟩).mono ?_
    rintro e w2 ⟨rfl, hd⟩
    have hL2 := hd.lex hc.out hRL
    have H2 : Done W0 S w L s { t with toks := t.toks ++ [⟨(t.er : Int) - 1, t.er, kEOF, ⟨#[]⟩⟩] } w2 :=
      Done.ring (t2 := { t with toks := t.toks ++ [⟨(t.er : Int) - 1, t.er, kEOF, ⟨#[]⟩⟩] }) H hL hR hr he hc.out (OnlyL.refl hc.out) hd (OnlyL.refl hL2) hsm rfl rfl ⟨p1, p2, p3, p4⟩
    obtain ⟨S2, hS2, H3, hf2⟩ := H2
    go_wp2_with fail
    refine (commit_any H3).mono ?_
    rintro e w3 ⟨rfl, hd3⟩
    go_wp2_with fail
    go_end0
    exact ⟨rfl, Done.trans hS2 hf2 hd3⟩

theorem qVal_some (q : Q) : ∃ f, qVal (some q) = .func (.func f) #[] #[] := by cases q <;> exact ⟨_, rfl⟩

/-- A block of one's own beside the queue stays behind a call of it. -/
theorem RDone.beside {S : Nat → Prop} {R K : Nat} {toks : List Tok} {w w' : World} (h : RDone S R toks w w') (hK : K < w.heap.size) (hR : K ≠ R) (hS : ¬ S K) : w'.heap[K]? = w.heap[K]? := by
  obtain ⟨S', _, _, _, hf, _⟩ := h
  exact hf.others K hK hR (fun _ h => absurd h hS)
theorem OnlyL.fr {L : Nat} {T : TypeId} {c : Array Value} {w w' : World} (h : OnlyL L T c w w') : Fr (· = L) w w' := ⟨h.os, h.tape, h.output, h.size, fun k hk hn => h.others k hk hn⟩

/-- A call that makes a block of its own, turns the lexer, and writes its own block. -/
theorem Done.own {W0 w w1 w2 w3 : World} {S : Nat → Prop} {L K : Nat} {T : TypeId} {c : Array Value} {s : ByteArray} {t t' : St} (H : Lx W0 S w L s t) (hb : Below w.heap.size w w1) (hK : w.heap.size ≤ K) (hK1 : K < w1.heap.size) (hd : Done W0 S w1 L s t' w2) (ho : OnlyL K T c w2 w3) : Done W0 S w L s t' w3 := by
  obtain ⟨S2, hS2, H2, hf2⟩ := hd
  have hn : ∀ k, S2 k → ¬ k = K := fun k hk e => by
    subst e
    rcases hS2 k hk with h | h
    · have := H.lt k h; omega
    · omega
  refine ⟨S2, fun k hk => (hS2 k hk).elim .inl (fun h => .inr (Nat.le_trans hb.size h)), H2.keepFr ho.fr hn (fun k e => by subst e; exact Nat.le_trans H.low.size hK), ?_⟩
  exact ((Fr.of_below hb).trans hf2 (fun _ h => .inl h)).trans ho.fr (fun k e => by subst e; exact .inr hK)

set_option maxHeartbeats 1000000 in
set_option maxRecDepth 100000 in
/-- Next where no error stands and a token waits. -/
theorem nextTok_any {W0 w : World} {S : Nat → Prop} {L : Nat} {s : ByteArray} {t : St} {k : Tok} {l : List Tok} (H : Lx W0 S w L s t) (ht : t.toks = k :: l) (hq : t.q = some .root) (hee : t.err = none) :
    Calls Tryz.prog 19 #[.pointer (some ⟨L, 0, none⟩)] w fun e w' => e = .returned (.tuple #[tokVal k, .nilIface]) ∧ Done W0 S w L s { t with toks := l } w' := by
  obtain ⟨wa, hwa⟩ : ∃ x, x = w.alloc (.cells #[.int .i64 0, .int .i64 0, .string ⟨#[]⟩, .string ⟨#[]⟩] 35) := ⟨_, rfl⟩
  have hba : Below w.heap.size w wa := by rw [hwa]; exact (Below.refl _ _).alloc (Nat.le_refl _) _
  have hK : wa.heap[w.heap.size]? = some (.cells #[.int .i64 0, .int .i64 0, .string ⟨#[]⟩, .string ⟨#[]⟩] 35 (0, 0)) := by rw [hwa]; exact heap_alloc_at rfl
  have hKlt : w.heap.size < wa.heap.size := (Array.getElem?_eq_some_iff.1 hK).1
  have hSK : ¬ S w.heap.size := fun h => by have := H.lt _ h; omega
  have H1 := H.keep hba
  have Ha := Lib.hid hwa
  clear hwa
  obtain ⟨R, ev, hL, hR, hc, hr, he, l0, c0, c1, c2, c3, c4, c5, c6, c7, c8, c9, fz⟩ := H1.opened
  obtain ⟨p1, p2, p3, p4⟩ := H.poss
  have hRL := hr.ne hc.out
  have hev : ev = .pointer none := by
    rcases he with ⟨h, _⟩ | ⟨E, f, o, line, col, msg, snip, _, _, h, _⟩
    · exact h
    · rw [hee] at h; cases h
  subst hev
  rw [hq] at c0
  have hr0 := hr
  rw [ht] at hr0
  have hlen : ((((k :: l).length : Nat) : Int) == 0) = false := by simp; omega
  have hlen2 : ¬ ((((k :: l).length : Nat) : Int) = 0) := by simp; omega
  obtain ⟨n, hn⟩ : ∃ n : Nat, (k :: l).length = n := ⟨_, rfl⟩
  rw [hn] at hlen hlen2
  have Hn := Lib.hid hn
  clear hn
  unfold qVal at c0
  have hrun : ∀ wr, Sem.run Tryz.prog (binOp BinOp.neq 56 (Value.func (Fn.func 44) #[] #[]) Value.nilFunc) wr = .ok (.bool true) wr := fun _ => by kernel_rfl
  go_enter Tryz.func19, Tryz.ntmps19
  go_wp2_with fail
  go_loopg [] 0 (fun g wr => wr = wa)
  case atStart => exact Ha.out.symm
  case round =>
    subst hrel
    go_wp2_with fail
    refine (ringLen_any hr0).mono ?_
    rintro e w1 ⟨rfl, rfl⟩
    rw [Hn.out]
    go_wp2_with fail
    refine (dequeue_any hr0 H1.lt).mono ?_
    rintro e w2 ⟨rfl, hd⟩
    have hRK : w.heap.size ≠ R := fun e => hSK (e ▸ hR)
    have hK2 := (hd.beside hKlt hRK hSK).trans hK
    have k0 : w2.cell? ⟨w.heap.size, 0, none⟩ = some (.int .i64 0) := cell_of_block hK2 0
    have k1 : w2.cell? ⟨w.heap.size, 1, none⟩ = some (.int .i64 0) := cell_of_block hK2 1
    have k2 : w2.cell? ⟨w.heap.size, 2, none⟩ = some (.string ⟨#[]⟩) := cell_of_block hK2 2
    have k3 : w2.cell? ⟨w.heap.size, 3, none⟩ = some (.string ⟨#[]⟩) := cell_of_block hK2 3
    have kf := free_of_block hK2
    have kl1 : w.heap.size < w2.heap.size := (Array.getElem?_eq_some_iff.1 hK2).1
    have kl2 : w.heap.size < w2.heap.size + 1 := by omega
    have hL2 := hd.lex hc.out hRL
    have hD2 : Done W0 S wr L s { t with toks := l } w2 := Done.ring (t2 := { t with toks := l }) H1 hL hR hr he hc.out (OnlyL.refl hc.out) hd (OnlyL.refl hL2) H.small rfl rfl ⟨p1, p2, p3, p4⟩
    have HK := Lib.hid hK2
    have HL2 := Lib.hid hL2
    have HD := Lib.hid hd
    clear hK2 hL2 hd hK
    unfold tokVal
    go_wp2_with fail
    refine bodyPost_ret (v := .tuple #[.agg #[.int .i64 k.frm, .int .i64 k.to, .string k.kind, .string k.value], .nilIface]) ?_ rfl ⟨rfl, Done.own H hba (Nat.le_refl _) hKlt hD2 (((((OnlyL.refl HK.out).setCell 0 _).setCell 1 _).setCell 2 _).setCell 3 _ |>.alloc _)⟩
    simp [results, Tryz.results19, go_sem, *]

end Go.Proofs.YtoopnllpocioiaaGreatFmt
