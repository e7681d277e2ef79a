/-
  Walk: Next, whatever its lexer holds: the states are called until a token waits, none is left, or an error stands.
-/
import Derived.Test.YtkplkccjeacniaaGreatFmtState
import Derived.Test.YtkplkccjeacniaaGreatFmtNextA
import Derived.Test.YtkplkccjeacniaaGreatFmtJB
import Derived.Test.YtkplkccjeacniaaGreatFmtBind
import Derived.Laws.EntriesVeiled
namespace Go.Proofs.YtkplkccjeacniaaGreatFmt
open Go Go.Lib Go.RowKit Go.Proofs
open Go.Extern.Stop Go.Stop Go.Extern

theorem qVal_fOf (q : Q) : qVal (some q) = .func (.func (fOf q)) #[] #[] := by cases q <;> rfl

def zTok : Array Value := #[.int .i64 0, .int .i64 0, .string ⟨#[]⟩, .string ⟨#[]⟩]
def zeroTok : Value := .agg #[.int .i64 0, .int .i64 0, .string ⟨#[]⟩, .string ⟨#[]⟩]

/-- What a call of Next comes to. -/
def NextPost (W0 : World) (S : Nat → Prop) (w : World) (L : Nat) (s : ByteArray) (t : St) (e : Ending) (w' : World) : Prop :=
  Done W0 S w L s (nextS s t).2 w' ∧
    ((∃ k, (nextS s t).1 = some k ∧ e = .returned (.tuple #[tokVal k, .nilIface])) ∨
     ((nextS s t).1 = none ∧ (nextS s t).2.err ≠ none ∧ ∃ E, e = .returned (.tuple #[zeroTok, .iface 56 (.pointer (some ⟨E, 0, none⟩))])) ∨
     ((nextS s t).1 = none ∧ (nextS s t).2.err = none ∧ e = .returned (.tuple #[zeroTok, .iface 63 (.string ⟨#[69, 79, 70]⟩)])))

/-- Two blocks have turned. -/
structure Only2 (E K : Nat) (w w' : World) : Prop where
  os : w'.os = w.os
  tape : w'.tape = w.tape
  output : w'.output = w.output
  size : w.heap.size ≤ w'.heap.size
  others : ∀ k, k < w.heap.size → k ≠ E → k ≠ K → w'.heap[k]? = w.heap[k]?
theorem Only2.refl (E K : Nat) (w : World) : Only2 E K w w := ⟨rfl, rfl, rfl, Nat.le_refl _, fun _ _ _ _ => rfl⟩
theorem Only2.setK {E K : Nat} {w w' : World} (h : Only2 E K w w') (o : Nat) (v : Value) : Only2 E K w (w'.setCell ⟨K, o, none⟩ v) :=
  ⟨h.os, h.tape, h.output, by simp [World.setCell, h.size], fun k hk he hn => (Below.heap_setCell _ _ _ _ hn).trans (h.others k hk he hn)⟩
theorem Only2.bind {E K : Nat} {T : TypeId} {c : Array Value} {w w1 w' : World} (h : Only2 E K w w1) (ho : OnlyL E T c w1 w') : Only2 E K w w' :=
  ⟨ho.os.trans h.os, ho.tape.trans h.tape, ho.output.trans h.output, Nat.le_trans h.size ho.size, fun k hk he hn => (ho.others k (Nat.lt_of_lt_of_le hk h.size) he).trans (h.others k hk he hn)⟩
theorem Only2.below {E K : Nat} {w w1 w' : World} (h : Only2 E K w w1) (hb : Below w1.heap.size w1 w') : Only2 E K w w' :=
  ⟨hb.os.trans h.os, hb.tape.trans h.tape, hb.output.trans h.output, Nat.le_trans h.size hb.size, fun k hk he hn => (hb.block k (Nat.lt_of_lt_of_le hk h.size)).trans (h.others k hk he hn)⟩

/-- A block of one's own written, the lexer beside it. -/
theorem Acc.wrote {W0 w w2 w3 : World} {S S2 : Nat → Prop} {L K : Nat} {T : TypeId} {c c' : Array Value} {s : ByteArray} {t : St} (A : Acc S w S2 w2) (H : Lx W0 S2 w2 L s t) (O : Own S2 w2 K c) (hK : w.heap.size ≤ K) (hW : W0.heap.size ≤ w.heap.size) (ho : OnlyL K T c' w2 w3) : Done W0 S w L s t w3 :=
  ⟨S2, A.own, H.keepFr ho.fr (fun k hk e => O.2 (e ▸ hk)) (fun k e => by subst e; exact Nat.le_trans hW hK), A.fr.trans ho.fr (fun k e => by subst e; exact .inr hK)⟩

/-- The lexer's error bound anew, a block of one's own written beside it. -/
theorem Acc.bound {W0 w wr w' : World} {S S1 : Nat → Prop} {L E K R : Nat} {c : Array Value} {s : ByteArray} {t : St} {f o line col line' col' : Int} {msg snip snip' : ByteArray} (A : Acc S w S1 wr) (H : Lx W0 S1 wr L s t) (O : Own S1 wr K c) (hK : w.heap.size ≤ K) (hW : W0.heap.size ≤ w.heap.size) (hS : S1 E) (ht : t.err = some (f, o)) (hL : S1 L) (hR : S1 R)
    (hc : wr.heap[L]? = some (.cells (cellsL s R (.pointer (some ⟨E, 0, none⟩)) t) 59 (0, 0))) (hr : RingW S1 wr R t.toks) (hE : wr.heap[E]? = some (.cells (feCells f o line col msg snip) 86 (0, 0)))
    (ho : Only2 E K wr w') (hown : w'.heap[E]? = some (.cells (feCells f o line' col' msg snip') 86 (0, 0))) : Done W0 S w L s t w' := by
  have hSK := O.2
  have hne : ∀ k, S1 k → k ≠ K := fun k hk e => hSK (e ▸ hk)
  have hf : Fr (fun k => S1 k ∨ k = K) wr w' := ⟨ho.os, ho.tape, ho.output, ho.size, fun k hk hs => ho.others k hk (fun e => hs (.inl (e ▸ hS))) (fun e => hs (.inr e))⟩
  have hLE : L ≠ E := fun e => by subst e; rw [hE] at hc; exact kinds_ne (by decide) hc
  have hRE : R ≠ E := fun e => by
    subst e
    obtain ⟨dv, back, h0, _⟩ := hr
    rw [hE] at h0
    exact kinds_ne (by decide) h0
  refine ⟨S1, A.own, ⟨H.tabs, H.low.trans (hf.below (fun k hk => hk.elim (H.old k) (fun e => by rw [e]; exact Nat.le_trans hW hK)) H.low.size), H.old, fun k hk => Nat.lt_of_lt_of_le (H.lt k hk) ho.size, H.small, ⟨R, _, hL, hR, (ho.others L (H.lt L hL) hLE (hne L hL)).trans hc, ?_, ?_⟩, H.poss⟩, A.fr.trans hf (fun k hk => hk.elim (A.own k) (fun e => .inr (by rw [e]; exact hK)))⟩
  · refine hr.keep (ho.others R (H.lt R hR) hRE (hne R hR)) (fun k c hk hcc => ho.others k (H.lt k hk) (fun e => ?_) (hne k hk))
    subst e
    rw [hE] at hcc
    exact kinds_ne (by decide) hcc
  · exact .inr ⟨E, f, o, line', col', msg, snip', rfl, hS, ht, hown⟩

/-- The lexer behind a source that is shorter than its place: the text is at its end. -/
def AtEnd (s : ByteArray) (t : St) : Prop := t.q = some .root ∧ s.size ≤ t.eb
def Inv2 (s : ByteArray) (t : St) : Prop := Inv s t ∨ AtEnd s t
theorem atEnd_step {s : ByteArray} {t : St} (h : AtEnd s t) : step s t = { emitEOF { t with eof := true } with q := none } := by
  rw [step_some h.1]
  show { (root s t).2 with q := (root s t).1 } = _
  have hl : ¬ t.eb < s.size := by have := h.2; omega
  have hp : peek s t = -1 := by unfold peek; rw [if_neg hl]
  have hr : root s t = (none, emitEOF (next s t)) := by unfold root; rw [if_pos hp]
  rw [hr, next_end hl]
theorem inv2_step {s : ByteArray} {t : St} (h : Inv2 s t) (hg : going t = true) : Inv2 s (step s t) := by
  rcases h with h | h
  · exact .inl (inv_step h hg)
  · refine .inl (fun _ q hq => ?_)
    rw [atEnd_step h] at hq
    cases hq
theorem pulled_step2 {s : ByteArray} {t : St} (h : Inv2 s t) (hg : going t = true) : pulled s t = pulled s (step s t) := by
  rcases h with h | h
  · exact pulled_step h hg
  · have hg2 : going (step s t) = false := by rw [atEnd_step h]; rfl
    have hm := mz_some (s := s) hg h.1
    rw [pulled_stop hg2]
    unfold pulled
    rw [hm, show 3 * (s.size - t.eb) + rankQ .root + 1 = 1 + 1 by have := h.2; show 3 * (s.size - t.eb) + 1 + 1 = _; omega]
    show (if going t = true then pull s 1 (step s t) else t) = _
    rw [if_pos hg, pull_stop hg2]
theorem mz_next2 {s : ByteArray} {t : St} (h : Inv2 s t) (hg : going t = true) : mz s (step s t) < mz s t := by
  rcases h with h | h
  · exact mz_next h hg
  · have hg2 : going (step s t) = false := by rw [atEnd_step h]; rfl
    rw [mz_zero hg2]
    exact mz_pos hg
theorem state_any2 {F : Stop.Interp} {W0 w : World} {S : Nat → Prop} {L : Nat} {s : ByteArray} {t : St} (hF : F.answers W0.tape) (H : Lx W0 S w L s t) (q : Q) (hq : t.q = some q) (G : Inv2 s t) (he : t.err = none) (hn : t.toks = []) :
    Calls Tryz.prog (fOf q) #[.pointer (some ⟨L, 0, none⟩)] w fun e w' => e = .returned (qVal (state q s t).1) ∧ Done W0 S w L s (state q s t).2 w' := by
  rcases G with G | G
  · exact state_any hF H q (G he q hq) hn
  · have e : q = .root := by have := G.1; rw [hq] at this; cases this; rfl
    subst e
    have hl : ¬ t.eb < s.size := by have := G.2; omega
    have hp : peek s t = -1 := by unfold peek; rw [if_neg hl]
    show Calls Tryz.prog 28 _ _ _
    have hr : state .root s t = (none, emitEOF (next s t)) := by show root s t = _; unfold root; rw [if_pos hp]
    rw [hr]
    exact root_eof hF H hp (by rw [hn]; simp)

set_option maxHeartbeats 8000000 in
set_option maxRecDepth 100000 in
theorem next_all {F : Stop.Interp} {W0 w : World} {S : Nat → Prop} {L : Nat} {s : ByteArray} {t : St} (hF : F.answers W0.tape) (H : Lx W0 S w L s t) (hi : Inv2 s t) :
    Calls Tryz.prog 17 #[.pointer (some ⟨L, 0, none⟩)] w (NextPost W0 S w L s t) := by
  obtain ⟨wa, hwa⟩ : ∃ x, x = w.alloc (.cells #[.int .i64 0, .int .i64 0, .string ⟨#[]⟩, .string ⟨#[]⟩] 43) := ⟨_, rfl⟩
  have hba : Below w.heap.size w wa := by rw [hwa]; exact (Below.refl _ _).alloc (Nat.le_refl _) _
  have hK : wa.heap[w.heap.size]? = some (.cells zTok 43 (0, 0)) := by rw [hwa]; exact heap_alloc_at rfl
  have hSK : ¬ S w.heap.size := fun h => by have := H.lt _ h; omega
  have hW : W0.heap.size ≤ w.heap.size := H.low.size
  have H0 := H.keep hba
  have A0 := (Acc.refl S w).below hba
  have O0 : Own S wa w.heap.size zTok := ⟨⟨_, hK⟩, hSK⟩
  have Ha := Lib.hid hwa
  clear hwa hK hSK
  have hn0 : ∀ wr, Sem.run Tryz.prog (binOp BinOp.neq 54 Value.nilFunc Value.nilFunc) wr = .ok (.bool false) wr := fun _ => by kernel_rfl
  have hn1 : ∀ (q : Q) wr, Sem.run Tryz.prog (binOp BinOp.neq 54 (.func (.func (fOf q)) #[] #[]) Value.nilFunc) wr = .ok (.bool true) wr := fun q _ => by cases q <;> kernel_rfl
  go_enter Tryz.func17, Tryz.ntmps17
  go_wp2_with fail
  go_loopg [] (mz s t + 1) (fun g wr => ∃ S1 t1, Acc S w S1 wr ∧ Lx W0 S1 wr L s t1 ∧ Own S1 wr w.heap.size zTok ∧ Hid (Inv2 s t1) ∧ Hid (pulled s t1 = pulled s t) ∧ mz s t1 < g)
  case atStart => rw [← Ha.out]; exact ⟨S, t, A0, H0, O0, Lib.hid hi, Lib.hid rfl, by omega⟩
  case round =>
    obtain ⟨S1, t1, A1, H1, O1, hi1, hp1, hg⟩ := hrel
    obtain ⟨R, ev, hL, hR, hc, hr, hee, l0, c0, c1, c2, c3, c4, c5, c6, c7, c8, c9, fz⟩ := H1.opened
    obtain ⟨⟨TK, hKb⟩, hKS⟩ := id O1
    have k0 : wr.cell? ⟨w.heap.size, 0, none⟩ = some (.int .i64 0) := cell_of_block hKb 0
    have k1 : wr.cell? ⟨w.heap.size, 1, none⟩ = some (.int .i64 0) := cell_of_block hKb 1
    have k2 : wr.cell? ⟨w.heap.size, 2, none⟩ = some (.string ⟨#[]⟩) := cell_of_block hKb 2
    have k3 : wr.cell? ⟨w.heap.size, 3, none⟩ = some (.string ⟨#[]⟩) := cell_of_block hKb 3
    have kf := free_of_block hKb
    have kl : w.heap.size < wr.heap.size := (Array.getElem?_eq_some_iff.1 hKb).1
    have kl1 : w.heap.size < wr.heap.size + 1 := by omega
    have l1 : L < wr.heap.size + 1 := by omega
    have HKb := Lib.hid hKb
    clear hKb
    cases hgo : going t1 with
    | true =>
      obtain ⟨⟨q, hq⟩, he, htk⟩ := going_iff.1 hgo
      have hmz := mz_next2 hi1.out hgo
      have hps := pulled_step2 hi1.out hgo
      have hin := inv2_step hi1.out hgo
      have hst := step_some (s := s) hq
      have hev : ev = .pointer none := by
        rcases hee with ⟨h, _⟩ | ⟨E, f, o, line, col, msg, snip, _, _, h, _⟩
        · exact h
        · rw [he] at h; cases h
      subst hev
      rw [hq, qVal_fOf] at c0
      have hr0 := hr
      rw [htk] at hr0
      have Hps := Lib.hid hps
      have Hin := Lib.hid hin
      have Hst := Lib.hid hst
      have Hgo := Lib.hid hgo
      have Hq := Lib.hid hq
      have He := Lib.hid he
      have Htk := Lib.hid htk
      clear hps hin hst hgo hq he htk
      have hq1 := hn1 q
      have hcall := state_any2 hF H1 q Hq.out hi1.out He.out Htk.out
      clear hn1 k0 k1 k2 k3 kf
      obtain ⟨sq, hsq⟩ : ∃ sq, (state q s t1).1 = sq := ⟨_, rfl⟩
      obtain ⟨st, hst2⟩ : ∃ st, (state q s t1).2 = st := ⟨_, rfl⟩
      rw [hsq, hst2] at hcall
      rw [hsq, hst2] at Hst
      have hqv : qVal sq = .nilFunc ∨ ∃ n, qVal sq = .func (.func n) #[] #[] := by
        cases sq with
        | none => exact .inl rfl
        | some q2 => exact .inr ⟨fOf q2, qVal_fOf q2⟩
      obtain ⟨qv, hqv2⟩ : ∃ qv, qVal sq = qv := ⟨_, rfl⟩
      rw [hqv2] at hcall hqv
      have Hqv := Lib.hid hqv2
      have Hcall := Lib.hid hcall
      clear hcall hsq hst2 hqv2
      rcases hqv with rfl | ⟨nq, rfl⟩ <;> cases q
      all_goals unfold fOf at c0 hq1 Hcall
      all_goals go_wp2_with fail
      all_goals refine (ringLen_any hr0).mono ?_
      all_goals rintro e w1 ⟨rfl, rfl⟩
      all_goals rw [show ((([] : List Tok).length : Nat) : Int) = 0 from rfl]
      all_goals go_wp2_with fail
      all_goals refine Hcall.out.mono ?_
      all_goals rintro e w2 ⟨rfl, S2, hS2, H2, hf2⟩
      all_goals obtain ⟨R2, ev2, hL2, hR2, hc2, hr2, hee2, m0, d0, d1, d2, d3, d4, d5, d6, d7, d8, d9, fz2⟩ := H2.opened
      all_goals have A2 := Acc.step A1 hS2 hf2
      all_goals have O2 := O1.keep hS2 hf2
      all_goals have key : ∀ W', OnlyL L 59 (cellsL s R2 ev2 (step s t1)) w2 W' → ∃ S3 t3, Acc S w S3 W' ∧ Lx W0 S3 W' L s t3 ∧ Own S3 W' w.heap.size zTok ∧ Hid (Inv2 s t3) ∧ Hid (pulled s t3 = pulled s t) ∧ mz s t3 < mz s t1 := (by
        intro W' ho
        obtain ⟨S3, hS3, H3, hf3⟩ := Done.only (t' := step s t1) H2 hL2 hR2 hr2 hee2 ho hc2.out (by rw [Hst.out]) (by rw [Hst.out]) (by rw [Hst.out]; exact H2.poss)
        exact ⟨S3, step s t1, Acc.step A2 hS3 hf3, H3, O2.keep hS3 hf3, Hin, Lib.hid (Hps.out.symm.trans hp1.out), hmz⟩)
      all_goals have Key := Lib.hid key
      all_goals clear key
      all_goals go_wp2_with fail
      all_goals go_roundg (mz s t1)
      all_goals first
        | omega
        | (refine Key.out _ (OnlyL.cast (by repeat (first | exact OnlyL.refl hc2.out | apply OnlyL.setCell | apply OnlyL.drew | apply OnlyL.drewN | apply OnlyL.alloc)) ?_)
           rw [Hst.out]
           simp [cellsL, Hqv.out])
    | false =>
      have hfin : pulled s t = t1 := hp1.out.symm.trans (pulled_stop hgo)
      have Hgo := Lib.hid hgo
      have Hfin := Lib.hid hfin
      clear hgo hfin hp1
      cases herr : t1.err with
      | some p =>
        obtain ⟨E, f, o, line, col, msg, snip, rfl, hSE, hee1, hEb⟩ : ∃ (E : Nat) (f o line col : Int) (msg snip : ByteArray), ev = .pointer (some ⟨E, 0, none⟩) ∧ S1 E ∧ t1.err = some (f, o) ∧
            wr.heap[E]? = some (.cells #[.int .i64 f, .int .i64 o, .int .i64 line, .int .i64 col, .string msg, .string snip, .nilIface] 86 (0, 0)) := by
          rcases hee with ⟨_, h⟩ | h
          · rw [herr] at h; cases h
          · exact h
        have hfinal : ∀ W', OnlyL E 86 #[.int .i64 f, .int .i64 o, .int .i64 line, .int .i64 col, .string msg, .string snip, .nilIface] wr W' → True := fun _ _ => trivial
        have hN : nextS s t = (none, t1) := by rw [nextS_err (by rw [Hfin.out, herr]; simp), Hfin.out]
        have hne : t1.err ≠ none := by rw [herr]; simp
        have HN := Lib.hid hN
        have HNE := Lib.hid hne
        have HEE := Lib.hid hee1
        have HEb := Lib.hid hEb
        clear hN hne hee1 hEb herr hfinal
        have hEK : E ≠ w.heap.size := fun e => hKS (e ▸ hSE)
        have hb := fun (wx : World) (hx : wx.heap[E]? = _) => bind_any E f o line col msg snip s H1.small wx hx
        have Hb := Lib.hid hb
        clear hb
        cases hqq : t1.q with
        | none =>
          rw [hqq] at c0
          clear hqq
          unfold qVal at c0
          go_wp2_with fail
          go_region_with (go_at_call 31; refine (Hb.out _ (by repeat (first | exact HEb.out | rw [Below.heap_setCell _ _ _ _ hEK]))).mono ?_; rintro e w2 ⟨rfl, line', col', snip', ho⟩; try (have kq0 := ho.cell k0 (fun e => hEK e.symm); have kq1 := ho.cell k1 (fun e => hEK e.symm); have kq2 := ho.cell k2 (fun e => hEK e.symm); have kq3 := ho.cell k3 (fun e => hEK e.symm); have kqf : ∀ i, w2.frozen? ⟨w.heap.size, i, none⟩ = false := (fun i => (ho.free kl (fun e => hEK e.symm)).trans (kf i)); have kql : w.heap.size < w2.heap.size := Nat.lt_of_lt_of_le kl ho.size))
          all_goals go_wp2_with fail
          all_goals refine bodyPost_ret (v := .tuple #[.agg #[.int .i64 0, .int .i64 0, .string ⟨#[]⟩, .string ⟨#[]⟩], .iface 56 (.pointer (some ⟨E, 0, none⟩))]) ?_ rfl ?_
          all_goals try (simp [results, Tryz.results17, go_sem, *]; done)
          all_goals unfold NextPost
          all_goals rw [HN.out]
          all_goals refine ⟨Acc.bound (line' := line') (col' := col') (snip' := snip') A1 H1 O1 (Nat.le_refl _) hW hSE HEE.out hL hR hc.out hr HEb.out ?_ ?_, .inr (.inl ⟨rfl, HNE.out, E, rfl⟩)⟩
          all_goals first
            | ((repeat (first | exact ho.own | rw [Below.heap_setCell _ _ _ _ hEK])); done)
            | (repeat (first | apply Only2.setK | refine Only2.bind ?_ ho | exact Only2.refl _ _ _ | exact Only2.below (Only2.refl _ _ _) (by repeat (first | exact Below.refl _ _ | apply below_drew | apply below_drewN | apply below_alloc | apply below_grow))))
        | some q =>
          rw [hqq, qVal_fOf] at c0
          clear hqq
          have hq1 := hn1 q
          clear hn1
          go_wp2_with fail
          go_region_with (go_at_call 31; refine (Hb.out _ (by repeat (first | exact HEb.out | rw [Below.heap_setCell _ _ _ _ hEK]))).mono ?_; rintro e w2 ⟨rfl, line', col', snip', ho⟩; try (have kq0 := ho.cell k0 (fun e => hEK e.symm); have kq1 := ho.cell k1 (fun e => hEK e.symm); have kq2 := ho.cell k2 (fun e => hEK e.symm); have kq3 := ho.cell k3 (fun e => hEK e.symm); have kqf : ∀ i, w2.frozen? ⟨w.heap.size, i, none⟩ = false := (fun i => (ho.free kl (fun e => hEK e.symm)).trans (kf i)); have kql : w.heap.size < w2.heap.size := Nat.lt_of_lt_of_le kl ho.size))
          all_goals go_wp2_with fail
          all_goals refine bodyPost_ret (v := .tuple #[.agg #[.int .i64 0, .int .i64 0, .string ⟨#[]⟩, .string ⟨#[]⟩], .iface 56 (.pointer (some ⟨E, 0, none⟩))]) ?_ rfl ?_
          all_goals try (simp [results, Tryz.results17, go_sem, *]; done)
          all_goals unfold NextPost
          all_goals rw [HN.out]
          all_goals refine ⟨Acc.bound (line' := line') (col' := col') (snip' := snip') A1 H1 O1 (Nat.le_refl _) hW hSE HEE.out hL hR hc.out hr HEb.out ?_ ?_, .inr (.inl ⟨rfl, HNE.out, E, rfl⟩)⟩
          all_goals first
            | ((repeat (first | exact ho.own | rw [Below.heap_setCell _ _ _ _ hEK])); done)
            | (repeat (first | apply Only2.setK | refine Only2.bind ?_ ho | exact Only2.refl _ _ _ | exact Only2.below (Only2.refl _ _ _) (by repeat (first | exact Below.refl _ _ | apply below_drew | apply below_drewN | apply below_alloc | apply below_grow))))
      | none =>
        have hev : ev = .pointer none := by
          rcases hee with ⟨h, _⟩ | ⟨E, f, o, line, col, msg, snip, _, _, h, _⟩
          · exact h
          · rw [herr] at h; cases h
        subst hev
        have Herr := Lib.hid herr
        clear herr
        cases htk : t1.toks with
        | nil =>
          have hqq : t1.q = none := by
            cases hq : t1.q with
            | none => rfl
            | some q =>
              have := going_iff.2 ⟨⟨q, hq⟩, Herr.out, htk⟩
              rw [Hgo.out] at this; cases this
          have hN : nextS s t = (none, t1) := by rw [nextS_nil (by rw [Hfin.out]; exact Herr.out) (by rw [Hfin.out]; exact htk), Hfin.out]
          rw [hqq] at c0
          unfold qVal at c0
          have hr0 := hr
          rw [htk] at hr0
          have HN := Lib.hid hN
          clear hN hqq htk
          go_wp2_with fail
          obtain ⟨dv, back, hr1, _⟩ := hr0
          refine (dequeue_none R dv _ wr hr1).mono ?_
          rintro e w1 ⟨rfl, xs, d, rfl⟩
          have O2 := O1.below (grow_below wr xs d)
          have kq0 := O2.cell 0
          have kq1 := O2.cell 1
          have kq2 := O2.cell 2
          have kq3 := O2.cell 3
          have kqf : ∀ i, (grow wr xs d).frozen? ⟨w.heap.size, i, none⟩ = false := by obtain ⟨⟨T, h⟩, _⟩ := O2; exact free_of_block h
          have A2 := A1.below (grow_below wr xs d)
          have H2 := H1.keep (grow_below wr xs d)
          have kl3 : w.heap.size < (grow wr xs d).heap.size := by obtain ⟨⟨T, h⟩, _⟩ := O2; exact (Array.getElem?_eq_some_iff.1 h).1
          obtain ⟨wg, hwg⟩ : ∃ x, x = grow wr xs d := ⟨_, rfl⟩
          rw [← hwg] at O2 kq0 kq1 kq2 kq3 kqf A2 H2 kl3 ⊢
          clear hwg
          simp only [zTok, List.getElem?_toArray, List.getElem?_cons_zero, List.getElem?_cons_succ] at kq0 kq1 kq2 kq3
          have kl4 : w.heap.size < wg.heap.size + 1 := by omega
          go_wp2_with fail
          refine bodyPost_ret (v := .tuple #[.agg #[.int .i64 0, .int .i64 0, .string ⟨#[]⟩, .string ⟨#[]⟩], .iface 63 (.string ⟨#[69, 79, 70]⟩)]) ?_ rfl ?_
          · simp [results, Tryz.results17, go_sem, *]
          · unfold NextPost
            rw [HN.out]
            obtain ⟨⟨T, hT⟩, _⟩ := id O2
            exact ⟨A2.wrote H2 O2 (Nat.le_refl _) hW (((((OnlyL.refl hT).setCell 0 _).setCell 1 _).setCell 2 _).setCell 3 _ |>.alloc _), .inr (.inr ⟨rfl, Herr.out, rfl⟩)⟩
        | cons k l =>
          have hN : nextS s t = (some k, { t1 with toks := l }) := by rw [nextS_cons (by rw [Hfin.out]; exact Herr.out) (by rw [Hfin.out]; exact htk), Hfin.out]
          have hr0 := hr
          rw [htk] at hr0
          have hlen : ((((k :: l).length : Nat) : Int) == 0) = false := by simp; omega
          have hlen2 : ¬ ((((k :: l).length : Nat) : Int) = 0) := by simp; omega
          obtain ⟨n, hn⟩ : ∃ n : Nat, (k :: l).length = n := ⟨_, rfl⟩
          rw [hn] at hlen hlen2
          have Hn := Lib.hid hn
          have HN := Lib.hid hN
          have hp := H1.poss
          have tail : ∀ (w2 : World), RDone S1 R l wr w2 → ∃ S2, Acc S w S2 w2 ∧ Lx W0 S2 w2 L s { t1 with toks := l } ∧ Own S2 w2 w.heap.size zTok := by
            intro w2 hd
            have hRL := hr.ne hc.out
            have hL2 := hd.lex hc.out hRL
            obtain ⟨S2, hS2, H2, hf2⟩ := Done.ring (t2 := { t1 with toks := l }) H1 hL hR hr hee hc.out (OnlyL.refl hc.out) hd (OnlyL.refl hL2) H1.small rfl rfl hp
            exact ⟨S2, A1.step hS2 hf2, H2, O1.keep hS2 hf2⟩
          have Tail := Lib.hid tail
          clear hn hN htk tail
          cases hqq : t1.q with
          | none =>
            rw [hqq] at c0
            unfold qVal at c0
            clear hqq
            go_wp2_with fail
            refine (dequeue_any hr0 H1.lt).mono ?_
            rintro e w2 ⟨rfl, hd⟩
            obtain ⟨S2, A2, H2, O2⟩ := Tail.out w2 hd
            have kq0 := O2.cell 0
            have kq1 := O2.cell 1
            have kq2 := O2.cell 2
            have kq3 := O2.cell 3
            have kqf : ∀ i, w2.frozen? ⟨w.heap.size, i, none⟩ = false := by obtain ⟨⟨T, h⟩, _⟩ := O2; exact free_of_block h
            have kl3 : w.heap.size < w2.heap.size := by obtain ⟨⟨T, h⟩, _⟩ := O2; exact (Array.getElem?_eq_some_iff.1 h).1
            have kl4 : w.heap.size < w2.heap.size + 1 := by omega
            simp only [zTok, List.getElem?_toArray, List.getElem?_cons_zero, List.getElem?_cons_succ] at kq0 kq1 kq2 kq3
            clear hd k0 k1 k2 k3 kf
            unfold tokVal
            go_wp2_with fail
            refine bodyPost_ret (v := .tuple #[.agg #[.int .i64 k.frm, .int .i64 k.to, .string k.kind, .string k.value], .nilIface]) ?_ rfl ?_
            · simp [results, Tryz.results17, go_sem, *]
            · unfold NextPost
              rw [HN.out]
              obtain ⟨⟨T, hT⟩, _⟩ := id O2
              exact ⟨A2.wrote H2 O2 (Nat.le_refl _) hW (((((OnlyL.refl hT).setCell 0 _).setCell 1 _).setCell 2 _).setCell 3 _ |>.alloc _), .inl ⟨k, rfl, rfl⟩⟩
          | some q =>
            rw [hqq, qVal_fOf] at c0
            have hq1 := hn1 q
            clear hqq hn1
            go_wp2_with fail
            refine (ringLen_any hr0).mono ?_
            rintro e w1 ⟨rfl, rfl⟩
            rw [Hn.out]
            go_wp2_with fail
            refine (dequeue_any hr0 H1.lt).mono ?_
            rintro e w2 ⟨rfl, hd⟩
            obtain ⟨S2, A2, H2, O2⟩ := Tail.out w2 hd
            have kq0 := O2.cell 0
            have kq1 := O2.cell 1
            have kq2 := O2.cell 2
            have kq3 := O2.cell 3
            have kqf : ∀ i, w2.frozen? ⟨w.heap.size, i, none⟩ = false := by obtain ⟨⟨T, h⟩, _⟩ := O2; exact free_of_block h
            have kl3 : w.heap.size < w2.heap.size := by obtain ⟨⟨T, h⟩, _⟩ := O2; exact (Array.getElem?_eq_some_iff.1 h).1
            have kl4 : w.heap.size < w2.heap.size + 1 := by omega
            simp only [zTok, List.getElem?_toArray, List.getElem?_cons_zero, List.getElem?_cons_succ] at kq0 kq1 kq2 kq3
            clear hd k0 k1 k2 k3 kf
            unfold tokVal
            go_wp2_with fail
            refine bodyPost_ret (v := .tuple #[.agg #[.int .i64 k.frm, .int .i64 k.to, .string k.kind, .string k.value], .nilIface]) ?_ rfl ?_
            · simp [results, Tryz.results17, go_sem, *]
            · unfold NextPost
              rw [HN.out]
              obtain ⟨⟨T, hT⟩, _⟩ := id O2
              exact ⟨A2.wrote H2 O2 (Nat.le_refl _) hW (((((OnlyL.refl hT).setCell 0 _).setCell 1 _).setCell 2 _).setCell 3 _ |>.alloc _), .inl ⟨k, rfl, rfl⟩⟩

end Go.Proofs.YtkplkccjeacniaaGreatFmt
