/-
  Walk: Next where a token waits.
-/
import Derived.Test.YtkplkccjeacniaaFmtEmitA
namespace Go.Proofs.YtkplkccjeacniaaFmt
open Go Go.Lib Go.RowKit Go.Proofs

theorem qVal_some (q : Q) : ∃ f, qVal (some q) = .func (.func f) #[] #[] := by cases q <;> exact ⟨_, rfl⟩

/-- A block of one's own beside the queue stays behind a call of it. -/
theorem RDone.beside {S : Nat → Prop} {R K : Nat} {toks : List Tok} {w w' : World} (h : RDone S R toks w w') (hK : K < w.heap.size) (hR : K ≠ R) (hS : ¬ S K) : w'.heap[K]? = w.heap[K]? := by
  obtain ⟨S', _, _, _, hf, _⟩ := h
  exact hf.others K hK hR (fun _ h => absurd h hS)
theorem OnlyL.fr {L : Nat} {T : TypeId} {c : Array Value} {w w' : World} (h : OnlyL L T c w w') : Fr (· = L) w w' := ⟨h.os, h.tape, h.output, h.size, fun k hk hn => h.others k hk hn⟩

/-- A call that makes a block of its own, turns the lexer, and writes its own block. -/
theorem Done.own {W0 w w1 w2 w3 : World} {S : Nat → Prop} {L K : Nat} {T : TypeId} {c : Array Value} {s : ByteArray} {t t' : St} (H : Lx W0 S w L s t) (hb : Below w.heap.size w w1) (hK : w.heap.size ≤ K) (hK1 : K < w1.heap.size) (hd : Done W0 S w1 L s t' w2) (ho : OnlyL K T c w2 w3) : Done W0 S w L s t' w3 := by
  obtain ⟨S2, hS2, H2, hf2⟩ := hd
  have hn : ∀ k, S2 k → ¬ k = K := fun k hk e => by
    subst e
    rcases hS2 k hk with h | h
    · have := H.lt k h; omega
    · omega
  refine ⟨S2, fun k hk => (hS2 k hk).elim .inl (fun h => .inr (Nat.le_trans hb.size h)), H2.keepFr ho.fr hn (fun k e => by subst e; exact Nat.le_trans H.low.size hK), ?_⟩
  exact ((Fr.of_below hb).trans hf2 (fun _ h => .inl h)).trans ho.fr (fun k e => by subst e; exact .inr hK)

set_option maxHeartbeats 1000000 in
set_option maxRecDepth 100000 in
/-- Next where no error stands and a token waits. -/
theorem nextTok_any {W0 w : World} {S : Nat → Prop} {L : Nat} {s : ByteArray} {t : St} {k : Tok} {l : List Tok} (H : Lx W0 S w L s t) (ht : t.toks = k :: l) (hq : t.q = some .root) (hee : t.err = none) :
    Calls Tryf.prog 13 #[.pointer (some ⟨L, 0, none⟩)] w fun e w' => e = .returned (.tuple #[tokVal k, .nilIface]) ∧ Done W0 S w L s { t with toks := l } w' := by
  obtain ⟨wa, hwa⟩ : ∃ x, x = w.alloc (.cells #[.int .i64 0, .int .i64 0, .string ⟨#[]⟩, .string ⟨#[]⟩] 37) := ⟨_, rfl⟩
  have hba : Below w.heap.size w wa := by rw [hwa]; exact (Below.refl _ _).alloc (Nat.le_refl _) _
  have hK : wa.heap[w.heap.size]? = some (.cells #[.int .i64 0, .int .i64 0, .string ⟨#[]⟩, .string ⟨#[]⟩] 37 (0, 0)) := by rw [hwa]; exact heap_alloc_at rfl
  have hKlt : w.heap.size < wa.heap.size := (Array.getElem?_eq_some_iff.1 hK).1
  have hSK : ¬ S w.heap.size := fun h => by have := H.lt _ h; omega
  have H1 := H.keep hba
  have Ha := Lib.hid hwa
  clear hwa
  obtain ⟨R, ev, hL, hR, hc, hr, he, l0, c0, c1, c2, c3, c4, c5, c6, c7, c8, c9, fz⟩ := H1.opened
  obtain ⟨p1, p2, p3, p4⟩ := H.poss
  have hRL := hr.ne hc.out
  have hev : ev = .pointer none := by
    rcases he with ⟨h, _⟩ | ⟨E, f, o, line, col, msg, snip, _, _, h, _⟩
    · exact h
    · rw [hee] at h; cases h
  subst hev
  rw [hq] at c0
  have hr0 := hr
  rw [ht] at hr0
  have hlen : ((((k :: l).length : Nat) : Int) == 0) = false := by simp; omega
  have hlen2 : ¬ ((((k :: l).length : Nat) : Int) = 0) := by simp; omega
  obtain ⟨n, hn⟩ : ∃ n : Nat, (k :: l).length = n := ⟨_, rfl⟩
  rw [hn] at hlen hlen2
  have Hn := Lib.hid hn
  clear hn
  unfold qVal at c0
  have hrun : ∀ wr, Sem.run Tryf.prog (binOp BinOp.neq 52 (Value.func (Fn.func 18) #[] #[]) Value.nilFunc) wr = .ok (.bool true) wr := fun _ => by kernel_rfl
  go_enter Tryf.func13, Tryf.ntmps13
  go_wp2_with fail
  go_loopg [] 0 (fun g wr => wr = wa)
  case atStart => exact Ha.out.symm
  case round =>
    subst hrel
    go_wp2_with fail
    refine (ringLen_any hr0).mono ?_
    rintro e w1 ⟨rfl, rfl⟩
    rw [Hn.out]
    go_wp2_with fail
    refine (dequeue_any hr0 H1.lt).mono ?_
    rintro e w2 ⟨rfl, hd⟩
    have hRK : w.heap.size ≠ R := fun e => hSK (e ▸ hR)
    have hK2 := (hd.beside hKlt hRK hSK).trans hK
    have k0 : w2.cell? ⟨w.heap.size, 0, none⟩ = some (.int .i64 0) := cell_of_block hK2 0
    have k1 : w2.cell? ⟨w.heap.size, 1, none⟩ = some (.int .i64 0) := cell_of_block hK2 1
    have k2 : w2.cell? ⟨w.heap.size, 2, none⟩ = some (.string ⟨#[]⟩) := cell_of_block hK2 2
    have k3 : w2.cell? ⟨w.heap.size, 3, none⟩ = some (.string ⟨#[]⟩) := cell_of_block hK2 3
    have kf := free_of_block hK2
    have kl1 : w.heap.size < w2.heap.size := (Array.getElem?_eq_some_iff.1 hK2).1
    have kl2 : w.heap.size < w2.heap.size + 1 := by omega
    have hL2 := hd.lex hc.out hRL
    have hD2 : Done W0 S wr L s { t with toks := l } w2 := Done.ring (t2 := { t with toks := l }) H1 hL hR hr he hc.out (OnlyL.refl hc.out) hd (OnlyL.refl hL2) H.small rfl rfl ⟨p1, p2, p3, p4⟩
    have HK := Lib.hid hK2
    have HL2 := Lib.hid hL2
    have HD := Lib.hid hd
    clear hK2 hL2 hd hK
    unfold tokVal
    go_wp2_with fail
    refine bodyPost_ret (v := .tuple #[.agg #[.int .i64 k.frm, .int .i64 k.to, .string k.kind, .string k.value], .nilIface]) ?_ rfl ⟨rfl, Done.own H hba (Nat.le_refl _) hKlt hD2 (((((OnlyL.refl HK.out).setCell 0 _).setCell 1 _).setCell 2 _).setCell 3 _ |>.alloc _)⟩
    simp [results, Tryf.results13, go_sem, *]

end Go.Proofs.YtkplkccjeacniaaFmt
