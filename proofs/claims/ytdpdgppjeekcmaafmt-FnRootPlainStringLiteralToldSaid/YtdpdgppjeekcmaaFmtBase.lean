/-
  What the walks over the lexer share: Go's tables in the world (Tabs), what a call may turn (Fr), the lexer in memory (Lx).
-/
import Derived.Test.YtdpdgppjeekcmaaFmtJA
import Derived.Test.YtdpdgppjeekcmaaFmtProg
import Derived.Test.YtdpdgppjeekcmaaFmtShelf
import Derived.WalkKit
import Derived.Deep.QuietTactic
import Derived.BigQuiet
import Derived.Deep.LoopGhost
import Derived.Shelf.Unicode.PredsPay
import Derived.Lib.Hide
namespace Go.Proofs.YtdpdgppjeekcmaaFmt
open Go Go.Lib Go.RowKit Go.Proofs

/-- Go's own tables, as their initialisers lay them. -/
structure Tabs (W : World) : Prop where
  utf8 : Lib.Utf8Tabs 2 3 W
  white : Lib.WhiteTab 0 W
  digit : RVar 1 digitT W
  props : Lib.TabIs Tryf.prog W "unicode.properties" .u8 Lib.propertiesTab
  letter : RVar 5 letterT W

theorem gProps : Tryf.prog.globalNamed "unicode.properties" = some 4 := by kernel_rfl

theorem Tabs.below {w w' : World} (h : Tabs w) (hb : Below w.heap.size w w') : Tabs w' :=
  ⟨Utf8Tabs_below h.utf8 hb, WhiteTab_below h.white hb, RVar_below h.digit hb, TabIs_below gProps h.props hb, RVar_below h.letter hb⟩

/-- Of the blocks that were there those of S alone have turned. -/
structure Fr (S : Nat → Prop) (w w' : World) : Prop where
  os : w'.os = w.os
  tape : w'.tape = w.tape
  output : w'.output = w.output
  size : w.heap.size ≤ w'.heap.size
  block : ∀ k, k < w.heap.size → ¬ S k → w'.heap[k]? = w.heap[k]?

theorem Fr.refl (S : Nat → Prop) (w : World) : Fr S w w := ⟨rfl, rfl, rfl, Nat.le_refl _, fun _ _ _ => rfl⟩
theorem Fr.of_below {S : Nat → Prop} {w w' : World} (h : Below w.heap.size w w') : Fr S w w' := ⟨h.os, h.tape, h.output, h.size, fun k hk _ => h.block k hk⟩
theorem Fr.trans {S S1 : Nat → Prop} {a b c : World} (h : Fr S a b) (k : Fr S1 b c) (hs : ∀ i, S1 i → S i ∨ a.heap.size ≤ i) : Fr S a c :=
  ⟨k.os.trans h.os, k.tape.trans h.tape, k.output.trans h.output, Nat.le_trans h.size k.size, fun i hi hn =>
    (k.block i (Nat.lt_of_lt_of_le hi h.size) (fun h1 => (hs i h1).elim hn (by omega))).trans (h.block i hi hn)⟩
theorem Fr.below {S : Nat → Prop} {B : Nat} {w w' : World} (h : Fr S w w') (old : ∀ k, S k → B ≤ k) (hB : B ≤ w.heap.size) : Below B w w' :=
  ⟨h.os, h.tape, h.output, h.size, fun k hk => h.block k (by omega) (fun hs => by have := old k hs; omega)⟩

/-- A state as the lexer's first cell holds it. -/
def qVal : Option Q → Value
  | none => .nilFunc
  | some .root => .func (.func 31) #[] #[]
  | some .number => .func (.func 29) #[] #[]
  | some .questionMark => .func (.func 55) #[] #[]
  | some .slash => .func (.func 56) #[] #[]
  | some .pointer => .func (.func 57) #[] #[]
  | some .dot => .func (.func 60) #[] #[]
  | some .identifier => .func (.func 62) #[] #[]
  | some .not => .func (.func 94) #[] #[]
  | some .singleLine => .func (.func 89) #[] #[]
  | some .multiLine => .func (.func 90) #[] #[]

/-- The lexer's ten cells. -/
def cellsL (s : ByteArray) (R : Nat) (ev : Value) (t : St) : Array Value :=
  #[qVal t.q, .string s, .pointer (some ⟨R, 0, none⟩), ev, .int .i64 t.sb, .int .i64 t.sr, .int .i64 t.eb, .int .i64 t.er, .bool t.eof, .bool t.dis]

def tokCells (k : Tok) : List Value := [.int .i64 k.frm, .int .i64 k.to, .string k.kind, .string k.value]

/-- The queue in memory. -/
def RingW (S : Nat → Prop) (w : World) (R : Nat) (toks : List Tok) : Prop :=
  ∃ (dv : Value) (back : Nat), w.heap[R]? = some (.cells #[dv, .int .i64 back, .int .i64 toks.length, .int .i64 10] 96 (0, 0)) ∧
    ((dv = .slice none 0 0 ∧ back = 0 ∧ toks = []) ∨
      ∃ (D : Nat) (c : Array Value), dv = .slice (some ⟨D, 0, none⟩) 10 10 ∧ S D ∧ w.heap[D]? = some (.cells c 67 (0, 0)) ∧ c.size = 40 ∧ back < 10 ∧ toks.length ≤ 10 ∧
        ∀ i k, toks[i]? = some k → ∀ j, j < 4 → c[4 * ((back + i) % 10) + j]? = (tokCells k)[j]?)

/-- The error in memory. -/
def ErrW (S : Nat → Prop) (w : World) (ev : Value) (err : Option (Int × Int)) : Prop :=
  (ev = .pointer none ∧ err = none) ∨
    ∃ (E : Nat) (f o line col : Int) (msg snip : ByteArray), ev = .pointer (some ⟨E, 0, none⟩) ∧ S E ∧ err = some (f, o) ∧
      w.heap[E]? = some (.cells #[.int .i64 f, .int .i64 o, .int .i64 line, .int .i64 col, .string msg, .string snip, .nilIface] 105 (0, 0))

/-- THE LEXER IN MEMORY at block L, over the source s, its fields t; S: its blocks; W0: the world in which the law began. -/
structure Lx (W0 : World) (S : Nat → Prop) (w : World) (L : Nat) (s : ByteArray) (t : St) : Prop where
  tabs : Tabs W0
  low : Below W0.heap.size W0 w
  old : ∀ k, S k → W0.heap.size ≤ k
  lt : ∀ k, S k → k < w.heap.size
  small : s.size ≤ 1099511627776
  body : ∃ R ev, S L ∧ S R ∧ w.heap[L]? = some (.cells (cellsL s R ev t) 61 (0, 0)) ∧ RingW S w R t.toks ∧ ErrW S w ev t.err
  poss : t.sb ≤ t.eb ∧ t.eb ≤ 1099511627776 ∧ t.sr ≤ t.er ∧ t.er ≤ t.eb

theorem Lx.tabsAt {W0 w : World} {S : Nat → Prop} {L : Nat} {s : ByteArray} {t : St} (h : Lx W0 S w L s t) : Tabs w := h.tabs.below h.low

/-- Where S's blocks stand as they stood, the lexer does. -/
theorem RingW.keep {S : Nat → Prop} {w w' : World} {R : Nat} {toks : List Tok} (h : RingW S w R toks) (hR : w'.heap[R]? = w.heap[R]?) (hk : ∀ k c, S k → w.heap[k]? = some (.cells c 67 (0, 0)) → w'.heap[k]? = w.heap[k]?) : RingW S w' R toks := by
  obtain ⟨dv, back, h0, h1⟩ := h
  refine ⟨dv, back, hR.trans h0, ?_⟩
  rcases h1 with h1 | ⟨D, c, e, hs, hd, r⟩
  · exact .inl h1
  · exact .inr ⟨D, c, e, hs, (hk D c hs hd).trans hd, r⟩
theorem ErrW.keep {S : Nat → Prop} {w w' : World} {ev : Value} {err : Option (Int × Int)} (h : ErrW S w ev err) (hk : ∀ k c, S k → w.heap[k]? = some (.cells c 105 (0, 0)) → w'.heap[k]? = w.heap[k]?) : ErrW S w' ev err := by
  rcases h with h | ⟨E, f, o, line, col, msg, snip, e, hs, he, hb⟩
  · exact .inl h
  · exact .inr ⟨E, f, o, line, col, msg, snip, e, hs, he, (hk E _ hs hb).trans hb⟩
theorem Lx.keep {W0 w w' : World} {S : Nat → Prop} {L : Nat} {s : ByteArray} {t : St} (h : Lx W0 S w L s t) (hb : Below w.heap.size w w') : Lx W0 S w' L s t := by
  obtain ⟨R, ev, hL, hR, hc, hr, he⟩ := h.body
  have hk : ∀ k, S k → w'.heap[k]? = w.heap[k]? := fun k hk => hb.block k (h.lt k hk)
  refine ⟨h.tabs, h.low.trans (hb.mono h.low.size), h.old, fun k hk => Nat.lt_of_lt_of_le (h.lt k hk) hb.size, h.small, ⟨R, ev, hL, hR, (hk L hL).trans hc, hr.keep (hk R hR) (fun k _ hs _ => hk k hs), he.keep (fun k _ hs _ => hk k hs)⟩, h.poss⟩
/-- Where another lexer's blocks have turned. -/
theorem Lx.keepFr {W0 w w' : World} {S T : Nat → Prop} {L : Nat} {s : ByteArray} {t : St} (h : Lx W0 S w L s t) (hf : Fr T w w') (hd : ∀ k, S k → ¬ T k) (ht : ∀ k, T k → W0.heap.size ≤ k) : Lx W0 S w' L s t := by
  obtain ⟨R, ev, hL, hR, hc, hr, he⟩ := h.body
  have hk : ∀ k, S k → w'.heap[k]? = w.heap[k]? := fun k hk => hf.block k (h.lt k hk) (hd k hk)
  refine ⟨h.tabs, h.low.trans (hf.below ht h.low.size), h.old, fun k hk => Nat.lt_of_lt_of_le (h.lt k hk) hf.size, h.small, ⟨R, ev, hL, hR, (hk L hL).trans hc, hr.keep (hk R hR) (fun k _ hs _ => hk k hs), he.keep (fun k _ hs _ => hk k hs)⟩, h.poss⟩

/-- WHAT A LEXER's CALL COMES TO: its fields are t'. -/
def Done (W0 : World) (S : Nat → Prop) (w : World) (L : Nat) (s : ByteArray) (t' : St) (w' : World) : Prop :=
  ∃ S', (∀ k, S' k → S k ∨ w.heap.size ≤ k) ∧ Lx W0 S' w' L s t' ∧ Fr S w w'

theorem Done.refl {W0 w : World} {S : Nat → Prop} {L : Nat} {s : ByteArray} {t : St} (h : Lx W0 S w L s t) : Done W0 S w L s t w := ⟨S, fun _ h => .inl h, h, Fr.refl _ _⟩
theorem Done.trans {W0 a b c : World} {S S1 : Nat → Prop} {L : Nat} {s : ByteArray} {t : St} (h1 : ∀ k, S1 k → S k ∨ a.heap.size ≤ k) (f : Fr S a b) (k : Done W0 S1 b L s t c) : Done W0 S a L s t c := by
  obtain ⟨S', h, hx, hf⟩ := k
  exact ⟨S', fun i hi => (h i hi).elim (h1 i) (fun hb => .inr (Nat.le_trans f.size hb)), hx, f.trans hf h1⟩
theorem Done.below {W0 a b : World} {S : Nat → Prop} {L : Nat} {s : ByteArray} {t : St} (h : Lx W0 S a L s t) (hb : Below a.heap.size a b) : Done W0 S a L s t b := ⟨S, fun _ h => .inl h, h.keep hb, Fr.of_below hb⟩

/-- THE WORLD WITH NEW BLOCKS BEHIND THE OLD ONES: what a call leaves that turns nothing ('Below w.heap.size w w''), written out, so that the walk reads old cells through it. -/
def grow (w : World) (xs : Array Obj) (d : Nat) : World := { w with heap := w.heap ++ xs, drawn := d }
theorem grow_of {w w' : World} (h : Below w.heap.size w w') : ∃ xs d, w' = grow w xs d := by
  refine ⟨w'.heap.extract w.heap.size w'.heap.size, w'.drawn, ?_⟩
  have hh : w'.heap = w.heap ++ w'.heap.extract w.heap.size w'.heap.size := by
    apply Array.ext_getElem?
    intro i
    by_cases hi : i < w.heap.size
    · rw [Array.getElem?_append_left hi]; exact h.block i hi
    · rw [Array.getElem?_append_right (by omega), Array.getElem?_extract]
      have := h.size
      by_cases h2 : i < w'.heap.size
      · rw [if_pos (by omega)]; congr 1; omega
      · rw [if_neg (by omega)]; exact Array.getElem?_eq_none (by omega)
  have h1 := h.os; have h2 := h.tape; have h3 := h.output
  cases w'
  simp only [grow] at *
  subst h1; subst h2; subst h3
  exact congrArg (fun x => World.mk x _ _ _ _) hh
theorem heap_grow (w : World) (xs : Array Obj) (d k : Nat) (h : k < w.heap.size) : (grow w xs d).heap[k]? = w.heap[k]? := Array.getElem?_append_left h
@[go_sem, simp] theorem size_grow (w : World) (xs : Array Obj) (d : Nat) : (grow w xs d).heap.size = w.heap.size + xs.size := by simp [grow]
theorem cell_grow {w : World} {xs : Array Obj} {d : Nat} {a : Addr} {v : Value} (h : w.cell? a = some v) : (grow w xs d).cell? a = some v := by
  have hlt := World.block_lt_of_cell? w a h
  rw [← h]
  unfold World.cell?
  rw [heap_grow _ _ _ _ hlt]
theorem cell_grow_lt {w : World} {xs : Array Obj} {d : Nat} {a : Addr} (h : a.block < w.heap.size) : (grow w xs d).cell? a = w.cell? a := by
  unfold World.cell?
  rw [heap_grow _ _ _ _ h]
theorem frozen_grow_lt {w : World} {xs : Array Obj} {d : Nat} {a : Addr} (h : a.block < w.heap.size) : (grow w xs d).frozen? a = w.frozen? a := by
  unfold World.frozen?
  rw [heap_grow _ _ _ _ h]
attribute [go_sem] cell_grow_lt frozen_grow_lt
@[go_sem, simp] theorem drew_grow (w : World) (xs : Array Obj) (d : Nat) : (grow w xs d).drew = grow w xs (d + 1) := rfl
@[go_sem, simp] theorem drewN_grow (w : World) (xs : Array Obj) (d n : Nat) : (grow w xs d).drewN n = grow w xs (d + n) := rfl
theorem grow_below (w : World) (xs : Array Obj) (d : Nat) : Below w.heap.size w (grow w xs d) := ⟨rfl, rfl, rfl, by simp, fun k hk => heap_grow _ _ _ _ hk⟩

theorem below_drew {a w : World} (h : Below a.heap.size a w) : Below a.heap.size a w.drew := h.drew
theorem below_drewN {a w : World} {n : Nat} (h : Below a.heap.size a w) : Below a.heap.size a (w.drewN n) := ⟨h.os, h.tape, h.output, h.size, h.block⟩
theorem below_alloc {a w : World} {o : Obj} (h : Below a.heap.size a w) : Below a.heap.size a (w.alloc o) := h.alloc h.size o
theorem below_grow {a w : World} {xs : Array Obj} {d : Nat} (h : Below a.heap.size a w) : Below a.heap.size a (grow w xs d) := h.trans ((grow_below w xs d).mono h.size)

/-- Of the old blocks L alone has turned, and it is c now. -/
structure OnlyL (L : Nat) (T : TypeId) (c : Array Value) (w w' : World) : Prop where
  os : w'.os = w.os
  tape : w'.tape = w.tape
  output : w'.output = w.output
  size : w.heap.size ≤ w'.heap.size
  others : ∀ k, k < w.heap.size → k ≠ L → w'.heap[k]? = w.heap[k]?
  own : w'.heap[L]? = some (.cells c T (0, 0))
theorem OnlyL.refl {L : Nat} {T : TypeId} {c : Array Value} {w : World} (h : w.heap[L]? = some (.cells c T (0, 0))) : OnlyL L T c w w := ⟨rfl, rfl, rfl, Nat.le_refl _, fun _ _ _ => rfl, h⟩
theorem OnlyL.below {L : Nat} {T : TypeId} {c : Array Value} {w w1 w' : World} (h : OnlyL L T c w w1) (hb : Below w1.heap.size w1 w') : OnlyL L T c w w' :=
  ⟨hb.os.trans h.os, hb.tape.trans h.tape, hb.output.trans h.output, Nat.le_trans h.size hb.size, fun k hk hn => (hb.block k (Nat.lt_of_lt_of_le hk h.size)).trans (h.others k hk hn),
    (hb.block L (Array.getElem?_eq_some_iff.1 h.own).1).trans h.own⟩
theorem OnlyL.drewN {L : Nat} {T : TypeId} {c : Array Value} {w w' : World} (h : OnlyL L T c w w') (n : Nat) : OnlyL L T c w (w'.drewN n) := ⟨h.os, h.tape, h.output, h.size, h.others, h.own⟩
theorem OnlyL.drew {L : Nat} {T : TypeId} {c : Array Value} {w w' : World} (h : OnlyL L T c w w') : OnlyL L T c w w'.drew := ⟨h.os, h.tape, h.output, h.size, h.others, h.own⟩
theorem OnlyL.alloc {L : Nat} {T : TypeId} {c : Array Value} {w w' : World} (h : OnlyL L T c w w') (o : Obj) : OnlyL L T c w (w'.alloc o) := h.below ((Below.refl _ _).alloc (Nat.le_refl _) o)
theorem OnlyL.grow {L : Nat} {T : TypeId} {c : Array Value} {w w' : World} (h : OnlyL L T c w w') (xs : Array Obj) (d : Nat) : OnlyL L T c w (grow w' xs d) := h.below (grow_below _ _ _)
theorem OnlyL.setCell {L : Nat} {T : TypeId} {c : Array Value} {w w' : World} (h : OnlyL L T c w w') (o : Nat) (v : Value) : OnlyL L T (c.setIfInBounds o v) w (w'.setCell ⟨L, o, none⟩ v) :=
  ⟨h.os, h.tape, h.output, by simp [World.setCell, h.size], fun k hk hn => (Below.heap_setCell _ _ _ _ hn).trans (h.others k hk hn), by simp only [World.setCell, Array.getElem?_modify, h.own, if_true]; rfl⟩
theorem OnlyL.trans {L : Nat} {T : TypeId} {c c' : Array Value} {w w1 w' : World} (h : OnlyL L T c w w1) (k : OnlyL L T c' w1 w') : OnlyL L T c' w w' :=
  ⟨k.os.trans h.os, k.tape.trans h.tape, k.output.trans h.output, Nat.le_trans h.size k.size, fun i hi hn => (k.others i (Nat.lt_of_lt_of_le hi h.size) hn).trans (h.others i hi hn), k.own⟩
theorem OnlyL.cell {L : Nat} {T : TypeId} {c : Array Value} {w w' : World} (h : OnlyL L T c w w') {a : Addr} {v : Value} (ha : w.cell? a = some v) (hn : a.block ≠ L) : w'.cell? a = some v := by
  rw [← ha]
  unfold World.cell?
  rw [h.others _ (World.block_lt_of_cell? w a ha) hn]
theorem OnlyL.cast {L : Nat} {T : TypeId} {c c' : Array Value} {w w' : World} (h : OnlyL L T c w w') (e : c = c') : OnlyL L T c' w w' := e ▸ h

/-- Two blocks of other kinds. -/
theorem kinds_ne {c c' : Array Value} {T T' : TypeId} {fz fz' : Nat × Nat} {P : Prop} (hne : T ≠ T') (h : some (Obj.cells c T fz) = some (Obj.cells c' T' fz')) : P := by
  injection h with h
  injection h with _ h _
  exact absurd h hne

/-- A lexer's step that writes its own ten cells alone. -/
theorem Done.only {W0 w w' : World} {S : Nat → Prop} {L R : Nat} {ev : Value} {s : ByteArray} {t t' : St} (h : Lx W0 S w L s t) (hL : S L) (hR : S R) (hr : RingW S w R t.toks) (he : ErrW S w ev t.err) (ho : OnlyL L 61 (cellsL s R ev t') w w')
    (hlo : w.heap[L]? = some (.cells (cellsL s R ev t) 61 (0, 0))) (h1 : t'.toks = t.toks) (h2 : t'.err = t.err) (hp : t'.sb ≤ t'.eb ∧ t'.eb ≤ 1099511627776 ∧ t'.sr ≤ t'.er ∧ t'.er ≤ t'.eb) : Done W0 S w L s t' w' := by
  have hRL : R ≠ L := by
    intro e
    obtain ⟨dv, back, h0, _⟩ := hr
    rw [e, hlo] at h0
    exact kinds_ne (by decide) h0
  have hf : Fr S w w' := ⟨ho.os, ho.tape, ho.output, ho.size, fun k hk hs => ho.others k hk (fun e => hs (e ▸ hL))⟩
  refine ⟨S, fun _ h => .inl h, ⟨h.tabs, h.low.trans (hf.below h.old h.low.size), h.old, fun k hk => Nat.lt_of_lt_of_le (h.lt k hk) ho.size, h.small, ⟨R, ev, hL, hR, ho.own, ?_, ?_⟩, hp⟩, hf⟩
  · rw [h1]
    refine hr.keep (ho.others R (h.lt R hR) hRL) (fun k c hk hc => ho.others k (h.lt k hk) ?_)
    intro e
    rw [e, hlo] at hc
    exact kinds_ne (by decide) hc
  · rw [h2]
    refine he.keep (fun k c hk hc => ho.others k (h.lt k hk) ?_)
    intro e
    rw [e, hlo] at hc
    exact kinds_ne (by decide) hc

/-- The ten cells, as the walk asks for them. -/
theorem cell_of_block {w : World} {L : Nat} {c : Array Value} {T : TypeId} {fz : Nat × Nat} (h : w.heap[L]? = some (.cells c T fz)) (i : Nat) : w.cell? ⟨L, i, none⟩ = c[i]? := by simp [World.cell?, h]
theorem free_of_block {w : World} {L : Nat} {c : Array Value} {T : TypeId} (h : w.heap[L]? = some (.cells c T (0, 0))) (i : Nat) : w.frozen? ⟨L, i, none⟩ = false := by simp [World.frozen?, h]

/-- The lexer opened: its blocks and its ten cells. -/
theorem Lx.opened {W0 w : World} {S : Nat → Prop} {L : Nat} {s : ByteArray} {t : St} (h : Lx W0 S w L s t) :
    ∃ R ev, S L ∧ S R ∧ Hid (w.heap[L]? = some (.cells (cellsL s R ev t) 61 (0, 0))) ∧ RingW S w R t.toks ∧ ErrW S w ev t.err ∧ L < w.heap.size ∧
      w.cell? ⟨L, 0, none⟩ = some (qVal t.q) ∧ w.cell? ⟨L, 1, none⟩ = some (.string s) ∧ w.cell? ⟨L, 2, none⟩ = some (.pointer (some ⟨R, 0, none⟩)) ∧ w.cell? ⟨L, 3, none⟩ = some ev ∧
      w.cell? ⟨L, 4, none⟩ = some (.int .i64 t.sb) ∧ w.cell? ⟨L, 5, none⟩ = some (.int .i64 t.sr) ∧ w.cell? ⟨L, 6, none⟩ = some (.int .i64 t.eb) ∧ w.cell? ⟨L, 7, none⟩ = some (.int .i64 t.er) ∧
      w.cell? ⟨L, 8, none⟩ = some (.bool t.eof) ∧ w.cell? ⟨L, 9, none⟩ = some (.bool t.dis) ∧ ∀ i, w.frozen? ⟨L, i, none⟩ = false := by
  obtain ⟨R, ev, hL, hR, hc, hr, he⟩ := h.body
  exact ⟨R, ev, hL, hR, Lib.hid hc, hr, he, h.lt L hL, cell_of_block hc 0, cell_of_block hc 1, cell_of_block hc 2, cell_of_block hc 3, cell_of_block hc 4, cell_of_block hc 5, cell_of_block hc 6, cell_of_block hc 7, cell_of_block hc 8, cell_of_block hc 9, free_of_block hc⟩

theorem OnlyL.free {L : Nat} {T : TypeId} {c : Array Value} {w w' : World} (h : OnlyL L T c w w') {a : Addr} (hl : a.block < w.heap.size) (hn : a.block ≠ L) : w'.frozen? a = w.frozen? a := by
  unfold World.frozen?
  rw [h.others _ hl hn]

/-- What a call of the queue's turns: its own block, and its row of tokens. -/
structure RFr (S : Nat → Prop) (R : Nat) (w w' : World) : Prop where
  os : w'.os = w.os
  tape : w'.tape = w.tape
  output : w'.output = w.output
  size : w.heap.size ≤ w'.heap.size
  others : ∀ k, k < w.heap.size → k ≠ R → (∀ c, S k → w.heap[k]? ≠ some (.cells c 67 (0, 0))) → w'.heap[k]? = w.heap[k]?
def RDone (S : Nat → Prop) (R : Nat) (toks : List Tok) (w w' : World) : Prop :=
  ∃ S', (∀ k, S k → S' k) ∧ (∀ k, S' k → S k ∨ w.heap.size ≤ k) ∧ (∀ k, S' k → k < w'.heap.size) ∧ RFr S R w w' ∧ RingW S' w' R toks

theorem RFr.lex {S : Nat → Prop} {R L : Nat} {c : Array Value} {w w' : World} (h : RFr S R w w') (hc : w.heap[L]? = some (.cells c 61 (0, 0))) (hR : R ≠ L) : w'.heap[L]? = some (.cells c 61 (0, 0)) :=
  (h.others L (Array.getElem?_eq_some_iff.1 hc).1 (fun e => hR e.symm) (fun c' _ e => kinds_ne (by decide) (hc.symm.trans e))).trans hc

theorem RingW.ne {S : Nat → Prop} {w : World} {R L : Nat} {toks : List Tok} {c : Array Value} (h : RingW S w R toks) (hc : w.heap[L]? = some (.cells c 61 (0, 0))) : R ≠ L := by
  intro e
  obtain ⟨dv, back, h0, _⟩ := h
  rw [e, hc] at h0
  exact kinds_ne (by decide) h0

/-- A lexer's step that writes its own cells, calls its queue, and writes its own cells again. -/
theorem Done.ring {W0 w w1 w2 w3 : World} {S : Nat → Prop} {L R : Nat} {ev : Value} {s s1 s2 : ByteArray} {t t1 t2 : St} {toks : List Tok} (h : Lx W0 S w L s t) (hL : S L) (hR : S R) (hr : RingW S w R t.toks) (he : ErrW S w ev t.err)
    (hlo : w.heap[L]? = some (.cells (cellsL s R ev t) 61 (0, 0))) (ho1 : OnlyL L 61 (cellsL s1 R ev t1) w w1) (hd : RDone S R toks w1 w2) (ho2 : OnlyL L 61 (cellsL s2 R ev t2) w2 w3)
    (hs2 : s2.size ≤ 1099511627776) (e1 : t2.toks = toks) (e2 : t2.err = t.err) (hp : t2.sb ≤ t2.eb ∧ t2.eb ≤ 1099511627776 ∧ t2.sr ≤ t2.er ∧ t2.er ≤ t2.eb) : Done W0 S w L s2 t2 w3 := by
  obtain ⟨S', hSS, hS', hlt, hf, hr'⟩ := hd
  have hRL : R ≠ L := hr.ne hlo
  have fr3 : Fr S w w3 := by
    refine ⟨ho2.os.trans (hf.os.trans ho1.os), ho2.tape.trans (hf.tape.trans ho1.tape), ho2.output.trans (hf.output.trans ho1.output), Nat.le_trans ho1.size (Nat.le_trans hf.size ho2.size), fun k hk hs => ?_⟩
    have k1 : k < w1.heap.size := Nat.lt_of_lt_of_le hk ho1.size
    have k2 : k < w2.heap.size := Nat.lt_of_lt_of_le k1 hf.size
    have kL : k ≠ L := fun e => hs (e ▸ hL)
    have kR : k ≠ R := fun e => hs (e ▸ hR)
    exact (ho2.others k k2 kL).trans ((hf.others k k1 kR (fun _ hk' => absurd hk' hs)).trans (ho1.others k hk kL))
  refine ⟨S', fun k hk => (hS' k hk).elim .inl (fun hb => .inr (Nat.le_trans ho1.size hb)), ⟨h.tabs, h.low.trans (fr3.below h.old h.low.size), fun k hk => ?_, fun k hk => Nat.lt_of_lt_of_le (hlt k hk) ho2.size, hs2, ⟨R, ev, hSS L hL, hSS R hR, ho2.own, ?_, ?_⟩, hp⟩, fr3⟩
  · rcases hS' k hk with h1 | h1
    · exact h.old k h1
    · exact Nat.le_trans h.low.size (Nat.le_trans ho1.size h1)
  · rw [e1]
    have hLw2 := hf.lex ho1.own hRL
    refine hr'.keep (ho2.others R (hlt R (hSS R hR)) hRL) (fun k c hk hc => ho2.others k (hlt k hk) ?_)
    intro e
    rw [e, hLw2] at hc
    exact kinds_ne (by decide) hc
  · rw [e2]
    rcases he with he | ⟨E, f, o, line, col, msg, snip, hev, hS, hee, hb⟩
    · exact .inl he
    · refine .inr ⟨E, f, o, line, col, msg, snip, hev, hSS E hS, hee, ?_⟩
      have hEL : E ≠ L := by intro e; rw [e, hlo] at hb; exact kinds_ne (by decide) hb
      have hER : E ≠ R := by
        intro e
        obtain ⟨dv, back, h0, _⟩ := hr
        rw [e, h0] at hb
        exact kinds_ne (by decide) hb
      have k0 := h.lt E hS
      have k1 : E < w1.heap.size := Nat.lt_of_lt_of_le k0 ho1.size
      have b1 := (ho1.others E k0 hEL).trans hb
      have b2 := (hf.others E k1 hER (fun c _ e => kinds_ne (by decide) (b1.symm.trans e))).trans b1
      exact (ho2.others E (Nat.lt_of_lt_of_le k1 hf.size) hEL).trans b2

end Go.Proofs.YtdpdgppjeekcmaaFmt
