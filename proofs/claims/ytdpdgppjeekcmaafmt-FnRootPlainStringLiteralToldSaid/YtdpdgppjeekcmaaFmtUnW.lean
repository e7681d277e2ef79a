/-
  Walks: unescape, unescapeBytes (printed by genunesc.py).
-/
import Derived.Test.YtdpdgppjeekcmaaFmtJE
import Derived.Test.YtdpdgppjeekcmaaFmtJF
import Derived.Lib.RuneBytes
import Derived.Lib.EndianMore
import Derived.Test.YtdpdgppjeekcmaaFmtNewl
import Derived.Test.YtdpdgppjeekcmaaFmtWrite
import Derived.WalkKit
namespace Go.Proofs.YtdpdgppjeekcmaaFmt
open Go Go.Lib Go.RowKit Go.Proofs
open Go.Extern.Stop Go.Stop Go.Extern

def UnPost (r : Bool × ByteArray) (w : World) (e : Ending) (w' : World) : Prop :=
  (r.1 = true → e = .returned (.tuple #[.string r.2, .nilIface]) ∧ Below w.heap.size w w') ∧
  (r.1 = false → ∃ (E : Nat) (m : ByteArray), e = .returned (.tuple #[.string r.2, .iface 144 (.pointer (some ⟨E, 0, none⟩))]) ∧ w.heap.size ≤ E ∧ w'.heap[E]? = some (.cells #[.string m] 146 (0, 0)) ∧ Below w.heap.size w w')
theorem UnPost.ok {r : Bool × ByteArray} {t : ByteArray} {w w' : World} (h : r = (true, t)) (hb : Below w.heap.size w w') : UnPost r w (.returned (.tuple #[.string t, .nilIface])) w' := by
  subst h
  exact ⟨fun _ => ⟨rfl, hb⟩, fun e => by cases e⟩
theorem UnPost.no {r : Bool × ByteArray} {t m : ByteArray} {w w1 w' : World} {E : Nat} (h : r = (false, t)) (hb1 : Below w.heap.size w w1) (hE : w1.heap.size ≤ E) (hm : w'.heap[E]? = some (.cells #[.string m] 146 (0, 0))) (hb : Below w1.heap.size w1 w') : UnPost r w (.returned (.tuple #[.string t, .iface 144 (.pointer (some ⟨E, 0, none⟩))])) w' := by
  subst h
  exact ⟨fun e => (by cases e), fun _ => ⟨E, m, rfl, Nat.le_trans hb1.size hE, hm, hb1.trans (hb.mono hb1.size)⟩⟩

theorem newl_len (s : ByteArray) : ∀ (f i : Nat), (newl s f i).length ≤ f
  | 0, _ => Nat.le_refl _
  | f + 1, i => by
    unfold newl
    split
    · split
      · have := newl_len s f (if i + 1 < s.size ∧ byt s (i + 1) = 10 then i + 2 else i + 1); simp only [List.length_cons]; omega
      · have := newl_len s f (i + 1); simp only [List.length_cons]; omega
    · simp
theorem newlines_size (s : ByteArray) : (newlines s).size ≤ s.size := by
  have := newl_len s s.size 0
  have h : (newlines s).size = (newl s s.size 0).length := by unfold newlines bs; rw [Lib.size_eq]
  omega

theorem hexN_bd (s : ByteArray) : ∀ (n i : Nat) (v x : Int), -2147483648 ≤ v → v ≤ 2147483647 → hexN s n i v = some x → -2147483648 ≤ x ∧ x ≤ 2147483647
  | 0, _, v, x, h0, h1, h => by
    cases h
    exact ⟨h0, h1⟩
  | n + 1, i, v, x, h0, h1, h => by
    rw [hexN_succ] at h
    split at h
    · have hb : -2147483648 ≤ shl4 v (unhexV (byt s i)) ∧ shl4 v (unhexV (byt s i)) ≤ 2147483647 := by
        unfold shl4 bits
        dsimp only
        rw [IntKind.wrap_i32]
        omega
      exact hexN_bd s n (i + 1) _ x hb.1 hb.2 h
    · cases h
theorem hexBr_bd (s : ByteArray) : ∀ (f i d : Nat) (v x : Int) (j : Nat), -2147483648 ≤ v → v ≤ 2147483647 → hexBr s f i d v = some (x, j) → -2147483648 ≤ x ∧ x ≤ 2147483647
  | 0, _, _, _, _, _, _, _, h => by cases h
  | f + 1, i, d, v, x, j, h0, h1, h => by
    rw [hexBr_succ] at h
    split at h
    · split at h
      · split at h
        · cases h
        · have hb : -2147483648 ≤ shl4 v (unhexV (byt s i)) ∧ shl4 v (unhexV (byt s i)) ≤ 2147483647 := by
            unfold shl4 bits
            dsimp only
            rw [IntKind.wrap_i32]
            omega
          exact hexBr_bd s f (i + 1) (d + 1) _ x j hb.1 hb.2 h
      · cases h
    · split at h
      · cases h
        exact ⟨h0, h1⟩
      · cases h
theorem simpleEsc_le (c : Nat) : simpleEsc c ≤ 127 := by
  unfold simpleEsc
  repeat' split
  all_goals decide
/-- A character read: its rune is an int32, it took a byte at least. -/
def OneOk (one : ByteArray → Option (Int × Bool × Nat)) : Prop := ∀ s c mb k, 0 < s.size → one s = some (c, mb, k) → -2147483648 ≤ c ∧ c ≤ 2147483647 ∧ 1 ≤ k
theorem one_high {s : ByteArray} (h : 0 < s.size) : -2147483648 ≤ rAt s 0 ∧ rAt s 0 ≤ 2147483647 ∧ 1 ≤ wAt s 0 := ⟨by have := rAt_nonneg s 0; omega, by have := rAt_le s 0; omega, wAt_pos s 0 h⟩
theorem oneOk_u : OneOk uChar := by
  intro s c mb k h0 h
  have b0 := byt_lt s 0
  have b1 := byt_lt s 1
  have b2 := byt_lt s 2
  have b3 := byt_lt s 3
  unfold uChar at h
  split at h
  · cases h; exact one_high h0
  split at h
  · cases h; omega
  split at h
  · cases h
  split at h
  · cases h
    have := simpleEsc_le (byt s 1)
    omega
  split at h
  · split at h
    · cases hx : hexBr s 7 3 0 0 with
      | none => rw [hx] at h; cases h
      | some p =>
        obtain ⟨v, i⟩ := p
        rw [hx] at h
        unfold brEnd at h
        dsimp only at h
        split at h
        · cases h
        · cases h
          have := hexBr_bd s 7 3 0 0 _ _ (by decide) (by decide) hx
          omega
    · split at h
      · cases h
      · cases hx : hexN s (escW (byt s 1)) 2 0 with
        | none => rw [hx] at h; cases h
        | some v =>
          rw [hx] at h
          unfold hexEnd at h
          dsimp only at h
          split at h
          · cases h
          · cases h
            have := hexN_bd s _ 2 0 _ (by decide) (by decide) hx
            omega
  split at h
  · split at h
    · cases h
    · split at h
      · cases h; omega
      · cases h
  · cases h
theorem oneOk_b : OneOk bChar := by
  intro s c mb k h0 h
  have b0 := byt_lt s 0
  have b1 := byt_lt s 1
  have b2 := byt_lt s 2
  have b3 := byt_lt s 3
  unfold bChar at h
  split at h
  · split at h
    · cases h; exact one_high h0
    · cases h; omega
  split at h
  · cases h
  split at h
  · cases h
    have := simpleEsc_le (byt s 1)
    omega
  split at h
  · split at h
    · cases h
    · split at h
      · cases h
        have hb : -2147483648 ≤ shl4 (unhexV (byt s 2)) (unhexV (byt s 3)) ∧ shl4 (unhexV (byt s 2)) (unhexV (byt s 3)) ≤ 2147483647 := by
          unfold shl4 bits
          dsimp only
          rw [IntKind.wrap_i32]
          omega
        omega
      · cases h
  split at h
  · split at h
    · cases h
    · split at h
      · cases h; omega
      · cases h
  · cases h

theorem uGo_no {one : ByteArray → Option (Int × Bool × Nat)} {f : Nat} {v : ByteArray} {acc : List UInt8} (h : v.size ≠ 0) (h2 : one v = none) : uGo one (f + 1) v acc = none := by rw [uGo, if_neg h, h2]
theorem uGo_some {one : ByteArray → Option (Int × Bool × Nat)} {f : Nat} {v : ByteArray} {acc : List UInt8} {c : Int} {mb : Bool} {k : Nat} (h : v.size ≠ 0) (h2 : one v = some (c, mb, k)) : uGo one (f + 1) v acc = uGo one f (v.extract k v.size) (acc ++ outOf c mb) := by rw [uGo, if_neg h, h2]
theorem uGo_end (one : ByteArray → Option (Int × Bool × Nat)) (f : Nat) (v : ByteArray) (acc : List UInt8) (h : v.size = 0) : uGo one f v acc = some acc := by
  cases f with
  | zero => rfl
  | succ f => rw [uGo, if_pos h]
theorem outOf_len (c : Int) (mb : Bool) : (outOf c mb).length ≤ 4 := by
  unfold outOf
  split
  · simp
  · unfold encodeRune
    rw [List.length_map]
    unfold encodeRuneZ
    repeat' split
    all_goals simp
/-- A builder stays where all blocks stay. -/
theorem builder_keep {T e : TypeId} {B b : Nat} {p : Value} {bs : List Value} {w w' : World} (h : Lib.BuilderAt T e B b p bs w) (hb : ∀ k, B ≤ k → k < w.heap.size → w'.heap[k]? = w.heap[k]?) : Lib.BuilderAt T e B b p bs w' := by
  obtain ⟨hB, v, hbk, ⟨h0, h1⟩, hne⟩ := h
  refine ⟨hB, v, (hb b hB (Array.getElem?_eq_some_iff.1 hbk).1).trans hbk, ⟨h0, ?_⟩, hne⟩
  rcases h1 with h1 | ⟨g, cap, cur, hv, hg, hgg, r⟩
  · exact .inl h1
  · exact .inr ⟨g, cap, cur, hv, hg, (hb g hg (Array.getElem?_eq_some_iff.1 hgg).1).trans hgg, r⟩
theorem isBuilder_keep {T e : TypeId} {B b : Nat} {bs : List Value} {w w' : World} (h : Lib.IsBuilder T e B b bs w) (hb : ∀ k, B ≤ k → k < w.heap.size → w'.heap[k]? = w.heap[k]?) : Lib.IsBuilder T e B b bs w' := h.imp (fun h => builder_keep h hb) (fun h => builder_keep h hb)

/-- The loop's own memory: the four bytes at block K, the builder at K + 1. -/
structure ULoop (w wr : World) (K : Nat) (acc : List UInt8) : Prop where
  low : w.heap.size ≤ K
  below : Below w.heap.size w wr
  tmp : ∃ c T, wr.heap[K]? = some (.cells c T (0, 0)) ∧ Array.size c = 4
  bld : Lib.IsBuilder 90 5 (K + 1) (K + 1) (byteCells acc) wr
  lt : K + 1 < wr.heap.size
theorem ULoop.keep {w wr w' : World} {K : Nat} {acc : List UInt8} (h : ULoop w wr K acc) (hb : Below wr.heap.size wr w') : ULoop w w' K acc := by
  obtain ⟨c, T, hc, hcs⟩ := h.tmp
  exact ⟨h.low, h.below.trans (hb.mono h.below.size), ⟨c, T, (hb.block K (by have := h.lt; omega)).trans hc, hcs⟩, isBuilder_keep h.bld (fun k _ hk => hb.block k hk), Nat.lt_of_lt_of_le h.lt hb.size⟩
theorem ULoop.put {w wr w' : World} {K : Nat} {acc l : List UInt8} (h : ULoop w wr K acc) (hb : Below (K + 1) wr w') (hbd : Lib.BuilderAt 90 5 (K + 1) (K + 1) (.pointer (some ⟨K + 1, 0, none⟩)) (byteCells acc ++ byteCells l) w') : ULoop w w' K (acc ++ l) := by
  obtain ⟨c, T, hc, hcs⟩ := h.tmp
  have e : byteCells acc ++ byteCells l = byteCells (acc ++ l) := by simp [byteCells]
  rw [e] at hbd
  exact ⟨h.low, h.below.trans (hb.mono (by have := h.low; omega)), ⟨c, T, (hb.block K (by omega)).trans hc, hcs⟩, .inr hbd, Nat.lt_of_lt_of_le h.lt hb.size⟩
theorem geq_big (n : Nat) (hn : n ≤ 1099511627776) (wq : World) : Sem.run Tryf.prog (binOp BinOp.geq 22 (Value.int IntKind.u64 (3 * (n : Int) / 2)) (Value.int IntKind.u64 9223372036854775807)) wq = .ok (.bool false) wq := by
  have : ¬ (9223372036854775807 : Int) ≤ 3 * (n : Int) / 2 := by omega
  have h : (binOp BinOp.geq 22 (Value.int IntKind.u64 (3 * (n : Int) / 2)) (Value.int IntKind.u64 9223372036854775807)) = pure (.bool (decide ((9223372036854775807 : Int) ≤ 3 * (n : Int) / 2))) := by simp [binOp, Op.intCmp]
  rw [h, decide_eq_false this]
  rfl
theorem byteOf (c : Int) : byteCells [UInt8.ofNat (c % 256).toNat] = [.int .u8 (c % 256)] := by
  have h : ((UInt8.ofNat (c % 256).toNat).toNat : Int) = c % 256 := by
    rw [UInt8.toNat_ofNat']
    omega
  simp [byteCells]
  omega
theorem encodeRune_pos (c : Int) : 1 ≤ (encodeRune c).length := by
  unfold encodeRune
  rw [List.length_map]
  unfold encodeRuneZ
  repeat' split
  all_goals simp
theorem heap_two {w : World} {o p : Obj} : ((w.alloc o).alloc p).heap[w.heap.size]? = some o ∧ ((w.alloc o).alloc p).heap[w.heap.size + 1]? = some p ∧ ((w.alloc o).alloc p).heap.size = w.heap.size + 2 := by
  refine ⟨?_, ?_, ?_⟩
  · show ((w.heap.push o).push p)[w.heap.size]? = some o
    rw [Array.getElem?_push, if_neg (by simp), Array.getElem?_push, if_pos rfl]
  · show ((w.heap.push o).push p)[w.heap.size + 1]? = some p
    rw [Array.getElem?_push, if_pos (by simp)]
  · show ((w.heap.push o).push p).size = _
    simp
/-- The four bytes written. -/
theorem ULoop.tmpSet {w wr : World} {K : Nat} {acc l : List UInt8} (h : ULoop w wr K acc) (hl : l.length ≤ 4) : ULoop w (wr.setCells K 0 (byteCells l)) K acc ∧ ∀ j u, (byteCells l)[j]? = some u → (wr.setCells K 0 (byteCells l)).cell? ⟨K, j, none⟩ = some u := by
  obtain ⟨c, T, hc, hcs⟩ := h.tmp
  have hlen : (byteCells l).length = l.length := by simp [byteCells]
  have hother : ∀ (vs : List Value) (o : Nat) (u : World) (k : Nat), k ≠ K → (u.setCells K o vs).heap[k]? = u.heap[k]? := by
    intro vs
    induction vs with
    | nil => intro o u k _; rfl
    | cons v r ih => intro o u k hk; show ((u.setCell ⟨K, o, none⟩ v).setCells K (o + 1) r).heap[k]? = _; rw [ih _ _ k hk]; exact Below.heap_setCell _ _ _ _ hk
  have hown : ∀ (vs : List Value) (o : Nat) (u : World) (c : Array Value), u.heap[K]? = some (.cells c T (0, 0)) → ∃ c', (u.setCells K o vs).heap[K]? = some (.cells c' T (0, 0)) ∧ c'.size = c.size := by
    intro vs
    induction vs with
    | nil => intro o u c hc; exact ⟨c, hc, rfl⟩
    | cons v r ih =>
      intro o u c hc
      have h1 : (u.setCell ⟨K, o, none⟩ v).heap[K]? = some (.cells (c.setIfInBounds o v) T (0, 0)) := by simp only [World.setCell, Array.getElem?_modify, hc, if_true]; rfl
      obtain ⟨c', h2, h3⟩ := ih (o + 1) _ _ h1
      exact ⟨c', h2, by rw [h3]; simp⟩
  obtain ⟨c', hc', hcs'⟩ := hown (byteCells l) 0 wr c hc
  have hsz : (wr.setCells K 0 (byteCells l)).heap.size = wr.heap.size := by
    have : ∀ (vs : List Value) (o : Nat) (u : World), (u.setCells K o vs).heap.size = u.heap.size := by
      intro vs
      induction vs with
      | nil => intro o u; rfl
      | cons v r ih => intro o u; show ((u.setCell ⟨K, o, none⟩ v).setCells K (o + 1) r).heap.size = _; rw [ih]; simp [World.setCell]
    exact this _ _ _
  refine ⟨⟨h.low, below_setCells_w h.low _ _ _ |> fun hb => h.below.trans hb, ⟨c', T, hc', by omega⟩, isBuilder_keep h.bld (fun k hk _ => hother _ _ _ k (by omega)), by rw [hsz]; exact h.lt⟩, fun j u hj => ?_⟩
  have hj' : j < (byteCells l).length := (List.getElem?_eq_some_iff.1 hj).1
  have h2 := World.cell?_setCells_in K (byteCells l) 0 wr (fun j hj => by
    rw [cell_of_block hc, Array.getElem?_eq_getElem (by omega)]
    rfl) j hj'
  rw [Nat.zero_add] at h2
  rw [h2, ← hj]
  first | rfl | exact (List.getElem?_eq_getElem hj').symm | simp [List.getElem?_eq_getElem hj']


set_option maxHeartbeats 8000000 in
set_option maxRecDepth 100000 in
theorem unescape_any {F : Stop.Interp} {W0 w : World} (hF : F.answers W0.tape) (hT : Tabs W0) (hlow : Below W0.heap.size W0 w) (s : ByteArray) (hs : s.size ≤ 1099511627776) :
    Calls Tryf.prog 50 #[.string s] w (UnPost (unesc uChar s) w) := by
  have hvs := newlines_size s
  obtain ⟨v, hv⟩ : ∃ v, newlines s = v := ⟨_, rfl⟩
  rw [hv] at hvs
  have Hv := Lib.hid hv
  clear hv
  obtain ⟨B, hB⟩ : ∃ B : Int, B = 9223372036854775807 := ⟨_, rfl⟩
  have hbig : ¬ B ≤ 3 * (v.size : Int) / 2 := by omega
  have hbig2 : decide (B ≤ 3 * (v.size : Int) / 2) = false := decide_eq_false hbig
  go_enter Tryf.func50, Tryf.ntmps50
  rw [← hB]
  have HB := Lib.hid hB
  clear hB
  go_wp2_with fail
  refine (newlines_any s hs w).mono ?_
  rintro e w1 ⟨rfl, hb1⟩
  rw [Hv.out]
  by_cases hn2 : v.size < 2
  · have i2 : (v.size : Int) < 2 := by omega
    have hne : unesc uChar s = (false, v) := by unfold unesc; dsimp only; rw [Hv.out, if_pos hn2]
    have Hu := Lib.hid hne
    clear hne
    go_wp2_with fail
    refine (errorf_0 _ (by exact answers_low hF (hlow.trans (hb1.mono hlow.size)))).mono ?_
    rintro e w2 ⟨E, m, rfl, hE, hm, hb⟩
    have Hm := Lib.hid hm
    clear hm
    go_wp2_with fail
    go_ret2
    exact UnPost.no Hu.out hb1 hE Hm.out hb
  · have i2 : ¬ (v.size : Int) < 2 := by omega
    have h0 : 0 < v.size := by omega
    have hz : v.size - 1 < v.size := by omega
    have j0 : (0 : Int) < (v.size : Int) := by omega
    have j1 : (0 : Int) ≤ (v.size : Int) - 1 := by omega
    have j1' : (1 : Int) ≤ (v.size : Int) := by omega
    have j2 : (v.size : Int) - 1 < (v.size : Int) := by omega
    have j3 : ((v.size : Int) - 1).toNat = v.size - 1 := by omega
    have Ba := byt_of h0
    have Bz := byt_of hz
    obtain ⟨a, ha⟩ : ∃ x, (v[0]'h0).toNat = x := ⟨_, rfl⟩
    obtain ⟨z, hz'⟩ : ∃ x, (v[v.size - 1]'hz).toNat = x := ⟨_, rfl⟩
    rw [ha] at Ba
    rw [hz'] at Bz
    have BA := Lib.hid Ba
    have BZ := Lib.hid Bz
    clear Ba Bz
    have hlow1 : Below W0.heap.size W0 w1 := hlow.trans (hb1.mono hlow.size)
    by_cases hbad : a ≠ z ∨ (a ≠ 34 ∧ a ≠ 39)
    · have hne : unesc uChar s = (false, v) := by unfold unesc; dsimp only; rw [Hv.out, if_neg hn2, BA.out, BZ.out, if_pos hbad]
      have Hu := Lib.hid hne
      clear hne
      by_cases haz : a = z
      · have hq : a ≠ 34 ∧ a ≠ 39 := hbad.resolve_left (fun e => e haz)
        have n1 : ((a : Int) != (z : Int)) = false := by simp; omega
        have n2 : ((a : Int) != 34) = true := by simp; omega
        have n3 : ((a : Int) != 39) = true := by simp; omega
        clear hbad haz hq
        go_wp2_with fail
        go_quiet (fail)
        go_wp2_with fail
        refine (errorf_0 _ (by exact answers_low hF (by repeat (first | exact hlow1 | apply below_drew | apply below_drewN | apply below_alloc | apply below_grow)))).mono ?_
        rintro e w2 ⟨E, m, rfl, hE, hm, hb⟩
        have Hm := Lib.hid hm
        clear hm
        go_wp2_with fail
        go_ret2
        exact UnPost.no Hu.out (by repeat (first | exact hb1 | apply below_drew | apply below_drewN | apply below_alloc | apply below_grow)) hE Hm.out hb
      · have n1 : ((a : Int) != (z : Int)) = true := by simp; omega
        clear hbad
        go_wp2_with fail
        go_quiet (fail)
        go_wp2_with fail
        refine (errorf_0 _ (by exact answers_low hF (by repeat (first | exact hlow1 | apply below_drew | apply below_drewN | apply below_alloc | apply below_grow)))).mono ?_
        rintro e w2 ⟨E, m, rfl, hE, hm, hb⟩
        have Hm := Lib.hid hm
        clear hm
        go_wp2_with fail
        go_ret2
        exact UnPost.no Hu.out (by repeat (first | exact hb1 | apply below_drew | apply below_drewN | apply below_alloc | apply below_grow)) hE Hm.out hb
    · have haz : a = z := by omega
      have hq : a = 34 ∨ a = 39 := by omega
      obtain ⟨bd, hbd⟩ : ∃ x, v.extract 1 (v.size - 1) = x := ⟨_, rfl⟩
      have hbs : bd.size + 2 = v.size := by rw [← hbd, ByteArray.size_extract]; omega
      have hunN : uGo uChar v.size bd [] = none → unesc uChar s = (false, ⟨#[]⟩) := fun h => by unfold unesc; dsimp only; rw [Hv.out, if_neg hn2, BA.out, BZ.out, if_neg hbad, hbd, h]
      have hunS : ∀ l, uGo uChar v.size bd [] = some l → unesc uChar s = (true, bs l) := fun l h => by unfold unesc; dsimp only; rw [Hv.out, if_neg hn2, BA.out, BZ.out, if_neg hbad, hbd, h]
      have HunN := Lib.hid hunN
      have HunS := Lib.hid hunS
      have Hsz := Lib.hid (show (3 : Int) * (v.size : Int) / 2 = ((3 * v.size / 2 : Nat) : Int) by omega)
      have n1 : ((a : Int) != (z : Int)) = false := by simp; omega
      have hq2 : (((a : Int) != 34) = false) ∨ (((a : Int) != 34) = true ∧ ((a : Int) != 39) = false) := by rcases hq with rfl | rfl; left; decide; right; decide
      clear hbad haz hq hunN hunS
      rcases hq2 with n2 | ⟨n2, n3⟩
      all_goals
        go_wp2_with fail
        go_quiet (fail)
        go_wp2_with fail
        have hg2 := heap_two (w := w1.drewN nq) (o := Obj.cells #[Value.int IntKind.u8 0, Value.int IntKind.u8 0, Value.int IntKind.u8 0, Value.int IntKind.u8 0] 108) (p := Obj.cells #[.pointer none, .slice none 0 0] 90)
        have hgr := Tryf.Builder_Grow_fresh (w1.heap.size + 1) (w1.heap.size + 1) (3 * v.size / 2) _ (Nat.le_refl _) hg2.2.1 (by rw [hg2.2.2]; show w1.heap.size + 1 ≤ w1.heap.size + 2; omega) (by omega)
        rw [← Hsz.out] at hgr
        have Hgr := Lib.hid hgr
        have Hg2 := Lib.hid hg2
        clear hgr hg2
        refine Hgr.out.mono ?_
        rintro e w3 ⟨rfl, hbA, hbB⟩
        have U0 : ULoop w w3 w1.heap.size [] := by
          have hs1 := hb1.size
          have hsz3 := hbB.size
          rw [Hg2.out.2.2] at hsz3
          change w1.heap.size + 2 ≤ w3.heap.size at hsz3
          refine ⟨hs1, Below.trans (by repeat (first | exact hb1 | apply below_drew | apply below_drewN | apply below_alloc | apply below_grow)) (hbB.mono (by omega)), ⟨_, _, (hbB.block w1.heap.size (Nat.lt_succ_self _)).trans Hg2.out.1, rfl⟩, .inr hbA, by omega⟩
        have HU0 := Lib.hid U0
        clear hbA hbB U0 Hgr Hg2
        go_wp2_with fail
        go_loopg [0] (v.size + 1) (fun g sv wr => ∃ (u : ByteArray) (acc : List UInt8) (f : Nat), sv = .string u ∧ ULoop w wr w1.heap.size acc ∧ Hid (uGo uChar f u acc = uGo uChar v.size bd []) ∧ u.size ≤ f ∧ u.size < g ∧ acc.length + 4 * u.size ≤ 4 * v.size)
        case atStart => exact ⟨bd, [], v.size, rfl, HU0.out, Lib.hid rfl, by omega, by omega, by simp; omega⟩
        case round =>
          obtain ⟨u, acc, f, rfl, U, heq, huf, hug, hacc⟩ := hrel
          have hlowr : Below W0.heap.size W0 wr := hlow.trans (U.below.mono hlow.size)
          by_cases hu0 : u.size = 0
          · have u1 : ¬ (0 : Int) < (u.size : Int) := by omega
            have hun : unesc uChar s = (true, bs acc) := HunS.out acc (by rw [← heq.out, uGo_end _ _ _ _ hu0])
            have Hun := Lib.hid hun
            have hstr := Tryf.Builder_String_any (w1.heap.size + 1) (w1.heap.size + 1) acc wr U.bld (by have := U.lt; omega)
            have Hstr := Lib.hid hstr
            have HU := Lib.hid U
            clear hun heq hstr U hu0
            go_wp2_with fail
            refine Hstr.out.mono ?_
            rintro e w5 ⟨rfl, hb5⟩
            go_wp2_with fail
            go_ret2
            exact UnPost.ok Hun.out (HU.out.below.trans (hb5.mono (by have := HU.out.low; omega)))
          · have u1 : (0 : Int) < (u.size : Int) := by omega
            obtain ⟨f', rfl⟩ : ∃ f', f = f' + 1 := ⟨f - 1, by omega⟩
            have hchar := unescapeChar_any hF hT hlowr u (by omega) (by omega)
            have Hchar := Lib.hid hchar
            have HU := Lib.hid U
            clear hchar U
            cases hone : uChar u with
            | none =>
              have hno := uGo_no (one := uChar) (f := f') (v := u) (acc := acc) hu0 hone
              rw [heq.out] at hno
              have hun := HunN.out hno
              have Hun := Lib.hid hun
              have Hone := Lib.hid hone
              clear hun hno heq hone hu0
              go_wp2_with fail
              refine Hchar.out.mono ?_
              intro e w4 hp
              rw [Hone.out] at hp
              obtain ⟨c, mb, tl, E, m, rfl, hE, hm, hb4⟩ := hp
              have Hm := Lib.hid hm
              clear hm
              go_wp2_with fail
              go_ret2
              exact UnPost.no Hun.out HU.out.below hE Hm.out hb4
            | some p =>
              obtain ⟨c, mb, k⟩ := p
              have hok := oneOk_u u c mb k (by omega) hone
              obtain ⟨o1, o2, o3⟩ := hok
              have hsome := uGo_some (one := uChar) (f := f') (v := u) (acc := acc) hu0 hone
              rw [heq.out] at hsome
              have hlen := outOf_len c mb
              obtain ⟨un, hun⟩ : ∃ x, u.extract k u.size = x := ⟨_, rfl⟩
              have hunz : un.size = u.size - k := by rw [← hun, ByteArray.size_extract]; omega
              rw [hun] at hsome
              have Hsome := Lib.hid hsome.symm
              have Hone := Lib.hid hone
              have Hn := Lib.hid hun
              clear hsome heq hone hun
              go_wp2_with fail
              refine Hchar.out.mono ?_
              intro e w4 hp
              rw [Hone.out] at hp
              obtain ⟨rfl, hb4⟩ := hp
              rw [Hn.out]
              have U4 := HU.out.keep hb4
              have HU4 := Lib.hid U4
              clear U4
              by_cases hc8 : c < 128 ∨ mb = false
              · have hout : outOf c mb = [UInt8.ofNat (c % 256).toNat] := by unfold outOf; rw [if_pos hc8]
                rw [hout] at hlen
                have hw := Tryf.WriteByte_any (w1.heap.size + 1) (w1.heap.size + 1) (byteCells acc) (c % 256) w4 HU4.out.bld (by rw [byteCells_length]; omega) (by have := HU4.out.lt; omega)
                have Hout := Lib.hid hout
                have Hw := Lib.hid hw
                clear hout hw
                have e8 : IntKind.u8.wrap c = c % 256 := by rw [IntKind.wrap_u8]
                have fin : ∀ w6, Lib.BuilderAt 90 5 (w1.heap.size + 1) (w1.heap.size + 1) (.pointer (some ⟨w1.heap.size + 1, 0, none⟩)) (byteCells acc ++ [.int .u8 (c % 256)]) w6 ∧ Below (w1.heap.size + 1) w4 w6 → ULoop w w6 w1.heap.size (acc ++ outOf c mb) := fun w6 h => by rw [Hout.out]; exact HU4.out.put h.2 (by rw [byteOf]; exact h.1)
                have Fin := Lib.hid fin
                clear fin
                have hway : (c < 128) ∨ (¬ c < 128 ∧ mb = false) := by by_cases h : c < 128; exact .inl h; exact .inr ⟨h, hc8.resolve_left h⟩
                clear hc8
                rcases hway with hc | ⟨hc, rfl⟩
                all_goals
                  go_wp2_with fail
                  refine Hw.out.mono ?_
                  rintro e w6 ⟨rfl, hb6⟩
                  have U6 := Fin.out w6 hb6
                  have HU6 := Lib.hid U6
                  clear U6 hb6
                  go_wp2_with fail
                  go_roundg u.size
                  case measure => omega
                  case rel => exact ⟨un, acc ++ outOf c _, f', rfl, HU6.out, Hsome, by omega, by omega, by rw [List.length_append, Hout.out]; simp; omega⟩
              · have hc : ¬ c < 128 := fun h => hc8 (.inl h)
                obtain rfl : mb = true := by cases mb; exact absurd (.inr rfl) hc8; rfl
                have hout : outOf c true = encodeRune c := by unfold outOf; rw [if_neg hc8]
                have hcel : Lib.runeCells c = byteCells (encodeRune c) := (byteCells_encodeRune c).symm
                rw [hout] at hlen
                obtain ⟨l, hl⟩ : ∃ l, encodeRune c = l := ⟨_, rfl⟩
                have hl1 : 1 ≤ l.length := by rw [← hl]; exact encodeRune_pos c
                rw [hl] at hcel hlen hout
                have hcl : (Lib.runeCells c).length = l.length := by rw [hcel, byteCells_length]
                have her := Tryf.EncodeRune_any w1.heap.size 0 4 4 c (by omega) (by omega) w4 (by omega) (fun j hj => by
                  obtain ⟨cc, T, hcc, hcs⟩ := HU4.out.tmp
                  rw [Nat.zero_add, cell_of_block hcc, Array.getElem?_eq_getElem (by omega)]
                  rfl) (fun j hj => by
                  obtain ⟨cc, T, hcc, hcs⟩ := HU4.out.tmp
                  exact free_of_block hcc _)
                rw [hcel, byteCells_length] at her
                have hU5 := HU4.out.tmpSet hlen
                have HU5 := Lib.hid hU5
                have Her := Lib.hid her
                have Hout := Lib.hid hout
                have i1 : (1 : Int) ≤ (l.length : Int) := by omega
                have i4 : (l.length : Int) ≤ 4 := by omega
                have i0 : (0 : Int) ≤ (l.length : Int) := by omega
                clear hU5 her hout hcel hcl hl hc8
                go_wp2_with fail
                refine Her.out.mono ?_
                rintro e w5 ⟨rfl, hw5⟩
                have hU5 := HU5.out
                rw [← hw5] at hU5
                have hwr := builderWrite_any (w1.heap.size + 1) (w1.heap.size + 1) w1.heap.size 4 (byteCells acc) l w5 hU5.1.bld hl1 (by rw [byteCells_length]; omega) (by have := hU5.1.lt; omega) (Nat.lt_succ_self _) (by have := hU5.1.lt; omega) hU5.2
                have Hwr := Lib.hid hwr
                have HU6 := Lib.hid hU5
                clear hwr hU5 hw5
                go_wp2_with fail
                refine Hwr.out.mono ?_
                rintro e w6 ⟨rfl, hb6⟩
                have U6 : ULoop w w6 w1.heap.size (acc ++ outOf c true) := by rw [Hout.out]; exact HU6.out.1.put hb6.2 hb6.1
                have HU7 := Lib.hid U6
                clear U6 hb6
                go_wp2_with fail
                go_roundg u.size
                case measure => omega
                case rel => exact ⟨un, acc ++ outOf c true, f', rfl, HU7.out, Hsome, by omega, by omega, by rw [List.length_append, Hout.out]; omega⟩


set_option maxHeartbeats 8000000 in
set_option maxRecDepth 100000 in
theorem unescapeBytes_any {F : Stop.Interp} {W0 w : World} (hF : F.answers W0.tape) (hT : Tabs W0) (hlow : Below W0.heap.size W0 w) (s : ByteArray) (hs : s.size ≤ 1099511627776) :
    Calls Tryf.prog 53 #[.string s] w (UnPost (unesc bChar s) w) := by
  have hvs := newlines_size s
  obtain ⟨v, hv⟩ : ∃ v, newlines s = v := ⟨_, rfl⟩
  rw [hv] at hvs
  have Hv := Lib.hid hv
  clear hv
  obtain ⟨B, hB⟩ : ∃ B : Int, B = 9223372036854775807 := ⟨_, rfl⟩
  have hbig : ¬ B ≤ 3 * (v.size : Int) / 2 := by omega
  have hbig2 : decide (B ≤ 3 * (v.size : Int) / 2) = false := decide_eq_false hbig
  go_enter Tryf.func53, Tryf.ntmps53
  rw [← hB]
  have HB := Lib.hid hB
  clear hB
  go_wp2_with fail
  refine (newlines_any s hs w).mono ?_
  rintro e w1 ⟨rfl, hb1⟩
  rw [Hv.out]
  by_cases hn2 : v.size < 2
  · have i2 : (v.size : Int) < 2 := by omega
    have hne : unesc bChar s = (false, v) := by unfold unesc; dsimp only; rw [Hv.out, if_pos hn2]
    have Hu := Lib.hid hne
    clear hne
    go_wp2_with fail
    refine (errorf_0 _ (by exact answers_low hF (hlow.trans (hb1.mono hlow.size)))).mono ?_
    rintro e w2 ⟨E, m, rfl, hE, hm, hb⟩
    have Hm := Lib.hid hm
    clear hm
    go_wp2_with fail
    go_ret2
    exact UnPost.no Hu.out hb1 hE Hm.out hb
  · have i2 : ¬ (v.size : Int) < 2 := by omega
    have h0 : 0 < v.size := by omega
    have hz : v.size - 1 < v.size := by omega
    have j0 : (0 : Int) < (v.size : Int) := by omega
    have j1 : (0 : Int) ≤ (v.size : Int) - 1 := by omega
    have j1' : (1 : Int) ≤ (v.size : Int) := by omega
    have j2 : (v.size : Int) - 1 < (v.size : Int) := by omega
    have j3 : ((v.size : Int) - 1).toNat = v.size - 1 := by omega
    have Ba := byt_of h0
    have Bz := byt_of hz
    obtain ⟨a, ha⟩ : ∃ x, (v[0]'h0).toNat = x := ⟨_, rfl⟩
    obtain ⟨z, hz'⟩ : ∃ x, (v[v.size - 1]'hz).toNat = x := ⟨_, rfl⟩
    rw [ha] at Ba
    rw [hz'] at Bz
    have BA := Lib.hid Ba
    have BZ := Lib.hid Bz
    clear Ba Bz
    have hlow1 : Below W0.heap.size W0 w1 := hlow.trans (hb1.mono hlow.size)
    by_cases hbad : a ≠ z ∨ (a ≠ 34 ∧ a ≠ 39)
    · have hne : unesc bChar s = (false, v) := by unfold unesc; dsimp only; rw [Hv.out, if_neg hn2, BA.out, BZ.out, if_pos hbad]
      have Hu := Lib.hid hne
      clear hne
      by_cases haz : a = z
      · have hq : a ≠ 34 ∧ a ≠ 39 := hbad.resolve_left (fun e => e haz)
        have n1 : ((a : Int) != (z : Int)) = false := by simp; omega
        have n2 : ((a : Int) != 34) = true := by simp; omega
        have n3 : ((a : Int) != 39) = true := by simp; omega
        clear hbad haz hq
        go_wp2_with fail
        go_quiet (fail)
        go_wp2_with fail
        refine (errorf_0 _ (by exact answers_low hF (by repeat (first | exact hlow1 | apply below_drew | apply below_drewN | apply below_alloc | apply below_grow)))).mono ?_
        rintro e w2 ⟨E, m, rfl, hE, hm, hb⟩
        have Hm := Lib.hid hm
        clear hm
        go_wp2_with fail
        go_ret2
        exact UnPost.no Hu.out (by repeat (first | exact hb1 | apply below_drew | apply below_drewN | apply below_alloc | apply below_grow)) hE Hm.out hb
      · have n1 : ((a : Int) != (z : Int)) = true := by simp; omega
        clear hbad
        go_wp2_with fail
        go_quiet (fail)
        go_wp2_with fail
        refine (errorf_0 _ (by exact answers_low hF (by repeat (first | exact hlow1 | apply below_drew | apply below_drewN | apply below_alloc | apply below_grow)))).mono ?_
        rintro e w2 ⟨E, m, rfl, hE, hm, hb⟩
        have Hm := Lib.hid hm
        clear hm
        go_wp2_with fail
        go_ret2
        exact UnPost.no Hu.out (by repeat (first | exact hb1 | apply below_drew | apply below_drewN | apply below_alloc | apply below_grow)) hE Hm.out hb
    · have haz : a = z := by omega
      have hq : a = 34 ∨ a = 39 := by omega
      obtain ⟨bd, hbd⟩ : ∃ x, v.extract 1 (v.size - 1) = x := ⟨_, rfl⟩
      have hbs : bd.size + 2 = v.size := by rw [← hbd, ByteArray.size_extract]; omega
      have hunN : uGo bChar v.size bd [] = none → unesc bChar s = (false, ⟨#[]⟩) := fun h => by unfold unesc; dsimp only; rw [Hv.out, if_neg hn2, BA.out, BZ.out, if_neg hbad, hbd, h]
      have hunS : ∀ l, uGo bChar v.size bd [] = some l → unesc bChar s = (true, bs l) := fun l h => by unfold unesc; dsimp only; rw [Hv.out, if_neg hn2, BA.out, BZ.out, if_neg hbad, hbd, h]
      have HunN := Lib.hid hunN
      have HunS := Lib.hid hunS
      have Hsz := Lib.hid (show (3 : Int) * (v.size : Int) / 2 = ((3 * v.size / 2 : Nat) : Int) by omega)
      have n1 : ((a : Int) != (z : Int)) = false := by simp; omega
      have hq2 : (((a : Int) != 34) = false) ∨ (((a : Int) != 34) = true ∧ ((a : Int) != 39) = false) := by rcases hq with rfl | rfl; left; decide; right; decide
      clear hbad haz hq hunN hunS
      rcases hq2 with n2 | ⟨n2, n3⟩
      all_goals
        go_wp2_with fail
        go_quiet (fail)
        go_wp2_with fail
        have hg2 := heap_two (w := w1.drewN nq) (o := Obj.cells #[Value.int IntKind.u8 0, Value.int IntKind.u8 0, Value.int IntKind.u8 0, Value.int IntKind.u8 0] 108) (p := Obj.cells #[.pointer none, .slice none 0 0] 90)
        have hgr := Tryf.Builder_Grow_fresh (w1.heap.size + 1) (w1.heap.size + 1) (3 * v.size / 2) _ (Nat.le_refl _) hg2.2.1 (by rw [hg2.2.2]; show w1.heap.size + 1 ≤ w1.heap.size + 2; omega) (by omega)
        rw [← Hsz.out] at hgr
        have Hgr := Lib.hid hgr
        have Hg2 := Lib.hid hg2
        clear hgr hg2
        refine Hgr.out.mono ?_
        rintro e w3 ⟨rfl, hbA, hbB⟩
        have U0 : ULoop w w3 w1.heap.size [] := by
          have hs1 := hb1.size
          have hsz3 := hbB.size
          rw [Hg2.out.2.2] at hsz3
          change w1.heap.size + 2 ≤ w3.heap.size at hsz3
          refine ⟨hs1, Below.trans (by repeat (first | exact hb1 | apply below_drew | apply below_drewN | apply below_alloc | apply below_grow)) (hbB.mono (by omega)), ⟨_, _, (hbB.block w1.heap.size (Nat.lt_succ_self _)).trans Hg2.out.1, rfl⟩, .inr hbA, by omega⟩
        have HU0 := Lib.hid U0
        clear hbA hbB U0 Hgr Hg2
        go_wp2_with fail
        go_loopg [0] (v.size + 1) (fun g sv wr => ∃ (u : ByteArray) (acc : List UInt8) (f : Nat), sv = .string u ∧ ULoop w wr w1.heap.size acc ∧ Hid (uGo bChar f u acc = uGo bChar v.size bd []) ∧ u.size ≤ f ∧ u.size < g ∧ acc.length + 4 * u.size ≤ 4 * v.size)
        case atStart => exact ⟨bd, [], v.size, rfl, HU0.out, Lib.hid rfl, by omega, by omega, by simp; omega⟩
        case round =>
          obtain ⟨u, acc, f, rfl, U, heq, huf, hug, hacc⟩ := hrel
          have hlowr : Below W0.heap.size W0 wr := hlow.trans (U.below.mono hlow.size)
          by_cases hu0 : u.size = 0
          · have u1 : ¬ (0 : Int) < (u.size : Int) := by omega
            have hun : unesc bChar s = (true, bs acc) := HunS.out acc (by rw [← heq.out, uGo_end _ _ _ _ hu0])
            have Hun := Lib.hid hun
            have hstr := Tryf.Builder_String_any (w1.heap.size + 1) (w1.heap.size + 1) acc wr U.bld (by have := U.lt; omega)
            have Hstr := Lib.hid hstr
            have HU := Lib.hid U
            clear hun heq hstr U hu0
            go_wp2_with fail
            refine Hstr.out.mono ?_
            rintro e w5 ⟨rfl, hb5⟩
            go_wp2_with fail
            go_ret2
            exact UnPost.ok Hun.out (HU.out.below.trans (hb5.mono (by have := HU.out.low; omega)))
          · have u1 : (0 : Int) < (u.size : Int) := by omega
            obtain ⟨f', rfl⟩ : ∃ f', f = f' + 1 := ⟨f - 1, by omega⟩
            have hchar := unescapeByteChar_any hF hT hlowr u (by omega) (by omega)
            have Hchar := Lib.hid hchar
            have HU := Lib.hid U
            clear hchar U
            cases hone : bChar u with
            | none =>
              have hno := uGo_no (one := bChar) (f := f') (v := u) (acc := acc) hu0 hone
              rw [heq.out] at hno
              have hun := HunN.out hno
              have Hun := Lib.hid hun
              have Hone := Lib.hid hone
              clear hun hno heq hone hu0
              go_wp2_with fail
              refine Hchar.out.mono ?_
              intro e w4 hp
              rw [Hone.out] at hp
              obtain ⟨c, mb, tl, E, m, rfl, hE, hm, hb4⟩ := hp
              have Hm := Lib.hid hm
              clear hm
              go_wp2_with fail
              go_ret2
              exact UnPost.no Hun.out HU.out.below hE Hm.out hb4
            | some p =>
              obtain ⟨c, mb, k⟩ := p
              have hok := oneOk_b u c mb k (by omega) hone
              obtain ⟨o1, o2, o3⟩ := hok
              have hsome := uGo_some (one := bChar) (f := f') (v := u) (acc := acc) hu0 hone
              rw [heq.out] at hsome
              have hlen := outOf_len c mb
              obtain ⟨un, hun⟩ : ∃ x, u.extract k u.size = x := ⟨_, rfl⟩
              have hunz : un.size = u.size - k := by rw [← hun, ByteArray.size_extract]; omega
              rw [hun] at hsome
              have Hsome := Lib.hid hsome.symm
              have Hone := Lib.hid hone
              have Hn := Lib.hid hun
              clear hsome heq hone hun
              go_wp2_with fail
              refine Hchar.out.mono ?_
              intro e w4 hp
              rw [Hone.out] at hp
              obtain ⟨rfl, hb4⟩ := hp
              rw [Hn.out]
              have U4 := HU.out.keep hb4
              have HU4 := Lib.hid U4
              clear U4
              by_cases hc8 : c < 128 ∨ mb = false
              · have hout : outOf c mb = [UInt8.ofNat (c % 256).toNat] := by unfold outOf; rw [if_pos hc8]
                rw [hout] at hlen
                have hw := Tryf.WriteByte_any (w1.heap.size + 1) (w1.heap.size + 1) (byteCells acc) (c % 256) w4 HU4.out.bld (by rw [byteCells_length]; omega) (by have := HU4.out.lt; omega)
                have Hout := Lib.hid hout
                have Hw := Lib.hid hw
                clear hout hw
                have e8 : IntKind.u8.wrap c = c % 256 := by rw [IntKind.wrap_u8]
                have fin : ∀ w6, Lib.BuilderAt 90 5 (w1.heap.size + 1) (w1.heap.size + 1) (.pointer (some ⟨w1.heap.size + 1, 0, none⟩)) (byteCells acc ++ [.int .u8 (c % 256)]) w6 ∧ Below (w1.heap.size + 1) w4 w6 → ULoop w w6 w1.heap.size (acc ++ outOf c mb) := fun w6 h => by rw [Hout.out]; exact HU4.out.put h.2 (by rw [byteOf]; exact h.1)
                have Fin := Lib.hid fin
                clear fin
                have hway : (c < 128) ∨ (¬ c < 128 ∧ mb = false) := by by_cases h : c < 128; exact .inl h; exact .inr ⟨h, hc8.resolve_left h⟩
                clear hc8
                rcases hway with hc | ⟨hc, rfl⟩
                all_goals
                  go_wp2_with fail
                  refine Hw.out.mono ?_
                  rintro e w6 ⟨rfl, hb6⟩
                  have U6 := Fin.out w6 hb6
                  have HU6 := Lib.hid U6
                  clear U6 hb6
                  go_wp2_with fail
                  go_roundg u.size
                  case measure => omega
                  case rel => exact ⟨un, acc ++ outOf c _, f', rfl, HU6.out, Hsome, by omega, by omega, by rw [List.length_append, Hout.out]; simp; omega⟩
              · have hc : ¬ c < 128 := fun h => hc8 (.inl h)
                obtain rfl : mb = true := by cases mb; exact absurd (.inr rfl) hc8; rfl
                have hout : outOf c true = encodeRune c := by unfold outOf; rw [if_neg hc8]
                have hcel : Lib.runeCells c = byteCells (encodeRune c) := (byteCells_encodeRune c).symm
                rw [hout] at hlen
                obtain ⟨l, hl⟩ : ∃ l, encodeRune c = l := ⟨_, rfl⟩
                have hl1 : 1 ≤ l.length := by rw [← hl]; exact encodeRune_pos c
                rw [hl] at hcel hlen hout
                have hcl : (Lib.runeCells c).length = l.length := by rw [hcel, byteCells_length]
                have her := Tryf.EncodeRune_any w1.heap.size 0 4 4 c (by omega) (by omega) w4 (by omega) (fun j hj => by
                  obtain ⟨cc, T, hcc, hcs⟩ := HU4.out.tmp
                  rw [Nat.zero_add, cell_of_block hcc, Array.getElem?_eq_getElem (by omega)]
                  rfl) (fun j hj => by
                  obtain ⟨cc, T, hcc, hcs⟩ := HU4.out.tmp
                  exact free_of_block hcc _)
                rw [hcel, byteCells_length] at her
                have hU5 := HU4.out.tmpSet hlen
                have HU5 := Lib.hid hU5
                have Her := Lib.hid her
                have Hout := Lib.hid hout
                have i1 : (1 : Int) ≤ (l.length : Int) := by omega
                have i4 : (l.length : Int) ≤ 4 := by omega
                have i0 : (0 : Int) ≤ (l.length : Int) := by omega
                clear hU5 her hout hcel hcl hl hc8
                go_wp2_with fail
                refine Her.out.mono ?_
                rintro e w5 ⟨rfl, hw5⟩
                have hU5 := HU5.out
                rw [← hw5] at hU5
                have hwr := builderWrite_any (w1.heap.size + 1) (w1.heap.size + 1) w1.heap.size 4 (byteCells acc) l w5 hU5.1.bld hl1 (by rw [byteCells_length]; omega) (by have := hU5.1.lt; omega) (Nat.lt_succ_self _) (by have := hU5.1.lt; omega) hU5.2
                have Hwr := Lib.hid hwr
                have HU6 := Lib.hid hU5
                clear hwr hU5 hw5
                go_wp2_with fail
                refine Hwr.out.mono ?_
                rintro e w6 ⟨rfl, hb6⟩
                have U6 : ULoop w w6 w1.heap.size (acc ++ outOf c true) := by rw [Hout.out]; exact HU6.out.1.put hb6.2 hb6.1
                have HU7 := Lib.hid U6
                clear U6 hb6
                go_wp2_with fail
                go_roundg u.size
                case measure => omega
                case rel => exact ⟨un, acc ++ outOf c true, f', rfl, HU7.out, Hsome, by omega, by omega, by rw [List.length_append, Hout.out]; omega⟩

end Go.Proofs.YtdpdgppjeekcmaaFmt
