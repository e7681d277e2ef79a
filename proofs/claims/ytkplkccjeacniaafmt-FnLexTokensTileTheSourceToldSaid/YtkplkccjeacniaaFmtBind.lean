/-
  Walks: zzIndex and zzReplaceAll of package file, (*file.Error).Bind.
-/
import Derived.Test.YtkplkccjeacniaaFmtNewl
import Derived.Test.YtkplkccjeacniaaFmtBuild
import Derived.Test.YtkplkccjeacniaaFmtBuildS
import Derived.Test.YtkplkccjeacniaaFmtAccs
import Derived.Test.YtkplkccjeacniaaFmtJB
import Derived.Test.YtkplkccjeacniaaFmtIdent
import Derived.Lib.AppendStr
import Derived.Lib.OthersKept
import Derived.Deep.RegionHeld3
import Derived.WalkMore
namespace Go.Proofs.YtkplkccjeacniaaFmt
open Go Go.Lib Go.RowKit Go.Proofs

set_option maxHeartbeats 2000000 in
set_option maxRecDepth 100000 in
theorem fIndex_any (s : ByteArray) (hs : s.size ≤ 1099511627776) (w : World) :
    Calls Tryf.prog 77 #[.string s, .string ⟨#[9]⟩] w fun e w' => (∃ i : Int, e = .returned (.int .i64 i) ∧ (i = -1 ∨ ∃ k : Nat, i = (k : Int) ∧ k + 1 ≤ s.size)) ∧ w' = w := by
  go_enter Tryf.func77, Tryf.ntmps77
  go_wp2_with fail
  go_loopg [5] (s.size + 1) (fun g iv wr => ∃ i : Nat, iv = .int .i64 (i : Nat) ∧ i ≤ s.size ∧ s.size < i + g ∧ wr = w)
  case atStart => exact ⟨0, rfl, by omega, by omega, rfl⟩
  case round =>
    obtain ⟨i, rfl, hi, hg, rfl⟩ := hrel
    by_cases hin : i < s.size
    · obtain ⟨p, hp⟩ : ∃ p, p = i + 1 := ⟨_, rfl⟩
      have i0 : (0 : Int) ≤ (i : Int) := by omega
      have i1 : (i : Int) + 1 = (p : Int) := by omega
      have i2 : (i : Int) ≤ (p : Int) := by omega
      have i3 : (p : Int) ≤ (s.size : Int) := by omega
      have i4 : (0 : Int) ≤ (p : Int) := by omega
      have iw : IntKind.i64.wrap (p : Int) = (p : Int) := by rw [IntKind.wrap_i64]; omega
      have Hp := Lib.hid hp
      clear hp
      by_cases hq : s.extract i p = ⟨#[9]⟩
      · have e1 := str_eq (l := [9]) hq
        have Hq := Lib.hid hq
        clear hq
        go_wp2_with fail
        go_ret
        exact ⟨⟨i, rfl, .inr ⟨i, rfl, by omega⟩⟩, rfl⟩
      · have e1 := str_ne (l := [9]) hq
        clear hq
        go_wp2_with fail
        go_roundg (s.size - i)
        case measure => omega
        case rel => have := Hp.out; exact ⟨p, rfl, by omega, by omega, rfl⟩
    · have i1 : ¬ (i : Int) + 1 ≤ (s.size : Int) := by omega
      have iw : IntKind.i64.wrap ((i : Int) + 1) = (i : Int) + 1 := by rw [IntKind.wrap_i64]; omega
      go_wp2_with fail
      go_ret
      exact ⟨⟨-1, rfl, .inl rfl⟩, rfl⟩

theorem byteCells_strCells (l : List UInt8) (v : ByteArray) : byteCells l ++ Lib.strCells v = byteCells (l ++ v.data.toList) := by simp [byteCells, Lib.strCells]
/-- A text appended: what the loop's limbs become. -/
theorem own_text {w0 wr w1 : World} {v v' : Value} {l : List UInt8} {x : ByteArray} (hb : Below w0.heap.size w0 wr) (hown : wr.ownsRow w0.heap.size 5 1 v l.length (byteCells l))
    (hown' : w1.ownsRow w0.heap.size 5 1 v' (l.length + x.size) (byteCells l ++ Lib.strCells x)) (hg : wr.grownBy w1 v.ownBlock) :
    w1.ownsRow w0.heap.size 5 1 v' (l ++ x.data.toList).length (byteCells (l ++ x.data.toList)) ∧ Below w0.heap.size w0 w1 := by
  refine ⟨?_, ?_⟩
  · rw [← byteCells_strCells, List.length_append, ← Lib.size_eq]
    exact hown'
  · refine hb.grown hg hb.size (fun g hgg => ?_)
    obtain ⟨h0, ⟨rfl, _⟩ | ⟨g', cap, cur, rfl, hB, _⟩⟩ := hown
    · simp [Value.ownBlock] at hgg
    · simp [Value.ownBlock] at hgg
      omega

set_option maxHeartbeats 4000000 in
set_option maxRecDepth 100000 in
theorem fReplace_any (s : ByteArray) (hs : s.size ≤ 1099511627776) (w : World) :
    Calls Tryf.prog 50 #[.string s, .string ⟨#[9]⟩, .string ⟨#[32]⟩] w fun e w' => (∃ v : ByteArray, e = .returned (.string v) ∧ v.size ≤ s.size) ∧ Below w.heap.size w w' := by
  obtain ⟨i0, hi, hz0, hz1, hz2⟩ := info_parts infoU8
  have hu : Tryf.prog.underlying 78 = some (.slice 5) := by kernel_rfl
  have hus : Tryf.prog.underlying 9 = some .string := by kernel_rfl
  have Hi := Lib.hid hi
  have Hz0 := Lib.hid hz0
  have Hz1 := Lib.hid hz1
  have Hz2 := Lib.hid hz2
  have Hu := Lib.hid hu
  have Hus := Lib.hid hus
  clear hi hz0 hz1 hz2 hu hus
  go_enter Tryf.func50, Tryf.ntmps50
  go_wp2_with fail
  go_loopg [0, 7] (s.size + 1) (fun g sv bv wr => ∃ (v : ByteArray) (l : List UInt8), sv = .string v ∧ wr.ownsRow w.heap.size 5 1 bv l.length (byteCells l) ∧ Below w.heap.size w wr ∧ l.length + v.size ≤ s.size ∧ v.size < g)
  case atStart => exact ⟨s, [], rfl, World.ownsRow_nil _ _ _ _, Below.refl _ _, by simp, by omega⟩
  case round =>
    obtain ⟨v, l, rfl, hown, hb, hl, hg⟩ := hrel
    have hbs := hb.size
    go_wp2_with fail
    refine (fIndex_any v (by omega) wr).mono ?_
    rintro e w' ⟨⟨i, rfl, hii⟩, rfl⟩
    rcases hii with rfl | ⟨k, rfl, hk⟩
    · go_wp2_with (first | (at_builtin; refine Lib.wpList_append_own_string _ rfl _ _ 78 9 rfl w.heap.size 5 i0 Hu.out Hus.out Hi.out Hz0.out Hz1.out Hz2.out _ _ _ rfl hown _ rfl ?c1 ?c2 ?c3 ?_))
      case c1 => unfold maxLen; omega
      case c2 => omega
      case c3 => omega
      intro v1 w1 hown1 hg1 _
      have R1 := own_text hb hown hown1 hg1
      have hcv := conv_own R1.1
      have R2 := R1.2
      clear R1 hown1 hg1
      go_wp2_with fail
      go_ret
      refine ⟨⟨_, rfl, ?_⟩, R2⟩
      show (l ++ v.data.toList).toArray.size ≤ _
      have := Lib.size_eq v
      simp
      omega
    · have k0 : (0 : Int) ≤ (k : Int) := by omega
      have k1 : (k : Int) ≤ (v.size : Int) := by omega
      have k2 : ¬ (k : Int) < 0 := by omega
      have k3 : (0 : Int) ≤ (k : Int) + 1 := by omega
      have k4 : (k : Int) + 1 ≤ (v.size : Int) := by omega
      have k5 : ((k : Int) + 1).toNat = k + 1 := by omega
      have kw : IntKind.i64.wrap ((k : Int) + 1) = (k : Int) + 1 := by rw [IntKind.wrap_i64]; omega
      have hx : (v.extract 0 k).size = k := by rw [ByteArray.size_extract]; omega
      have hy : (v.extract (k + 1) v.size).size = v.size - (k + 1) := by rw [ByteArray.size_extract]; omega
      have Hx := Lib.hid hx
      have Hy := Lib.hid hy
      clear hx hy
      go_wp2_with (first | (at_builtin; refine Lib.wpList_append_own_string _ rfl _ _ 78 9 rfl w.heap.size 5 i0 Hu.out Hus.out Hi.out Hz0.out Hz1.out Hz2.out _ _ _ rfl hown _ rfl ?c1 ?c2 ?c3 ?_))
      case c1 => rw [Hx.out]; unfold maxLen; omega
      case c2 => rw [Hx.out]; omega
      case c3 => omega
      intro v1 w1 hown1 hg1 _
      rw [show min k v.size = (v.extract 0 k).size by rw [Hx.out]; omega] at hown1
      have R1 := own_text hb hown hown1 hg1
      obtain ⟨l1, hl1⟩ : ∃ l1, l ++ (v.extract 0 k).data.toList = l1 := ⟨_, rfl⟩
      have hl1s : l1.length = l.length + k := by rw [← hl1, List.length_append, ← Lib.size_eq, Hx.out]
      rw [hl1] at R1
      have Hl1 := Lib.hid hl1s
      clear hown1 hg1 hl1 hl1s
      have o1 := R1.1
      have b1 := R1.2
      have bs1 := b1.size
      clear R1
      go_wp2_with (first | (at_builtin; refine Lib.wpList_append_own_string _ rfl _ _ 78 9 rfl w.heap.size 5 i0 Hu.out Hus.out Hi.out Hz0.out Hz1.out Hz2.out _ _ _ rfl o1 _ rfl ?d1 ?d2 ?d3 ?_))
      case d1 => have := Hl1.out; show l1.length + 1 ≤ _; unfold maxLen; omega
      case d2 => have := Hl1.out; show l1.length + 1 ≤ _; omega
      case d3 => omega
      intro v2 w2 hown2 hg2 _
      have R2 := own_text b1 o1 hown2 hg2
      have o2 := R2.1
      have b2 := R2.2
      clear R2 hown2 hg2
      go_wp2_with fail
      go_roundg v.size
      case measure => omega
      case rel =>
        have hl1s := Hl1.out
        exact ⟨_, _, rfl, o2, b2, by rw [List.length_append, Hy.out]; show l1.length + 1 + _ ≤ _; omega, by rw [Hy.out]; omega⟩

theorem OnlyL.iter {L : Nat} {T : TypeId} {c : Array Value} {w w' : World} (h : OnlyL L T c w w') {k : Nat} (hk : w.heap.size ≤ k) (hL : L < w.heap.size) (s : ByteArray) (pos : Nat) : OnlyL L T c w (w'.iterAt k s pos) :=
  ⟨h.os, h.tape, h.output, by rw [Lib.iterAt_size]; exact h.size, fun i hi hn => (Lib.iterAt_other _ _ _ _ _ (by omega)).trans (h.others i hi hn), (Lib.iterAt_other _ _ _ _ _ (by omega)).trans h.own⟩

theorem OnlyL.belowB {L B : Nat} {T : TypeId} {c : Array Value} {w w1 w' : World} (h : OnlyL L T c w w1) (hb : Below B w1 w') (hB : w.heap.size ≤ B) (hL : L < w.heap.size) : OnlyL L T c w w' :=
  ⟨hb.os.trans h.os, hb.tape.trans h.tape, hb.output.trans h.output, Nat.le_trans h.size hb.size, fun k hk hn => (hb.block k (by omega)).trans (h.others k hk hn), (hb.block L (by omega)).trans h.own⟩
theorem indexByte_in {l : List UInt8} {c : UInt8} {j : Int} (h : Lib.indexByte l c = j) : j = -1 ∨ ∃ k : Nat, j = (k : Int) ∧ k < l.length := by
  have h1 := Lib.indexByte_ge l c
  by_cases e : j = -1
  · exact .inl e
  · right
    obtain ⟨k, hk⟩ := Int.eq_ofNat_of_zero_le (show 0 ≤ j by omega)
    refine ⟨k, hk, ?_⟩
    have := (Lib.indexByte_some (h.trans hk)).1
    exact (List.getElem?_eq_some_iff.1 this).1

def feCells (f o line col : Int) (msg snip : ByteArray) : Array Value := #[.int .i64 f, .int .i64 o, .int .i64 line, .int .i64 col, .string msg, .string snip, .nilIface]

theorem iter_at {W : World} {n : Nat} (s : ByteArray) (h : n = W.heap.size) : (W.iter s 0).heap[n]? = some (.stringIter s 0) := by subst h; exact World.iter_heap W s 0

theorem own_keep {w w' : World} {base : Nat} {e : TypeId} {size n : Nat} {v : Value} {xs : List Value} (h : w.ownsRow base e size v n xs) (hm : ∀ k, v.ownBlock = some k → w'.heap[k]? = w.heap[k]?) : w'.ownsRow base e size v n xs := by
  obtain ⟨h1, h2⟩ := h
  refine ⟨h1, ?_⟩
  rcases h2 with h2 | ⟨g, cap, cur, rfl, hg, hh, r⟩
  · exact .inl h2
  · exact .inr ⟨g, cap, cur, rfl, hg, (hm g rfl).trans hh, r⟩
theorem builder_below {B b : Nat} {bs : List Value} {w w' : World} (h : Lib.IsBuilder 80 5 B b bs w) (hb : Below w.heap.size w w') : Lib.IsBuilder 80 5 B b bs w' := by
  have key : ∀ p, Lib.BuilderAt 80 5 B b p bs w → Lib.BuilderAt 80 5 B b p bs w' := by
    intro p hp
    have hl := hp.lt
    obtain ⟨h0, v, h1, h2, h3⟩ := hp
    exact ⟨h0, v, (hb.block b hl).trans h1, own_keep h2 (fun k hk => hb.block k (h2.lt k hk).2), h3⟩
  exact h.imp (key _) (key _)

/-- The snippet half written: the error e's block, a builder of the call's own at B. -/
structure Snip (w : World) (E : Nat) (c : Array Value) (B : Nat) (acc : List UInt8) (wq : World) : Prop where
  only : OnlyL E 75 c w wq
  bld : Lib.IsBuilder 80 5 B B (byteCells acc) wq
  base : w.heap.size ≤ B
  lt : B < wq.heap.size
theorem Snip.step {w wq w' : World} {E B : Nat} {c : Array Value} {acc acc' : List UInt8} {p : Value} (h : Snip w E c B acc wq) (hE : E < w.heap.size) (ha : Lib.BuilderAt 80 5 B B p (byteCells acc') w') (hp : p = .pointer (some ⟨B, 0, none⟩)) (hb : Below B wq w') : Snip w E c B acc' w' :=
  ⟨h.only.belowB hb h.base hE, .inr (by subst hp; exact ha), h.base, Nat.lt_of_lt_of_le h.lt hb.size⟩

theorem Snip.below {w wq w' : World} {E B : Nat} {c : Array Value} {acc : List UInt8} (h : Snip w E c B acc wq) (hb : Below wq.heap.size wq w') : Snip w E c B acc w' :=
  ⟨h.only.below hb, builder_below h.bld hb, h.base, Nat.lt_of_lt_of_le h.lt hb.size⟩

set_option maxHeartbeats 8000000 in
set_option maxRecDepth 100000 in
theorem bind_any (E : Nat) (f o line col : Int) (msg snip s : ByteArray) (hs : s.size ≤ 1099511627776) (w : World) (hE : w.heap[E]? = some (.cells (feCells f o line col msg snip) 75 (0, 0))) :
    Calls Tryf.prog 20 #[.pointer (some ⟨E, 0, none⟩), .agg #[.string s]] w fun e w' => e = .returned (.pointer (some ⟨E, 0, none⟩)) ∧ ∃ line' col' snip', OnlyL E 75 (feCells f o line' col' msg snip') w w' := by
  have d0 : w.cell? ⟨E, 0, none⟩ = some (.int .i64 f) := cell_of_block hE 0
  have d2 : w.cell? ⟨E, 2, none⟩ = some (.int .i64 line) := cell_of_block hE 2
  have d3 : w.cell? ⟨E, 3, none⟩ = some (.int .i64 col) := cell_of_block hE 3
  have fz := free_of_block hE
  have l0 : E < w.heap.size := (Array.getElem?_eq_some_iff.1 hE).1
  have l1 : E < w.heap.size + 1 := by omega
  have l2 : E < w.heap.size + 1 + 1 := by omega
  have l3 : E < w.heap.size + 1 + 1 + 1 := by omega
  have HE := Lib.hid hE
  clear hE
  go_enter Tryf.func20, Tryf.ntmps20
  go_wp2_with fail
  refine (source_String s _).mono ?_
  rintro e w' ⟨rfl, rfl⟩
  go_wp2_with fail
  go_loopg [6, 7] s.size (fun g rc ls wr => ∃ (n b pos ln co : Nat), rc = .int .i64 (n : Nat) ∧ ls = .int .i64 (b : Nat) ∧ Hid (OnlyL E 75 (feCells f o (ln : Nat) (co : Nat) msg snip) w wr) ∧ wr.heap[w.heap.size + 1 + 1]? = some (.stringIter s pos) ∧ s.size ≤ pos + g ∧ n ≤ pos ∧ b ≤ pos ∧ pos ≤ s.size ∧ ln ≤ pos + 1 ∧ co ≤ pos)
  case atStart =>
    refine ⟨0, 0, 0, 1, 0, rfl, rfl, Lib.hid ?_, iter_at s (by simp [World.setCell]), by omega, by omega, by omega, by omega, by omega, by omega⟩
    refine OnlyL.cast (by repeat (first | exact OnlyL.refl HE.out | apply OnlyL.setCell | apply OnlyL.drew | apply OnlyL.drewN | apply OnlyL.alloc)) ?_
    simp [feCells]
  case round =>
    obtain ⟨n, b, pos, ln, co, rfl, rfl, ho, hit, hfu, hn, hbp, hps, hln, hco⟩ := hrel
    have hsz : w.heap.size + 1 + 1 < wr.heap.size := (Array.getElem?_eq_some_iff.1 hit).1
    have e0 : wr.cell? ⟨E, 0, none⟩ = some (.int .i64 f) := cell_of_block ho.out.own 0
    have e2 : wr.cell? ⟨E, 2, none⟩ = some (.int .i64 (ln : Nat)) := cell_of_block ho.out.own 2
    have e3 : wr.cell? ⟨E, 3, none⟩ = some (.int .i64 (co : Nat)) := cell_of_block ho.out.own 3
    have ef := free_of_block ho.out.own
    have m0 : E < wr.heap.size := by omega
    have m1 : E < wr.heap.size + 1 := by omega
    by_cases hp : pos < s.size
    · have hnx : ∀ ty, (Instr.next (.pointer (some ⟨w.heap.size + 1 + 1, 0, none⟩)) true ty).run Tryf.prog wr = _ := fun ty => Lib.run_next_any_at wr (w.heap.size + 1 + 1) s pos ty hit hp
      have hit2 := Lib.iterAt_heap wr (w.heap.size + 1 + 1) s pos (pos + (Utf8.decode s pos).2) hit
      have ho2 : OnlyL E 75 (feCells f o (ln : Nat) (co : Nat) msg snip) w (wr.iterAt (w.heap.size + 1 + 1) s (pos + (Utf8.decode s pos).2)) := ho.out.iter (by omega) l0 s _
      have hwd := wAt_pos s pos hp
      have hwl := wAt_le s pos hp
      change 1 ≤ (Utf8.decode s pos).2 at hwd
      change pos + (Utf8.decode s pos).2 ≤ s.size at hwl
      obtain ⟨g', rfl⟩ : ∃ g', gk = g' + 1 := ⟨gk - 1, by omega⟩
      have e0' : (wr.iterAt (w.heap.size + 1 + 1) s (pos + (Utf8.decode s pos).2)).cell? ⟨E, 0, none⟩ = some (.int .i64 f) := cell_of_block ho2.own 0
      have e2' : (wr.iterAt (w.heap.size + 1 + 1) s (pos + (Utf8.decode s pos).2)).cell? ⟨E, 2, none⟩ = some (.int .i64 (ln : Nat)) := cell_of_block ho2.own 2
      have e3' : (wr.iterAt (w.heap.size + 1 + 1) s (pos + (Utf8.decode s pos).2)).cell? ⟨E, 3, none⟩ = some (.int .i64 (co : Nat)) := cell_of_block ho2.own 3
      have ef' := free_of_block ho2.own
      have hszE : (wr.iterAt (w.heap.size + 1 + 1) s (pos + (Utf8.decode s pos).2)).heap.size = wr.heap.size := Lib.iterAt_size _ _ _ _
      have HO2 := Lib.hid ho2
      clear ho2 e0 e2 e3 ef ho hit
      by_cases hf : (n : Int) = f
      · have hd : ((n : Int) == f) = true := by rw [hf]; simp
        have hb2 : b ≤ s.size := by omega
        have hco2 : co ≤ s.size := by omega
        have Hf := Lib.hid hf
        clear hfu hn hbp hln hco hwd hwl hf hp hps
        have hoT := HO2
        clear HO2 e0' e2' e3' hit2 hszE m0 m1
        have e0' : (wr.iterAt (w.heap.size + 1 + 1) s (pos + (Utf8.decode s pos).2)).cell? ⟨E, 0, none⟩ = some (.int .i64 f) := cell_of_block hoT.out.own 0
        clear ef'
        obtain ⟨j, hj⟩ : ∃ j, Lib.indexByte (s.extract b s.size).data.toList 10 = j := ⟨_, rfl⟩
        have hjj := indexByte_in hj
        have hlen : (s.extract b s.size).data.toList.length = s.size - b := by rw [Lib.extract_to_end, List.length_drop]; have := Lib.size_eq s; omega
        rw [hlen] at hjj
        have Hj := Lib.hid hj
        clear hj hlen
        have b0 : (0 : Int) ≤ (b : Int) := by omega
        have b1 : (b : Int) ≤ (s.size : Int) := by omega
        have hz : ∃ z : Nat, b ≤ z ∧ z ≤ s.size ∧ ((j = -1 ∧ z = s.size) ∨ ((b : Int) + j = (z : Int) ∧ j ≠ -1)) := by
          rcases hjj with h | ⟨k, h, hk⟩
          · exact ⟨s.size, by omega, by omega, .inl ⟨h, rfl⟩⟩
          · exact ⟨b + k, by omega, by omega, .inr ⟨by omega, by omega⟩⟩
        clear hjj
        obtain ⟨z, hz1, hz2, hz3⟩ := hz
        rcases hz3 with ⟨rfl, hz4⟩ | ⟨hz4, hz5⟩
        · have c1 : (b : Int) + -1 < (b : Int) := by omega
          go_wp2_with fail
          refine (Tryf.strings_IndexByte _ 10 _).mono ?_
          rintro e wy ⟨rfl, hwy⟩
          have hoy : Hid (OnlyL E 75 (feCells f o (ln : Nat) (co : Nat) msg snip) w wy) := Lib.hid (by rw [hwy]; exact hoT.out)
          have e2 : wy.cell? ⟨E, 2, none⟩ = some (.int .i64 (ln : Nat)) := cell_of_block hoy.out.own 2
          have e3 : wy.cell? ⟨E, 3, none⟩ = some (.int .i64 (co : Nat)) := cell_of_block hoy.out.own 3
          have ef := free_of_block hoy.out.own
          have m0 : E < wy.heap.size := Nat.lt_of_lt_of_le l0 hoy.out.size
          have m1 : E < wy.heap.size + 1 := by omega
          clear hwy
          rw [show ((10 : Int).toNat.toUInt8) = 10 from rfl, Hj.out]
          subst hz4
          by_cases hbz : b = s.size
          · have q1 : ((b : Int) == (s.size : Int)) = true := by rw [hbz]; simp
            have q1' : (b : Int) = (s.size : Int) := by omega
            have Hq := Lib.hid hbz
            clear hbz
            go_wp2_with fail
            go_ret
            exact ⟨rfl, _, _, _, hoy.out.belowB (by repeat (first | exact Below.refl _ _ | apply below_drew | apply below_drewN | apply below_alloc | apply below_grow)) (Nat.le_refl _) l0⟩
          · have q1 : ((b : Int) == (s.size : Int)) = false := by rw [beq_eq_false_iff_ne]; omega
            have q1' : ¬ (b : Int) = (s.size : Int) := by omega
            clear hbz
            obtain ⟨lin, hlin⟩ : ∃ x, s.extract b s.size = x := ⟨_, rfl⟩
            have hls : lin.size ≤ s.size := by rw [← hlin, ByteArray.size_extract]; omega
            have b2 : (b : Int) ≤ (s.size : Int) := by omega
            have b3 : (s.size : Int) ≤ (s.size : Int) := by omega
            go_wp2_with fail
            have hgr := Tryf.Builder_Grow_fresh wy.heap.size wy.heap.size (8 + lin.size + co + 1) (wy.alloc (.cells #[.pointer none, .slice none 0 0] 80)) (Nat.le_refl _) (heap_alloc_at rfl) (by simp) (by omega)
            rw [show (((8 + lin.size + co + 1 : Nat)) : Int) = 8 + (lin.size : Int) + (co : Int) + 1 by omega] at hgr
            refine hgr.mono ?_
            rintro e w3 ⟨rfl, hbA, hbB⟩
            have S3 : Snip w E (feCells f o (ln : Nat) (co : Nat) msg snip) wy.heap.size [] w3 := ⟨(hoy.out.alloc _).belowB hbB hoy.out.size l0, .inr hbA, hoy.out.size, by have := hbB.size; simp at this; omega⟩
            have HS3 := Lib.hid S3
            obtain ⟨B, hB⟩ : ∃ B, B = wy.heap.size := ⟨_, rfl⟩
            rw [← hB] at HS3 ⊢
            clear hbA hbB hgr S3 hoy e2 e3 ef m0 m1 hB hlin
            go_wp2_with fail
            refine (Tryf.WriteString_any B B (byteCells []) ⟨#[10, 32, 124, 32]⟩ w3 HS3.out.bld (by show 0 + 4 ≤ _; omega) (Nat.le_of_lt HS3.out.lt)).mono ?_
            rintro e w4 ⟨rfl, hbA, hbB⟩
            rw [byteCells_strCells] at hbA
            have HS4 := Lib.hid (HS3.out.step l0 hbA rfl hbB)
            clear hbA hbB
            go_wp2_with fail
            refine (fReplace_any lin (by omega) w4).mono ?_
            rintro e w5 ⟨⟨v, rfl, hv⟩, hb5⟩
            have HS5 := Lib.hid (HS4.out.below hb5)
            clear hb5
            go_wp2_with fail
            refine (Tryf.WriteString_any B B _ v w5 HS5.out.bld (by rw [byteCells_length]; show 4 + v.size ≤ _; omega) (Nat.le_of_lt HS5.out.lt)).mono ?_
            rintro e w6 ⟨rfl, hbA, hbB⟩
            rw [byteCells_strCells] at hbA
            have HS6 := Lib.hid (HS5.out.step l0 hbA rfl hbB)
            clear hbA hbB
            obtain ⟨acc, hacc⟩ : ∃ acc, [] ++ (⟨#[10, 32, 124, 32]⟩ : ByteArray).data.toList ++ v.data.toList = acc := ⟨_, rfl⟩
            have hal : acc.length ≤ 4 + s.size := by rw [← hacc, List.length_append]; have := Lib.size_eq v; show 4 + v.data.toList.length ≤ _; omega
            rw [hacc] at HS6
            clear hacc
            go_wp2_with fail
            refine (Tryf.WriteString_any B B (byteCells acc) ⟨#[10, 32, 124, 32]⟩ w6 HS6.out.bld (by rw [byteCells_length]; show acc.length + 4 ≤ _; omega) (Nat.le_of_lt HS6.out.lt)).mono ?_
            rintro e w7 ⟨rfl, hbA, hbB⟩
            rw [byteCells_strCells] at hbA
            have HS7 := Lib.hid (HS6.out.step l0 hbA rfl hbB)
            clear hbA hbB
            go_wp2_with fail
            go_loopg [13] (co + 1) (fun g iv wq => ∃ (i : Nat) (a : List UInt8), iv = .int .i64 (i : Nat) ∧ Hid (Snip w E (feCells f o (ln : Nat) (co : Nat) msg snip) B a wq) ∧ i ≤ co ∧ co < i + g ∧ a.length ≤ 8 + s.size + i)
            case atStart => exact ⟨0, _, rfl, HS7, by omega, by omega, by rw [List.length_append]; show acc.length + 4 ≤ _; omega⟩
            case round =>
              obtain ⟨i, a, rfl, HSr, hi1, hi2, hi3⟩ := hrel
              have f3 : wr.cell? ⟨E, 3, none⟩ = some (.int .i64 (co : Nat)) := cell_of_block HSr.out.only.own 3
              have f5 : wr.cell? ⟨E, 5, none⟩ = some (.string snip) := cell_of_block HSr.out.only.own 5
              have ff := free_of_block HSr.out.only.own
              by_cases hic : i < co
              · have hic' : (i : Int) < (co : Int) := by omega
                go_wp2_with fail
                refine (Tryf.WriteByte_any B B (byteCells a) 46 wr HSr.out.bld (by rw [byteCells_length]; omega) (Nat.le_of_lt HSr.out.lt)).mono ?_
                rintro e w8 ⟨rfl, hbA, hbB⟩
                have hA2 : Lib.BuilderAt 80 5 B B (.pointer (some ⟨B, 0, none⟩)) (byteCells (a ++ [46])) w8 := by
                  have e : byteCells (a ++ [46]) = byteCells a ++ [.int .u8 46] := by simp [byteCells]
                  rw [e]; exact hbA
                have HS8 := Lib.hid (HSr.out.step l0 hA2 rfl hbB)
                clear hbA hbB hA2
                go_wp2_with fail
                go_roundg (co - i)
                case measure => omega
                case rel => exact ⟨i + 1, _, by go_num, HS8, by omega, by omega, by rw [List.length_append]; show a.length + 1 ≤ _; omega⟩
              · have hic' : ¬ (i : Int) < (co : Int) := by omega
                go_wp2_with fail
                refine (Tryf.WriteByte_any B B (byteCells a) 94 wr HSr.out.bld (by rw [byteCells_length]; omega) (Nat.le_of_lt HSr.out.lt)).mono ?_
                rintro e w8 ⟨rfl, hbA, hbB⟩
                have hA2 : Lib.BuilderAt 80 5 B B (.pointer (some ⟨B, 0, none⟩)) (byteCells (a ++ [94])) w8 := by
                  have e : byteCells (a ++ [94]) = byteCells a ++ [.int .u8 94] := by simp [byteCells]
                  rw [e]; exact hbA
                have HS8 := Lib.hid (HSr.out.step l0 hA2 rfl hbB)
                clear hbA hbB hA2 f3 f5 ff
                go_wp2_with fail
                refine (Tryf.Builder_String_any B B (a ++ [94]) w8 HS8.out.bld (Nat.le_of_lt HS8.out.lt)).mono ?_
                rintro e w9 ⟨rfl, hb9⟩
                have HO9 := Lib.hid (HS8.out.only.belowB hb9 HS8.out.base l0)
                have f5 : w9.cell? ⟨E, 5, none⟩ = some (.string snip) := cell_of_block HO9.out.own 5
                have ff := free_of_block HO9.out.own
                clear hb9
                go_wp2_with fail
                go_ret
                refine ⟨rfl, (ln : Nat), (co : Nat), ⟨(a ++ [94]).toArray⟩, OnlyL.cast (by repeat (first | exact HO9.out | apply OnlyL.setCell | apply OnlyL.drew | apply OnlyL.drewN | apply OnlyL.alloc)) ?_⟩
                simp [feCells]
        · have c1 : ¬ (z : Int) < (b : Int) := by omega
          clear hz5
          go_wp2_with fail
          refine (Tryf.strings_IndexByte _ 10 _).mono ?_
          rintro e wy ⟨rfl, hwy⟩
          have hoy : Hid (OnlyL E 75 (feCells f o (ln : Nat) (co : Nat) msg snip) w wy) := Lib.hid (by rw [hwy]; exact hoT.out)
          have e2 : wy.cell? ⟨E, 2, none⟩ = some (.int .i64 (ln : Nat)) := cell_of_block hoy.out.own 2
          have e3 : wy.cell? ⟨E, 3, none⟩ = some (.int .i64 (co : Nat)) := cell_of_block hoy.out.own 3
          have ef := free_of_block hoy.out.own
          have m0 : E < wy.heap.size := Nat.lt_of_lt_of_le l0 hoy.out.size
          have m1 : E < wy.heap.size + 1 := by omega
          clear hwy
          rw [show ((10 : Int).toNat.toUInt8) = 10 from rfl, Hj.out]
          by_cases hbz : b = z
          · have q1 : ((b : Int) == (z : Int)) = true := by rw [hbz]; simp
            have q1' : (b : Int) = (z : Int) := by omega
            have Hq := Lib.hid hbz
            clear hbz
            go_wp2_with fail
            go_ret
            exact ⟨rfl, _, _, _, hoy.out.belowB (by repeat (first | exact Below.refl _ _ | apply below_drew | apply below_drewN | apply below_alloc | apply below_grow)) (Nat.le_refl _) l0⟩
          · have q1 : ((b : Int) == (z : Int)) = false := by rw [beq_eq_false_iff_ne]; omega
            have q1' : ¬ (b : Int) = (z : Int) := by omega
            clear hbz
            obtain ⟨lin, hlin⟩ : ∃ x, s.extract b z = x := ⟨_, rfl⟩
            have hls : lin.size ≤ s.size := by rw [← hlin, ByteArray.size_extract]; omega
            have b2 : (b : Int) ≤ (z : Int) := by omega
            have b3 : (z : Int) ≤ (s.size : Int) := by omega
            go_wp2_with fail
            have hgr := Tryf.Builder_Grow_fresh wy.heap.size wy.heap.size (8 + lin.size + co + 1) (wy.alloc (.cells #[.pointer none, .slice none 0 0] 80)) (Nat.le_refl _) (heap_alloc_at rfl) (by simp) (by omega)
            rw [show (((8 + lin.size + co + 1 : Nat)) : Int) = 8 + (lin.size : Int) + (co : Int) + 1 by omega] at hgr
            refine hgr.mono ?_
            rintro e w3 ⟨rfl, hbA, hbB⟩
            have S3 : Snip w E (feCells f o (ln : Nat) (co : Nat) msg snip) wy.heap.size [] w3 := ⟨(hoy.out.alloc _).belowB hbB hoy.out.size l0, .inr hbA, hoy.out.size, by have := hbB.size; simp at this; omega⟩
            have HS3 := Lib.hid S3
            obtain ⟨B, hB⟩ : ∃ B, B = wy.heap.size := ⟨_, rfl⟩
            rw [← hB] at HS3 ⊢
            clear hbA hbB hgr S3 hoy e2 e3 ef m0 m1 hB hlin
            go_wp2_with fail
            refine (Tryf.WriteString_any B B (byteCells []) ⟨#[10, 32, 124, 32]⟩ w3 HS3.out.bld (by show 0 + 4 ≤ _; omega) (Nat.le_of_lt HS3.out.lt)).mono ?_
            rintro e w4 ⟨rfl, hbA, hbB⟩
            rw [byteCells_strCells] at hbA
            have HS4 := Lib.hid (HS3.out.step l0 hbA rfl hbB)
            clear hbA hbB
            go_wp2_with fail
            refine (fReplace_any lin (by omega) w4).mono ?_
            rintro e w5 ⟨⟨v, rfl, hv⟩, hb5⟩
            have HS5 := Lib.hid (HS4.out.below hb5)
            clear hb5
            go_wp2_with fail
            refine (Tryf.WriteString_any B B _ v w5 HS5.out.bld (by rw [byteCells_length]; show 4 + v.size ≤ _; omega) (Nat.le_of_lt HS5.out.lt)).mono ?_
            rintro e w6 ⟨rfl, hbA, hbB⟩
            rw [byteCells_strCells] at hbA
            have HS6 := Lib.hid (HS5.out.step l0 hbA rfl hbB)
            clear hbA hbB
            obtain ⟨acc, hacc⟩ : ∃ acc, [] ++ (⟨#[10, 32, 124, 32]⟩ : ByteArray).data.toList ++ v.data.toList = acc := ⟨_, rfl⟩
            have hal : acc.length ≤ 4 + s.size := by rw [← hacc, List.length_append]; have := Lib.size_eq v; show 4 + v.data.toList.length ≤ _; omega
            rw [hacc] at HS6
            clear hacc
            go_wp2_with fail
            refine (Tryf.WriteString_any B B (byteCells acc) ⟨#[10, 32, 124, 32]⟩ w6 HS6.out.bld (by rw [byteCells_length]; show acc.length + 4 ≤ _; omega) (Nat.le_of_lt HS6.out.lt)).mono ?_
            rintro e w7 ⟨rfl, hbA, hbB⟩
            rw [byteCells_strCells] at hbA
            have HS7 := Lib.hid (HS6.out.step l0 hbA rfl hbB)
            clear hbA hbB
            go_wp2_with fail
            go_loopg [13] (co + 1) (fun g iv wq => ∃ (i : Nat) (a : List UInt8), iv = .int .i64 (i : Nat) ∧ Hid (Snip w E (feCells f o (ln : Nat) (co : Nat) msg snip) B a wq) ∧ i ≤ co ∧ co < i + g ∧ a.length ≤ 8 + s.size + i)
            case atStart => exact ⟨0, _, rfl, HS7, by omega, by omega, by rw [List.length_append]; show acc.length + 4 ≤ _; omega⟩
            case round =>
              obtain ⟨i, a, rfl, HSr, hi1, hi2, hi3⟩ := hrel
              have f3 : wr.cell? ⟨E, 3, none⟩ = some (.int .i64 (co : Nat)) := cell_of_block HSr.out.only.own 3
              have f5 : wr.cell? ⟨E, 5, none⟩ = some (.string snip) := cell_of_block HSr.out.only.own 5
              have ff := free_of_block HSr.out.only.own
              by_cases hic : i < co
              · have hic' : (i : Int) < (co : Int) := by omega
                go_wp2_with fail
                refine (Tryf.WriteByte_any B B (byteCells a) 46 wr HSr.out.bld (by rw [byteCells_length]; omega) (Nat.le_of_lt HSr.out.lt)).mono ?_
                rintro e w8 ⟨rfl, hbA, hbB⟩
                have hA2 : Lib.BuilderAt 80 5 B B (.pointer (some ⟨B, 0, none⟩)) (byteCells (a ++ [46])) w8 := by
                  have e : byteCells (a ++ [46]) = byteCells a ++ [.int .u8 46] := by simp [byteCells]
                  rw [e]; exact hbA
                have HS8 := Lib.hid (HSr.out.step l0 hA2 rfl hbB)
                clear hbA hbB hA2
                go_wp2_with fail
                go_roundg (co - i)
                case measure => omega
                case rel => exact ⟨i + 1, _, by go_num, HS8, by omega, by omega, by rw [List.length_append]; show a.length + 1 ≤ _; omega⟩
              · have hic' : ¬ (i : Int) < (co : Int) := by omega
                go_wp2_with fail
                refine (Tryf.WriteByte_any B B (byteCells a) 94 wr HSr.out.bld (by rw [byteCells_length]; omega) (Nat.le_of_lt HSr.out.lt)).mono ?_
                rintro e w8 ⟨rfl, hbA, hbB⟩
                have hA2 : Lib.BuilderAt 80 5 B B (.pointer (some ⟨B, 0, none⟩)) (byteCells (a ++ [94])) w8 := by
                  have e : byteCells (a ++ [94]) = byteCells a ++ [.int .u8 94] := by simp [byteCells]
                  rw [e]; exact hbA
                have HS8 := Lib.hid (HSr.out.step l0 hA2 rfl hbB)
                clear hbA hbB hA2 f3 f5 ff
                go_wp2_with fail
                refine (Tryf.Builder_String_any B B (a ++ [94]) w8 HS8.out.bld (Nat.le_of_lt HS8.out.lt)).mono ?_
                rintro e w9 ⟨rfl, hb9⟩
                have HO9 := Lib.hid (HS8.out.only.belowB hb9 HS8.out.base l0)
                have f5 : w9.cell? ⟨E, 5, none⟩ = some (.string snip) := cell_of_block HO9.out.own 5
                have ff := free_of_block HO9.out.own
                clear hb9
                go_wp2_with fail
                go_ret
                refine ⟨rfl, (ln : Nat), (co : Nat), ⟨(a ++ [94]).toArray⟩, OnlyL.cast (by repeat (first | exact HO9.out | apply OnlyL.setCell | apply OnlyL.drew | apply OnlyL.drewN | apply OnlyL.alloc)) ?_⟩
                simp [feCells]
      · have hd : ((n : Int) == f) = false := beq_eq_false_iff_ne.2 hf
        by_cases h10 : ((Utf8.decode s pos).1 : Int) = 10
        · have hx : ((((Utf8.decode s pos).1 : Nat) : Int) == 10) = true := by rw [h10]; rfl
          have Hf := Lib.hid hf
          have H10 := Lib.hid h10
          clear hf h10
          go_wp2_with fail
          go_roundg g'
          case measure => omega
          case rel =>
            refine ⟨n + 1, pos + 1, pos + (Utf8.decode s pos).2, ln + 1, 0, by go_num, by go_num, Lib.hid (OnlyL.cast (by repeat (first | exact HO2.out | apply OnlyL.setCell | apply OnlyL.drew | apply OnlyL.drewN | apply OnlyL.alloc)) ?_), ?_, by omega, by omega, by omega, hwl, by omega, by omega⟩
            · simp [feCells]
            · repeat (first | exact hit2 | rw [Below.heap_setCell _ _ _ _ (show w.heap.size + 1 + 1 ≠ E by omega)])
        · have hx : ((((Utf8.decode s pos).1 : Nat) : Int) == 10) = false := beq_eq_false_iff_ne.2 h10
          have Hf := Lib.hid hf
          have H10 := Lib.hid h10
          clear hf h10
          go_wp2_with fail
          go_roundg g'
          case measure => omega
          case rel =>
            refine ⟨n + 1, b, pos + (Utf8.decode s pos).2, ln, co + 1, by go_num, rfl, Lib.hid (OnlyL.cast (by repeat (first | exact HO2.out | apply OnlyL.setCell | apply OnlyL.drew | apply OnlyL.drewN | apply OnlyL.alloc)) ?_), ?_, by omega, by omega, by omega, hwl, by omega, by omega⟩
            · simp [feCells]
            · repeat (first | exact hit2 | rw [Below.heap_setCell _ _ _ _ (show w.heap.size + 1 + 1 ≠ E by omega)])
    · have hnx : ∀ ty, (Instr.next (.pointer (some ⟨w.heap.size + 1 + 1, 0, none⟩)) true ty).run Tryf.prog wr = _ := fun ty => Lib.run_next_end_at wr (w.heap.size + 1 + 1) s pos ty hit hp
      have hoT := ho
      clear hit e0 e2 e3 ef m0 m1 ho
      have hb2 : b ≤ s.size := by omega
      have hco2 : co ≤ s.size := by omega
      clear hfu hn hbp hps hln hco
      obtain ⟨j, hj⟩ : ∃ j, Lib.indexByte (s.extract b s.size).data.toList 10 = j := ⟨_, rfl⟩
      have hjj := indexByte_in hj
      have hlen : (s.extract b s.size).data.toList.length = s.size - b := by rw [Lib.extract_to_end, List.length_drop]; have := Lib.size_eq s; omega
      rw [hlen] at hjj
      have Hj := Lib.hid hj
      clear hj hlen
      have b0 : (0 : Int) ≤ (b : Int) := by omega
      have b1 : (b : Int) ≤ (s.size : Int) := by omega
      have hz : ∃ z : Nat, b ≤ z ∧ z ≤ s.size ∧ ((j = -1 ∧ z = s.size) ∨ ((b : Int) + j = (z : Int) ∧ j ≠ -1)) := by
        rcases hjj with h | ⟨k, h, hk⟩
        · exact ⟨s.size, by omega, by omega, .inl ⟨h, rfl⟩⟩
        · exact ⟨b + k, by omega, by omega, .inr ⟨by omega, by omega⟩⟩
      clear hjj
      obtain ⟨z, hz1, hz2, hz3⟩ := hz
      rcases hz3 with ⟨rfl, hz4⟩ | ⟨hz4, hz5⟩
      · have c1 : (b : Int) + -1 < (b : Int) := by omega
        go_wp2_with fail
        refine (Tryf.strings_IndexByte _ 10 _).mono ?_
        rintro e wy ⟨rfl, hwy⟩
        have hoy : Hid (OnlyL E 75 (feCells f o (ln : Nat) (co : Nat) msg snip) w wy) := Lib.hid (by rw [hwy]; exact hoT.out)
        have e2 : wy.cell? ⟨E, 2, none⟩ = some (.int .i64 (ln : Nat)) := cell_of_block hoy.out.own 2
        have e3 : wy.cell? ⟨E, 3, none⟩ = some (.int .i64 (co : Nat)) := cell_of_block hoy.out.own 3
        have ef := free_of_block hoy.out.own
        have m0 : E < wy.heap.size := Nat.lt_of_lt_of_le l0 hoy.out.size
        have m1 : E < wy.heap.size + 1 := by omega
        clear hwy
        rw [show ((10 : Int).toNat.toUInt8) = 10 from rfl, Hj.out]
        subst hz4
        by_cases hbz : b = s.size
        · have q1 : ((b : Int) == (s.size : Int)) = true := by rw [hbz]; simp
          have q1' : (b : Int) = (s.size : Int) := by omega
          have Hq := Lib.hid hbz
          clear hbz
          go_wp2_with fail
          go_ret
          exact ⟨rfl, _, _, _, hoy.out.belowB (by repeat (first | exact Below.refl _ _ | apply below_drew | apply below_drewN | apply below_alloc | apply below_grow)) (Nat.le_refl _) l0⟩
        · have q1 : ((b : Int) == (s.size : Int)) = false := by rw [beq_eq_false_iff_ne]; omega
          have q1' : ¬ (b : Int) = (s.size : Int) := by omega
          clear hbz
          obtain ⟨lin, hlin⟩ : ∃ x, s.extract b s.size = x := ⟨_, rfl⟩
          have hls : lin.size ≤ s.size := by rw [← hlin, ByteArray.size_extract]; omega
          have b2 : (b : Int) ≤ (s.size : Int) := by omega
          have b3 : (s.size : Int) ≤ (s.size : Int) := by omega
          go_wp2_with fail
          have hgr := Tryf.Builder_Grow_fresh wy.heap.size wy.heap.size (8 + lin.size + co + 1) (wy.alloc (.cells #[.pointer none, .slice none 0 0] 80)) (Nat.le_refl _) (heap_alloc_at rfl) (by simp) (by omega)
          rw [show (((8 + lin.size + co + 1 : Nat)) : Int) = 8 + (lin.size : Int) + (co : Int) + 1 by omega] at hgr
          refine hgr.mono ?_
          rintro e w3 ⟨rfl, hbA, hbB⟩
          have S3 : Snip w E (feCells f o (ln : Nat) (co : Nat) msg snip) wy.heap.size [] w3 := ⟨(hoy.out.alloc _).belowB hbB hoy.out.size l0, .inr hbA, hoy.out.size, by have := hbB.size; simp at this; omega⟩
          have HS3 := Lib.hid S3
          obtain ⟨B, hB⟩ : ∃ B, B = wy.heap.size := ⟨_, rfl⟩
          rw [← hB] at HS3 ⊢
          clear hbA hbB hgr S3 hoy e2 e3 ef m0 m1 hB hlin
          go_wp2_with fail
          refine (Tryf.WriteString_any B B (byteCells []) ⟨#[10, 32, 124, 32]⟩ w3 HS3.out.bld (by show 0 + 4 ≤ _; omega) (Nat.le_of_lt HS3.out.lt)).mono ?_
          rintro e w4 ⟨rfl, hbA, hbB⟩
          rw [byteCells_strCells] at hbA
          have HS4 := Lib.hid (HS3.out.step l0 hbA rfl hbB)
          clear hbA hbB
          go_wp2_with fail
          refine (fReplace_any lin (by omega) w4).mono ?_
          rintro e w5 ⟨⟨v, rfl, hv⟩, hb5⟩
          have HS5 := Lib.hid (HS4.out.below hb5)
          clear hb5
          go_wp2_with fail
          refine (Tryf.WriteString_any B B _ v w5 HS5.out.bld (by rw [byteCells_length]; show 4 + v.size ≤ _; omega) (Nat.le_of_lt HS5.out.lt)).mono ?_
          rintro e w6 ⟨rfl, hbA, hbB⟩
          rw [byteCells_strCells] at hbA
          have HS6 := Lib.hid (HS5.out.step l0 hbA rfl hbB)
          clear hbA hbB
          obtain ⟨acc, hacc⟩ : ∃ acc, [] ++ (⟨#[10, 32, 124, 32]⟩ : ByteArray).data.toList ++ v.data.toList = acc := ⟨_, rfl⟩
          have hal : acc.length ≤ 4 + s.size := by rw [← hacc, List.length_append]; have := Lib.size_eq v; show 4 + v.data.toList.length ≤ _; omega
          rw [hacc] at HS6
          clear hacc
          go_wp2_with fail
          refine (Tryf.WriteString_any B B (byteCells acc) ⟨#[10, 32, 124, 32]⟩ w6 HS6.out.bld (by rw [byteCells_length]; show acc.length + 4 ≤ _; omega) (Nat.le_of_lt HS6.out.lt)).mono ?_
          rintro e w7 ⟨rfl, hbA, hbB⟩
          rw [byteCells_strCells] at hbA
          have HS7 := Lib.hid (HS6.out.step l0 hbA rfl hbB)
          clear hbA hbB
          go_wp2_with fail
          go_loopg [13] (co + 1) (fun g iv wq => ∃ (i : Nat) (a : List UInt8), iv = .int .i64 (i : Nat) ∧ Hid (Snip w E (feCells f o (ln : Nat) (co : Nat) msg snip) B a wq) ∧ i ≤ co ∧ co < i + g ∧ a.length ≤ 8 + s.size + i)
          case atStart => exact ⟨0, _, rfl, HS7, by omega, by omega, by rw [List.length_append]; show acc.length + 4 ≤ _; omega⟩
          case round =>
            obtain ⟨i, a, rfl, HSr, hi1, hi2, hi3⟩ := hrel
            have f3 : wr.cell? ⟨E, 3, none⟩ = some (.int .i64 (co : Nat)) := cell_of_block HSr.out.only.own 3
            have f5 : wr.cell? ⟨E, 5, none⟩ = some (.string snip) := cell_of_block HSr.out.only.own 5
            have ff := free_of_block HSr.out.only.own
            by_cases hic : i < co
            · have hic' : (i : Int) < (co : Int) := by omega
              go_wp2_with fail
              refine (Tryf.WriteByte_any B B (byteCells a) 46 wr HSr.out.bld (by rw [byteCells_length]; omega) (Nat.le_of_lt HSr.out.lt)).mono ?_
              rintro e w8 ⟨rfl, hbA, hbB⟩
              have hA2 : Lib.BuilderAt 80 5 B B (.pointer (some ⟨B, 0, none⟩)) (byteCells (a ++ [46])) w8 := by
                have e : byteCells (a ++ [46]) = byteCells a ++ [.int .u8 46] := by simp [byteCells]
                rw [e]; exact hbA
              have HS8 := Lib.hid (HSr.out.step l0 hA2 rfl hbB)
              clear hbA hbB hA2
              go_wp2_with fail
              go_roundg (co - i)
              case measure => omega
              case rel => exact ⟨i + 1, _, by go_num, HS8, by omega, by omega, by rw [List.length_append]; show a.length + 1 ≤ _; omega⟩
            · have hic' : ¬ (i : Int) < (co : Int) := by omega
              go_wp2_with fail
              refine (Tryf.WriteByte_any B B (byteCells a) 94 wr HSr.out.bld (by rw [byteCells_length]; omega) (Nat.le_of_lt HSr.out.lt)).mono ?_
              rintro e w8 ⟨rfl, hbA, hbB⟩
              have hA2 : Lib.BuilderAt 80 5 B B (.pointer (some ⟨B, 0, none⟩)) (byteCells (a ++ [94])) w8 := by
                have e : byteCells (a ++ [94]) = byteCells a ++ [.int .u8 94] := by simp [byteCells]
                rw [e]; exact hbA
              have HS8 := Lib.hid (HSr.out.step l0 hA2 rfl hbB)
              clear hbA hbB hA2 f3 f5 ff
              go_wp2_with fail
              refine (Tryf.Builder_String_any B B (a ++ [94]) w8 HS8.out.bld (Nat.le_of_lt HS8.out.lt)).mono ?_
              rintro e w9 ⟨rfl, hb9⟩
              have HO9 := Lib.hid (HS8.out.only.belowB hb9 HS8.out.base l0)
              have f5 : w9.cell? ⟨E, 5, none⟩ = some (.string snip) := cell_of_block HO9.out.own 5
              have ff := free_of_block HO9.out.own
              clear hb9
              go_wp2_with fail
              go_ret
              refine ⟨rfl, (ln : Nat), (co : Nat), ⟨(a ++ [94]).toArray⟩, OnlyL.cast (by repeat (first | exact HO9.out | apply OnlyL.setCell | apply OnlyL.drew | apply OnlyL.drewN | apply OnlyL.alloc)) ?_⟩
              simp [feCells]
      · have c1 : ¬ (z : Int) < (b : Int) := by omega
        clear hz5
        go_wp2_with fail
        refine (Tryf.strings_IndexByte _ 10 _).mono ?_
        rintro e wy ⟨rfl, hwy⟩
        have hoy : Hid (OnlyL E 75 (feCells f o (ln : Nat) (co : Nat) msg snip) w wy) := Lib.hid (by rw [hwy]; exact hoT.out)
        have e2 : wy.cell? ⟨E, 2, none⟩ = some (.int .i64 (ln : Nat)) := cell_of_block hoy.out.own 2
        have e3 : wy.cell? ⟨E, 3, none⟩ = some (.int .i64 (co : Nat)) := cell_of_block hoy.out.own 3
        have ef := free_of_block hoy.out.own
        have m0 : E < wy.heap.size := Nat.lt_of_lt_of_le l0 hoy.out.size
        have m1 : E < wy.heap.size + 1 := by omega
        clear hwy
        rw [show ((10 : Int).toNat.toUInt8) = 10 from rfl, Hj.out]
        by_cases hbz : b = z
        · have q1 : ((b : Int) == (z : Int)) = true := by rw [hbz]; simp
          have q1' : (b : Int) = (z : Int) := by omega
          have Hq := Lib.hid hbz
          clear hbz
          go_wp2_with fail
          go_ret
          exact ⟨rfl, _, _, _, hoy.out.belowB (by repeat (first | exact Below.refl _ _ | apply below_drew | apply below_drewN | apply below_alloc | apply below_grow)) (Nat.le_refl _) l0⟩
        · have q1 : ((b : Int) == (z : Int)) = false := by rw [beq_eq_false_iff_ne]; omega
          have q1' : ¬ (b : Int) = (z : Int) := by omega
          clear hbz
          obtain ⟨lin, hlin⟩ : ∃ x, s.extract b z = x := ⟨_, rfl⟩
          have hls : lin.size ≤ s.size := by rw [← hlin, ByteArray.size_extract]; omega
          have b2 : (b : Int) ≤ (z : Int) := by omega
          have b3 : (z : Int) ≤ (s.size : Int) := by omega
          go_wp2_with fail
          have hgr := Tryf.Builder_Grow_fresh wy.heap.size wy.heap.size (8 + lin.size + co + 1) (wy.alloc (.cells #[.pointer none, .slice none 0 0] 80)) (Nat.le_refl _) (heap_alloc_at rfl) (by simp) (by omega)
          rw [show (((8 + lin.size + co + 1 : Nat)) : Int) = 8 + (lin.size : Int) + (co : Int) + 1 by omega] at hgr
          refine hgr.mono ?_
          rintro e w3 ⟨rfl, hbA, hbB⟩
          have S3 : Snip w E (feCells f o (ln : Nat) (co : Nat) msg snip) wy.heap.size [] w3 := ⟨(hoy.out.alloc _).belowB hbB hoy.out.size l0, .inr hbA, hoy.out.size, by have := hbB.size; simp at this; omega⟩
          have HS3 := Lib.hid S3
          obtain ⟨B, hB⟩ : ∃ B, B = wy.heap.size := ⟨_, rfl⟩
          rw [← hB] at HS3 ⊢
          clear hbA hbB hgr S3 hoy e2 e3 ef m0 m1 hB hlin
          go_wp2_with fail
          refine (Tryf.WriteString_any B B (byteCells []) ⟨#[10, 32, 124, 32]⟩ w3 HS3.out.bld (by show 0 + 4 ≤ _; omega) (Nat.le_of_lt HS3.out.lt)).mono ?_
          rintro e w4 ⟨rfl, hbA, hbB⟩
          rw [byteCells_strCells] at hbA
          have HS4 := Lib.hid (HS3.out.step l0 hbA rfl hbB)
          clear hbA hbB
          go_wp2_with fail
          refine (fReplace_any lin (by omega) w4).mono ?_
          rintro e w5 ⟨⟨v, rfl, hv⟩, hb5⟩
          have HS5 := Lib.hid (HS4.out.below hb5)
          clear hb5
          go_wp2_with fail
          refine (Tryf.WriteString_any B B _ v w5 HS5.out.bld (by rw [byteCells_length]; show 4 + v.size ≤ _; omega) (Nat.le_of_lt HS5.out.lt)).mono ?_
          rintro e w6 ⟨rfl, hbA, hbB⟩
          rw [byteCells_strCells] at hbA
          have HS6 := Lib.hid (HS5.out.step l0 hbA rfl hbB)
          clear hbA hbB
          obtain ⟨acc, hacc⟩ : ∃ acc, [] ++ (⟨#[10, 32, 124, 32]⟩ : ByteArray).data.toList ++ v.data.toList = acc := ⟨_, rfl⟩
          have hal : acc.length ≤ 4 + s.size := by rw [← hacc, List.length_append]; have := Lib.size_eq v; show 4 + v.data.toList.length ≤ _; omega
          rw [hacc] at HS6
          clear hacc
          go_wp2_with fail
          refine (Tryf.WriteString_any B B (byteCells acc) ⟨#[10, 32, 124, 32]⟩ w6 HS6.out.bld (by rw [byteCells_length]; show acc.length + 4 ≤ _; omega) (Nat.le_of_lt HS6.out.lt)).mono ?_
          rintro e w7 ⟨rfl, hbA, hbB⟩
          rw [byteCells_strCells] at hbA
          have HS7 := Lib.hid (HS6.out.step l0 hbA rfl hbB)
          clear hbA hbB
          go_wp2_with fail
          go_loopg [13] (co + 1) (fun g iv wq => ∃ (i : Nat) (a : List UInt8), iv = .int .i64 (i : Nat) ∧ Hid (Snip w E (feCells f o (ln : Nat) (co : Nat) msg snip) B a wq) ∧ i ≤ co ∧ co < i + g ∧ a.length ≤ 8 + s.size + i)
          case atStart => exact ⟨0, _, rfl, HS7, by omega, by omega, by rw [List.length_append]; show acc.length + 4 ≤ _; omega⟩
          case round =>
            obtain ⟨i, a, rfl, HSr, hi1, hi2, hi3⟩ := hrel
            have f3 : wr.cell? ⟨E, 3, none⟩ = some (.int .i64 (co : Nat)) := cell_of_block HSr.out.only.own 3
            have f5 : wr.cell? ⟨E, 5, none⟩ = some (.string snip) := cell_of_block HSr.out.only.own 5
            have ff := free_of_block HSr.out.only.own
            by_cases hic : i < co
            · have hic' : (i : Int) < (co : Int) := by omega
              go_wp2_with fail
              refine (Tryf.WriteByte_any B B (byteCells a) 46 wr HSr.out.bld (by rw [byteCells_length]; omega) (Nat.le_of_lt HSr.out.lt)).mono ?_
              rintro e w8 ⟨rfl, hbA, hbB⟩
              have hA2 : Lib.BuilderAt 80 5 B B (.pointer (some ⟨B, 0, none⟩)) (byteCells (a ++ [46])) w8 := by
                have e : byteCells (a ++ [46]) = byteCells a ++ [.int .u8 46] := by simp [byteCells]
                rw [e]; exact hbA
              have HS8 := Lib.hid (HSr.out.step l0 hA2 rfl hbB)
              clear hbA hbB hA2
              go_wp2_with fail
              go_roundg (co - i)
              case measure => omega
              case rel => exact ⟨i + 1, _, by go_num, HS8, by omega, by omega, by rw [List.length_append]; show a.length + 1 ≤ _; omega⟩
            · have hic' : ¬ (i : Int) < (co : Int) := by omega
              go_wp2_with fail
              refine (Tryf.WriteByte_any B B (byteCells a) 94 wr HSr.out.bld (by rw [byteCells_length]; omega) (Nat.le_of_lt HSr.out.lt)).mono ?_
              rintro e w8 ⟨rfl, hbA, hbB⟩
              have hA2 : Lib.BuilderAt 80 5 B B (.pointer (some ⟨B, 0, none⟩)) (byteCells (a ++ [94])) w8 := by
                have e : byteCells (a ++ [94]) = byteCells a ++ [.int .u8 94] := by simp [byteCells]
                rw [e]; exact hbA
              have HS8 := Lib.hid (HSr.out.step l0 hA2 rfl hbB)
              clear hbA hbB hA2 f3 f5 ff
              go_wp2_with fail
              refine (Tryf.Builder_String_any B B (a ++ [94]) w8 HS8.out.bld (Nat.le_of_lt HS8.out.lt)).mono ?_
              rintro e w9 ⟨rfl, hb9⟩
              have HO9 := Lib.hid (HS8.out.only.belowB hb9 HS8.out.base l0)
              have f5 : w9.cell? ⟨E, 5, none⟩ = some (.string snip) := cell_of_block HO9.out.own 5
              have ff := free_of_block HO9.out.own
              clear hb9
              go_wp2_with fail
              go_ret
              refine ⟨rfl, (ln : Nat), (co : Nat), ⟨(a ++ [94]).toArray⟩, OnlyL.cast (by repeat (first | exact HO9.out | apply OnlyL.setCell | apply OnlyL.drew | apply OnlyL.drewN | apply OnlyL.alloc)) ?_⟩
              simp [feCells]

end Go.Proofs.YtkplkccjeacniaaFmt
