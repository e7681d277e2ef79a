/-
  Plain texts, joined: Z22b Z22s.
-/
import Derived.Test.YtdgpholpdaelhaaGreatFmtZ22
/-
  Walks of what the laws of n003_22 call: end tokens, decimal numbers, the comparison.
-/
namespace Go.Proofs.YtdgpholpdaelhaaGreatFmt
open Go Go.Lib Go.RowKit Go.Proofs
open Go.Extern.Stop Go.Stop Go.Extern

/-- A token as the law's own table holds it. -/
def wantVal (k : Tok) : Value := .agg #[.string k.kind, .string k.value, .int .i64 k.frm, .int .i64 k.to]
def wantCells (k : Tok) : List Value := [.string k.kind, .string k.value, .int .i64 k.frm, .int .i64 k.to]

set_option maxRecDepth 100000 in
theorem zzEOFTok_any (n : Nat) (hn : n ≤ 1099511627776) (w : World) :
    Calls Tryz.prog 9 #[.int .i64 (n : Nat)] w fun e w' => e = .returned (wantVal (eofTok n)) ∧ Below w.heap.size w w' := by
  by_cases h0 : n = 0
  · subst h0
    go_enter Tryz.func9, Tryz.ntmps9
    go_wp2_with fail
    exact bodyPost_ret (v := wantVal (eofTok 0)) (by simp [results, Tryz.results9, go_sem, wantVal, eofTok, kEOF]) rfl ⟨rfl, (by repeat (first | exact Below.refl _ _ | apply below_drew | apply below_drewN | apply below_alloc | apply below_grow))⟩
  · have h1 : ¬ ((n : Int) - 1 < 0) := by omega
    have h2 : ((n : Int) - 1) = ((n - 1 : Nat) : Int) := by omega
    have h3 : IntKind.i64.wrap ((n : Int) - 1) = ((n - 1 : Nat) : Int) := by rw [IntKind.wrap_i64]; omega
    have h4 : ¬ (((n - 1 : Nat) : Int) < 0) := by omega
    go_enter Tryz.func9, Tryz.ntmps9
    go_wp2_with fail
    exact bodyPost_ret (v := wantVal (eofTok n)) (by simp [results, Tryz.results9, go_sem, wantVal, eofTok, kEOF]) rfl ⟨rfl, (by repeat (first | exact Below.refl _ _ | apply below_drew | apply below_drewN | apply below_alloc | apply below_grow))⟩

theorem foldl_push8 : ∀ (l : List UInt8) (a : ByteArray), (l.map (fun b => ((b.toNat : Nat) : Int))).foldl (fun r n => r.push (UInt8.ofNat n.toNat)) a = ⟨a.data ++ l.toArray⟩
  | [], a => by simp
  | d :: l, a => by
    rw [List.map_cons, List.foldl_cons, foldl_push8 l]
    simp [ByteArray.push]
theorem addr_add (B o j : Nat) : (⟨B, o, none⟩ : Addr).add j = ⟨B, o + j, none⟩ := by
  unfold Addr.add
  split <;> simp_all
/-- The text that a row of bytes is. -/
theorem bytes_of_cells {P : Program} {w : World} {B o n cap : Nat} {l : List UInt8} (h : ∀ j, j < l.length → w.cell? ⟨B, o + j, none⟩ = some (.int .u8 ((l.getD j 0).toNat : Nat))) (hn : l.length = n) :
    (Conv.bytesToString (.slice (some ⟨B, o, none⟩) n cap)).run P w = .ok (.string ⟨l.toArray⟩) w := by
  subst hn
  have h1 := run_loadCells_list (P := P) (w := w) ⟨B, o, none⟩ ((l.map (fun b => ((b.toNat : Nat) : Int))).map (Value.int .u8)) (by
    intro j v hv
    have hj : j < l.length := by
      have := (List.getElem?_eq_some_iff.1 hv).1
      simpa using this
    have := h j hj
    rw [addr_add, this]
    simp only [List.getElem?_map] at hv
    rw [List.getElem?_eq_getElem hj] at hv
    simp at hv
    rw [← hv]
    simp [List.getD, List.getElem?_eq_getElem hj])
  simp only [List.length_map] at h1
  rw [run_bytesToString w ⟨B, o, none⟩ l.length cap (l.map (fun b => ((b.toNat : Nat) : Int))) h1, foldl_push8]
  simp

/-- The buffer's bytes from i on. -/
def Buf24 (w wr : World) (i : Nat) (ds : List UInt8) : Prop :=
  Below w.heap.size w wr ∧ (∃ c T, wr.heap[w.heap.size]? = some (.cells c T (0, 0)) ∧ c.size = 24 ∧ ∀ j, i ≤ j → j < 24 → c[j]? = some (.int .u8 ((ds.getD (j - i) 0).toNat : Nat))) ∧ ds.length + i = 24

set_option maxHeartbeats 4000000 in
set_option maxRecDepth 100000 in
theorem zzItoa_any (n : Nat) (hn : n ≤ 9223372036854775807) (w : World) :
    Calls Tryz.prog 15 #[.int .i64 (n : Nat)] w fun e w' => (∃ v, e = .returned (.string v) ∧ DecText v) ∧ Below w.heap.size w w' := by
  by_cases h0 : n = 0
  · subst h0
    go_enter Tryz.func15, Tryz.ntmps15
    go_wp2_with fail
    go_ret
    exact ⟨⟨_, rfl, ⟨by decide, by decide, .inl rfl, by decide⟩⟩, Below.refl _ _⟩
  · have h1 : (0 : Int) < (n : Int) := by omega
    have h2 : ¬ ((n : Int) ≤ 0) := by omega
    go_enter Tryz.func15, Tryz.ntmps15
    go_wp2_with fail
    go_loopg [0, 4] 25 (fun g xv iv wr => ∃ (m i : Nat) (ds : List UInt8), xv = .int .i64 m ∧ iv = .int .i64 i ∧ g = i + 1 ∧ m < 10 ^ (i - 5) ∧ m ≤ n ∧ 5 ≤ i ∧ i ≤ 24 ∧ Hid (Buf24 w wr i ds) ∧ Hid (∀ b ∈ ds, 48 ≤ b.toNat ∧ b.toNat ≤ 57) ∧ Hid (m = 0 → ds ≠ [] ∧ ds.head? ≠ some 48))
    case atStart => exact ⟨n, 24, [], rfl, rfl, rfl, by show n < 10 ^ 19; omega, Nat.le_refl _, by decide, by decide, Lib.hid ⟨(Below.refl _ _).alloc (Nat.le_refl _) _, ⟨_, _, heap_alloc_at rfl, rfl, fun j h1 h2 => by omega⟩, rfl⟩, Lib.hid (fun b hb => by cases hb), Lib.hid (fun h => absurd h h0)⟩
    case round =>
      obtain ⟨m, i, ds, rfl, rfl, hg, hm, hmn, hi1, hi2, hbuf, hdig, hz⟩ := hrel
      obtain ⟨hlow, ⟨c, T, hc, hcs, hcd⟩, hlen⟩ := hbuf.out
      have fz := free_of_block hc
      have l0 : w.heap.size < wr.heap.size := (Array.getElem?_eq_some_iff.1 hc).1
      have HC := Lib.hid hc
      have HCD := Lib.hid hcd
      have Hlow := Lib.hid hlow
      clear hc hcd hlow hbuf
      by_cases hm0 : m = 0
      · subst hm0
        have m1 : ¬ ((0 : Int) < ((0 : Nat) : Int)) := by omega
        obtain ⟨hne, hhd⟩ := hz.out rfl
        have hi3 : i < 24 := by have := List.length_pos_iff.2 hne; omega
        have i0 : (0 : Int) ≤ (i : Int) := by omega
        have k2 : (i : Int) ≤ Tryz.prog.arrayLen 52 := by
          have : Tryz.prog.arrayLen 52 = 24 := by kernel_rfl
          omega
        have hsl : ∀ wq, Sem.run Tryz.prog (Instr.sliceAt 52 (.pointer (some ⟨w.heap.size, 0, none⟩)) (some (.int .i64 i)) none none) wq = .ok (.slice (some ⟨w.heap.size, i, none⟩) (24 - i) (24 - i)) wq := by
          intro wq
          rw [run_sliceAt_array_l _ _ _ (by kernel_rfl) _ _ i0 k2]
          have e1 : Tryz.prog.arrayLen 52 = 24 := by kernel_rfl
          have e2 : (sizeOf (Tryz.prog.elem 52)).run Tryz.prog wq = .ok 1 wq := by kernel_rfl
          rw [e1, e2]
          simp only [Result.andThen, slicedAt, Int.toNat_natCast]
          rw [if_neg (by omega), addr_add]
          simp
        have hcv : Sem.run Tryz.prog (convert 53 9 (.slice (some ⟨w.heap.size, i, none⟩) (24 - i) (24 - i))) wr = .ok (.string ⟨ds.toArray⟩) wr := by
          rw [run_convert_bytes_string _ _ _ 5 _ _ _ (by kernel_rfl) (by kernel_rfl) (by kernel_rfl)]
          refine bytes_of_cells ?_ (by omega)
          intro j hj
          rw [cell_of_block HC.out (i + j), HCD.out (i + j) (by omega) (by omega)]
          simp
        have hdl : ds.length ≤ 9223372036854775807 := by omega
        clear hdl
        go_wp2_with fail
        go_ret
        exact ⟨⟨_, rfl, ⟨hne, hdig.out, .inr hhd, by show ds.toArray.size ≤ 24; simp; omega⟩⟩, Hlow.out⟩
      · have m1 : (0 : Int) < (m : Int) := by omega
        have hi5 : 6 ≤ i := by
          by_cases h : i = 5
          · subst h; simp at hm; omega
          · omega
        obtain ⟨k, rfl⟩ : ∃ k, i = k + 1 := ⟨i - 1, by omega⟩
        have ki : ((k + 1 : Nat) : Int) - 1 = (k : Int) := by omega
        have kw : IntKind.i64.wrap (((k + 1 : Nat) : Int) - 1) = (k : Int) := by rw [IntKind.wrap_i64]; omega
        have k0 : (0 : Int) ≤ (k : Int) := by omega
        have k1 : (k : Int) < 24 := by omega
        obtain ⟨v0, hv0⟩ : ∃ v, wr.cell? ⟨w.heap.size, k, none⟩ = some v := ⟨_, (cell_of_block HC.out k).trans (Array.getElem?_eq_getElem (by omega))⟩
        have kd0 : (0 : Int) ≤ (m : Int) := by omega
        have hm5 : m < 10 ^ (k - 5) * 10 := by
          have e : k + 1 - 5 = (k - 5) + 1 := by omega
          rw [e, Nat.pow_succ] at hm
          exact hm
        have Hm5 := Lib.hid hm5
        clear hm hm5
        obtain ⟨ch, hch⟩ : ∃ ch : UInt8, ch = UInt8.ofNat (48 + m % 10) := ⟨_, rfl⟩
        have hcn : ch.toNat = 48 + m % 10 := by rw [hch, UInt8.toNat_ofNat']; omega
        have Hcn := Lib.hid hcn
        have Hz := Lib.hid hz
        clear hz hcn hch
        go_wp2_with fail
        have ho := (OnlyL.refl HC.out).setCell k (.int .u8 (48 + (m : Int) % 10))
        have hcells : ∀ j, k ≤ j → j < 24 → (c.setIfInBounds k (.int .u8 (48 + (m : Int) % 10)))[j]? = some (.int .u8 (((ch :: ds).getD (j - k) 0).toNat : Nat)) := by
          intro j h1 h2
          by_cases hjk : j = k
          · subst hjk
            rw [Array.getElem?_setIfInBounds_self_of_lt (by omega)]
            have := Hcn.out
            simp [this]
          · rw [Array.getElem?_setIfInBounds_ne (by omega), HCD.out j (by omega) h2]
            rw [show j - k = (j - (k + 1)) + 1 by omega]
            rfl
        go_roundg (k + 1)
        case measure => omega
        case rel =>
          refine ⟨m / 10, k, ch :: ds, by go_num, rfl, rfl, ?_, by omega, by omega, by omega, Lib.hid ⟨?_, ⟨_, T, ho.own, by simpa using hcs, hcells⟩, by simp; omega⟩, Lib.hid ?_, Lib.hid ?_⟩
          · have := Hm5.out
            exact Nat.div_lt_of_lt_mul (by rw [Nat.mul_comm]; exact this)
          · exact ⟨ho.os.trans Hlow.out.os, ho.tape.trans Hlow.out.tape, ho.output.trans Hlow.out.output, Nat.le_trans Hlow.out.size ho.size, fun j hj => (ho.others j (Nat.lt_of_lt_of_le hj Hlow.out.size) (by omega)).trans (Hlow.out.block j hj)⟩
          · intro b hb
            rcases List.mem_cons.1 hb with rfl | hb
            · have := Hcn.out; omega
            · exact hdig.out b hb
          · intro h
            refine ⟨by simp, fun e => ?_⟩
            simp only [List.head?_cons, Option.some.injEq] at e
            have := Hcn.out
            rw [e] at this
            have h48 : (48 : UInt8).toNat = 48 := rfl
            omega

end Go.Proofs.YtdgpholpdaelhaaGreatFmt

/-
  Walk of zzSame of n003_22, where the two rows are alike.
-/
namespace Go.Proofs.YtdgpholpdaelhaaGreatFmt
open Go Go.Lib Go.RowKit Go.Proofs
open Go.Extern.Stop Go.Stop Go.Extern

/-- A slice that is not nil, and what its cells hold. -/
def RowAt (w : World) (v : Value) (n : Nat) (xs : List Value) : Prop :=
  ∃ g cap, v = .slice (some ⟨g, 0, none⟩) n cap ∧ g < w.heap.size ∧ ∀ j u, xs[j]? = some u → w.cell? ⟨g, j, none⟩ = some u

theorem RowAt.below {w w' : World} {B n : Nat} {v : Value} {xs : List Value} (h : RowAt w v n xs) (hb : Below B w w') (hB : ∀ g c, v = .slice (some ⟨g, 0, none⟩) n c → g < B) : RowAt w' v n xs := by
  obtain ⟨g, c, rfl, hg, hr⟩ := h
  have hgB := hB g c rfl
  refine ⟨g, c, rfl, Nat.lt_of_lt_of_le hg hb.size, fun j u hj => ?_⟩
  have := hr j u hj
  rwa [hb.cell hgB]
theorem RowAt.keep {w w' : World} {n : Nat} {v : Value} {xs : List Value} (h : RowAt w v n xs) (hb : Below w.heap.size w w') : RowAt w' v n xs := by
  obtain ⟨g, c, rfl, hg, hr⟩ := h
  exact ⟨g, c, rfl, Nat.lt_of_lt_of_le hg hb.size, fun j u hj => by rw [hb.cell hg]; exact hr j u hj⟩
theorem RowAt.block {w : World} {g n cap : Nat} {c : Array Value} {T : TypeId} {xs : List Value} (h : w.heap[g]? = some (.cells c T (0, 0))) (hx : c.toList = xs) : RowAt w (.slice (some ⟨g, 0, none⟩) n cap) n xs :=
  ⟨g, cap, rfl, (Array.getElem?_eq_some_iff.1 h).1, fun j u hj => (cell_of_block h j).trans (by rw [← hx] at hj; simpa using hj)⟩
theorem RowAt.owned {w : World} {base size n : Nat} {e : TypeId} {v : Value} {xs : List Value} (h : w.ownsRow base e size v n xs) (hn : 0 < n) : RowAt w v n xs := by
  have h2 := h
  obtain ⟨h0, ⟨rfl, h1⟩ | ⟨g, cap, cur, rfl, hB, hh⟩⟩ := h
  · omega
  · exact ⟨g, cap, rfl, (h2.lt g rfl).2, fun j u hj => by have := h2.cells (g := g) rfl j u hj; rwa [addr_add, Nat.zero_add] at this⟩

theorem flat_at (f : Tok → List Value) (hf : ∀ k, (f k).length = 4) : ∀ (l : List Tok) (i : Nat) (h : i < l.length) (j : Nat), j < 4 → (l.flatMap f)[i * 4 + j]? = (f (l[i]'h))[j]?
  | [], i, h, j, hj => absurd h (Nat.not_lt_zero _)
  | k :: l, 0, h, j, hj => by
    rw [List.flatMap_cons, Nat.zero_mul, Nat.zero_add, List.getElem?_append_left (by rw [hf]; exact hj)]
    rfl
  | k :: l, i + 1, h, j, hj => by
    rw [List.flatMap_cons, List.getElem?_append_right (by rw [hf]; omega), hf, show (i + 1) * 4 + j - 4 = i * 4 + j by omega]
    exact flat_at f hf l i (by simpa using h) j hj

set_option maxHeartbeats 4000000 in
set_option maxRecDepth 100000 in
theorem zzSame_any (l : List Tok) (hl : l.length ≤ 1099511627776) (gv wv : Value) (w : World) (hg : RowAt w gv l.length (l.flatMap tokCells)) (hw : RowAt w wv l.length (l.flatMap wantCells)) :
    Calls Tryz.prog 12 #[gv, wv] w fun e w' => e = .returned (.bool true) ∧ Below w.heap.size w w' := by
  obtain ⟨ga, gc, rfl, hga, hgr⟩ := hg
  obtain ⟨wa, wc, rfl, hwa, hwr⟩ := hw
  obtain ⟨n, hn⟩ : ∃ n, l.length = n := ⟨_, rfl⟩
  rw [hn] at hl
  rw [hn]
  have Hg := Lib.hid hgr
  have Hw := Lib.hid hwr
  have Hn := Lib.hid hn
  clear hgr hwr hn
  go_enter Tryz.func12, Tryz.ntmps12
  go_wp2_with fail
  go_loopg [5] (n + 1) (fun g iv wr => ∃ i : Nat, iv = .int .i64 (i : Nat) ∧ Hid (Below w.heap.size w wr) ∧ i ≤ n ∧ n - i < g)
  case atStart => exact ⟨0, rfl, Lib.hid (Below.refl _ _), Nat.zero_le _, by omega⟩
  case round =>
    obtain ⟨i, rfl, hb, hi', hgk⟩ := hrel
    by_cases hin : i < n
    · have j0 : (0 : Int) ≤ (i : Int) := by omega
      have j1 : (i : Int) < (n : Int) := by omega
      have hil : i < l.length := by have := Hn.out; omega
      obtain ⟨k, hk⟩ : ∃ k, k = l[i]'hil := ⟨_, rfl⟩
      have sg : ∀ j v, j < 4 → (tokCells k)[j]? = some v → wr.cell? ⟨ga, i * 4 + j, none⟩ = some v := fun j v hj h => by
        rw [hb.out.cell hga]
        exact Hg.out _ _ (by rw [flat_at tokCells (fun _ => rfl) l i hil j hj, ← hk]; exact h)
      have sw : ∀ j v, j < 4 → (wantCells k)[j]? = some v → wr.cell? ⟨wa, i * 4 + j, none⟩ = some v := fun j v hj h => by
        rw [hb.out.cell hwa]
        exact Hw.out _ _ (by rw [flat_at wantCells (fun _ => rfl) l i hil j hj, ← hk]; exact h)
      have g0 : wr.cell? ⟨ga, i * 4, none⟩ = some (.int .i64 k.frm) := sg 0 _ (by decide) rfl
      have g1 := sg 1 _ (by decide) rfl
      have g2 := sg 2 _ (by decide) rfl
      have g3 := sg 3 _ (by decide) rfl
      have x0 : wr.cell? ⟨wa, i * 4, none⟩ = some (.string k.kind) := sw 0 _ (by decide) rfl
      have x1 := sw 1 _ (by decide) rfl
      have x2 := sw 2 _ (by decide) rfl
      have x3 := sw 3 _ (by decide) rfl
      have a0 : ga < wr.heap.size := Nat.lt_of_lt_of_le hga hb.out.size
      have a1 : wa < wr.heap.size := Nat.lt_of_lt_of_le hwa hb.out.size
      have a2 : ga < wr.heap.size + 1 := by omega
      have a3 : wa < wr.heap.size + 1 := by omega
      clear sg sw
      go_wp2_with fail
      go_roundg (n - i)
      case measure => omega
      case rel => exact ⟨i + 1, by go_num, Lib.hid (Below.alloc (Below.alloc hb.out hb.out.size _) (by simp; have := hb.out.size; omega) _), by omega, by omega⟩
    · have j1 : ¬ (i : Int) < (n : Int) := by omega
      go_wp2_with fail
      go_ret
      exact ⟨rfl, hb.out⟩

end Go.Proofs.YtdgpholpdaelhaaGreatFmt
