/-
  Walk: Lex: the calls of Next gathered.
-/
import Derived.Test.YtkplkccjeacniaaGreatFmtNext
import Derived.Test.YtkplkccjeacniaaGreatFmtSteps
import Derived.WalkKit
import Derived.Maps.AppendAt
namespace Go.Proofs.YtkplkccjeacniaaGreatFmt
open Go Go.Lib Go.RowKit Go.Proofs
open Go.Extern.Stop Go.Stop Go.Extern

theorem inv_start (s : ByteArray) : Inv s start := fun _ q hq => by
  have e : q = .root := by change some Q.root = some q at hq; cases hq; rfl
  subst e
  exact ⟨.zero, .zero, Nat.le_refl _, (fun h => by cases h), fun _ => ⟨rfl, rfl⟩, (fun h => by cases h), (fun h => by cases h), (fun h => by cases h), (fun h => by rcases h with h | h | h | h <;> cases h)⟩

/-- What Lex comes to, l what its lexer hands out, u where it ends. -/
def LexPost (l : List Tok) (u : St) (w : World) (e : Ending) (w' : World) : Prop :=
  Below w.heap.size w w' ∧
    ((u.err = none ∧ ∃ v, e = .returned (.tuple #[v, .nilIface]) ∧ w'.ownsRow w.heap.size 43 4 v l.length (l.flatMap tokCells)) ∨
     (u.err ≠ none ∧ ∃ E, e = .returned (.tuple #[.slice none 0 0, .iface 56 (.pointer (some ⟨E, 0, none⟩))])))

theorem infoTok : (Tryz.prog.info? 43).map (fun i => (i.zero, i.size, i.bytes)) = some (some (.agg #[.int .i64 0, .int .i64 0, .string ⟨#[]⟩, .string ⟨#[]⟩]), 4, 48) := by kernel_rfl
set_option maxRecDepth 100000 in
theorem make0 (u : World) : (Instr.makeSlice 29 (.int .i64 0) (.int .i64 10)).run Tryz.prog u = .ok (.slice (some ⟨u.heap.size, 0, none⟩) 0 10) (u.alloc (.cells row40 43)) := by kernel_rfl
theorem tokCells_len (l : List Tok) : (l.flatMap tokCells).length = l.length * 4 := by
  induction l with
  | nil => rfl
  | cons k l ih => rw [List.flatMap_cons, List.length_append, ih]; show 4 + l.length * 4 = (l.length + 1) * 4; omega
theorem tokCells_one (k : Tok) : ∀ u ∈ tokCells k, u.oneCell' = true := by
  intro u hu
  simp only [tokCells, List.mem_cons, List.not_mem_nil, or_false] at hu
  rcases hu with rfl | rfl | rfl | rfl <;> rfl

theorem flatMap_snoc (l : List Tok) (k : Tok) : (l ++ [k]).flatMap tokCells = l.flatMap tokCells ++ tokCells k := by simp
theorem grown_two {w w' : World} {o p : Obj} {row : Option Nat} (h : ((w.alloc o).alloc p).grownBy w' row) : Fr (fun g => row = some g) w w' :=
  ⟨h.os, h.tape, h.output, Nat.le_trans (by simp; omega) h.size, fun k hk hr => by
    rw [h.block k (by simp; omega) (fun e => hr e.symm)]
    show ((w.heap.push o).push p)[k]? = _
    rw [Array.getElem?_push, if_neg (by simp; omega), Array.getElem?_push, if_neg (by omega)]⟩

set_option maxHeartbeats 8000000 in
set_option maxRecDepth 100000 in
theorem lex_any {F : Stop.Interp} {W0 w : World} (hF : F.answers W0.tape) (hT : Tabs W0) (hlow : Below W0.heap.size W0 w) (s : ByteArray) (hs : s.size ≤ 1099511627776) {l : List Tok} {u : St} (hd : drain s (l.length + 1) start = (l, u)) (hl : l.length ≤ 1099511627776) :
    Calls Tryz.prog 13 #[.agg #[.string s]] w (LexPost l u w) := by
  obtain ⟨i0, hi, hz0, hz1, hz2⟩ := info_parts infoTok
  have hu : Tryz.prog.underlying 29 = some (.slice 43) := by kernel_rfl
  have Hi := Lib.hid hi
  have Hz0 := Lib.hid hz0
  have Hz1 := Lib.hid hz1
  have Hz2 := Lib.hid hz2
  have Hu := Lib.hid hu
  clear hi hz0 hz1 hz2 hu
  have hmk := make0
  have hb0 : w.heap.size ≤ (w.alloc (.cells #[.string s] 27)).heap.size := by simp
  have hown0 := World.ownsRow_made (w := w.alloc (.cells #[.string s] 27)) (base := w.heap.size) (e := 43) (size := 4) row40 10 hb0 (by decide) row40_size
  have g0 : (w.alloc (.cells #[.string s] 27)).heap.size = w.heap.size + 1 := by simp
  rw [g0] at hown0
  have q1 : ∀ wr, Sem.run Tryz.prog (binOp BinOp.eql 33 Value.nilIface Value.nilIface) wr = .ok (.bool true) wr := fun _ => by kernel_rfl
  have q2 : ∀ wr, Sem.run Tryz.prog (binOp BinOp.eql 33 (.iface 63 (.string ⟨#[69, 79, 70]⟩)) Value.nilIface) wr = .ok (.bool false) wr := fun _ => by kernel_rfl
  have q3 : ∀ E wr, Sem.run Tryz.prog (binOp BinOp.eql 33 (.iface 56 (.pointer (some ⟨E, 0, none⟩))) Value.nilIface) wr = .ok (.bool false) wr := fun _ _ => by kernel_rfl
  have q4 : ∀ wr, Sem.run Tryz.prog (binOp BinOp.eql 33 (.iface 63 (.string ⟨#[69, 79, 70]⟩)) (.iface 63 (.string ⟨#[69, 79, 70]⟩))) wr = .ok (.bool true) wr := fun _ => by kernel_rfl
  have q5 : ∀ E wr, Sem.run Tryz.prog (binOp BinOp.eql 33 (.iface 56 (.pointer (some ⟨E, 0, none⟩))) (.iface 63 (.string ⟨#[69, 79, 70]⟩))) wr = .ok (.bool false) wr := fun _ _ => by kernel_rfl
  have Hown0 := Lib.hid hown0
  clear hown0 hb0 g0
  go_enter Tryz.func13, Tryz.ntmps13
  go_wp2_with fail
  refine (new_any hT (by repeat (first | exact hlow | apply below_drew | apply below_drewN | apply below_alloc | apply below_grow))).mono ?_
  rintro e w1 ⟨L, rfl, S, hS, H, hb1⟩
  have h2 := heap_two (w := w) (o := Obj.cells #[.string s] 27) (p := Obj.cells row40 43)
  have hbx : w1.cell? ⟨w.heap.size, 0, none⟩ = some (.string s) := cell_of_block ((hb1.block w.heap.size (by rw [h2.2.2]; omega)).trans h2.1) 0
  have hwb : Below w.heap.size w w1 := Below.trans (by repeat (first | exact Below.refl _ _ | apply below_drew | apply below_drewN | apply below_alloc | apply below_grow)) (hb1.mono (by rw [h2.2.2]; omega))
  have hown1 : w1.ownsRow w.heap.size 43 4 (.slice (some ⟨w.heap.size + 1, 0, none⟩) 0 10) 0 [] := own_keep Hown0.out (fun k hk => by
    simp only [Value.ownBlock, Option.some.injEq] at hk
    subst hk
    exact hb1.block _ (by rw [h2.2.2]; omega))
  have hgS : ∀ g, (Value.slice (some ⟨w.heap.size + 1, 0, none⟩) 0 10).ownBlock = some g → ¬ S g := fun g hg hk => by
    simp only [Value.ownBlock, Option.some.injEq] at hg
    have := hS g hk
    rw [h2.2.2] at this
    omega
  have hSw : ∀ k, S k → w.heap.size ≤ k := fun k hk => by have := hS k hk; rw [h2.2.2] at this; omega
  have Hown1 := Lib.hid hown1
  have HgS := Lib.hid hgS
  have HSw := Lib.hid hSw
  clear hown1 hgS hSw h2 hmk hb1 hS
  go_wp2_with fail
  refine (reset_any H hs).mono ?_
  rintro e w2 ⟨rfl, S2, hS2, H2, hf2⟩
  have hB2 : Below w.heap.size w w2 := hwb.trans (hf2.below HSw.out hwb.size)
  have hS2w : ∀ k, S2 k → w.heap.size ≤ k := fun k hk => (hS2 k hk).elim (HSw.out k) (fun h => Nat.le_trans hwb.size h)
  have hown2 := own_keep Hown1.out (w' := w2) (fun k hk => hf2.block k (Hown1.out.lt k hk).2 (HgS.out k hk))
  have hgS2 : ∀ g, (Value.slice (some ⟨w.heap.size + 1, 0, none⟩) 0 10).ownBlock = some g → ¬ S2 g := fun g hg hk => (hS2 g hk).elim (HgS.out g hg) (fun h => by have := (Hown1.out.lt g hg).2; omega)
  have Hown2 := Lib.hid hown2
  have HgS2 := Lib.hid hgS2
  have HS2w := Lib.hid hS2w
  have HB2 := Lib.hid hB2
  have Hd := Lib.hid hd
  clear hown2 hgS2 hS2w Hown1 HgS HSw Hown0 hS2 hf2 hwb hB2 hd hbx
  have hst : ({ fresh with q := some .root, toks := [] } : St) = start := rfl
  rw [hst] at H2
  clear hst
  go_wp2_with fail
  go_loopg [4] (l.length + 1) (fun g tv wr => ∃ (S1 : Nat → Prop) (t1 : St) (l1 l2 : List Tok), Hid (wr.ownsRow w.heap.size 43 4 tv l1.length (l1.flatMap tokCells)) ∧ Hid (∀ g, tv.ownBlock = some g → ¬ S1 g) ∧ Lx W0 S1 wr L s t1 ∧ Hid (Below w.heap.size w wr) ∧ Hid (∀ k, S1 k → w.heap.size ≤ k) ∧ Hid (Inv s t1) ∧ Hid (l1 ++ l2 = l) ∧ Hid (drain s (l2.length + 1) t1 = (l2, u)) ∧ l2.length < g)
  case atStart => exact ⟨S2, start, [], l, Hown2, HgS2, H2, HB2, HS2w, Lib.hid (inv_start s), Lib.hid rfl, Hd, by omega⟩
  case round =>
    obtain ⟨S1, t1, l1, l2, hown, hgS, H1, hB, hSw, hinv, hll, hdr, hg⟩ := hrel
    have hnx := next_all hF H1 (.inl hinv.out)
    have Hnx := Lib.hid hnx
    clear hnx
    go_wp2_with fail
    refine Hnx.out.mono ?_
    rintro e w3 ⟨hD, hres⟩
    have hinv2 := inv_nextS hinv.out
    cases l2 with
    | nil =>
      have hn := drain_nil hdr.out
      rw [hn] at hD hres hinv2
      have hll2 : l1 = l := by have := hll.out; rw [List.append_nil] at this; exact this
      obtain ⟨S3, hS3, H3, hf3⟩ := hD
      have hB3 : Below w.heap.size w w3 := hB.out.trans (hf3.below hSw.out hB.out.size)
      have hown3 := own_keep hown.out (w' := w3) (fun k hk => hf3.block k (hown.out.lt k hk).2 (hgS.out k hk))
      rw [hll2] at hown3
      have Hown3 := Lib.hid hown3
      have HB3 := Lib.hid hB3
      rcases hres with ⟨k, hk, _⟩ | ⟨_, hne, E, rfl⟩ | ⟨_, heq, rfl⟩
      · cases hk
      · have hq3 := q3 E
        have hq5 := q5 E
        have Hne := Lib.hid hne
        clear hne hn hown3 hB3 hll2 hdr hown
        unfold zeroTok
        go_wp2_with fail
        go_ret2
        exact ⟨Below.alloc HB3.out HB3.out.size _, .inr ⟨Hne.out, E, rfl⟩⟩
      · have Heq := Lib.hid heq
        clear heq hn hown3 hB3 hll2 hdr hown
        unfold zeroTok
        go_wp2_with fail
        go_ret2
        exact ⟨Below.alloc HB3.out HB3.out.size _, .inl ⟨Heq.out, _, rfl, Hown3.out.alloc _⟩⟩
    | cons k l3 =>
      obtain ⟨t2, hn, hdr2⟩ := drain_cons hdr.out
      rw [hn] at hD hres hinv2
      obtain ⟨S3, hS3, H3, hf3⟩ := hD
      have hB3 : Below w.heap.size w w3 := hB.out.trans (hf3.below hSw.out hB.out.size)
      have hown3 := own_keep hown.out (w' := w3) (fun k hk => hf3.block k (hown.out.lt k hk).2 (hgS.out k hk))
      have hgS3 : ∀ g, u4.ownBlock = some g → ¬ S3 g := fun g hg hk => (hS3 g hk).elim (hgS.out g hg) (fun h => by have := (hown.out.lt g hg).2; omega)
      have hSw3 : ∀ k, S3 k → w.heap.size ≤ k := fun k hk => (hS3 k hk).elim (hSw.out k) (fun h => Nat.le_trans hB.out.size h)
      have hll2 : (l1 ++ [k]) ++ l3 = l := by rw [← hll.out]; simp
      have hlen : l1.length + 1 ≤ 1099511627776 := by have := congrArg List.length hll2; simp only [List.length_append, List.length_singleton] at this; omega
      have hlg : l3.length + 1 < gk := by simp only [List.length_cons] at hg; omega
      rcases hres with ⟨k', hk, rfl⟩ | ⟨hk, _⟩ | ⟨hk, _⟩
      · cases hk
        have Hown3 := Lib.hid hown3
        have HgS3 := Lib.hid hgS3
        have HSw3 := Lib.hid hSw3
        have HB3 := Lib.hid hB3
        have Hdr2 := Lib.hid hdr2
        have Hll2 := Lib.hid hll2
        have Hinv2 := Lib.hid hinv2
        have Hlen := Lib.hid hlen
        have Hlg := Lib.hid hlg
        have Hf3 := Lib.hid hf3
        clear hown3 hgS3 hSw3 hB3 hdr2 hll2 hinv2 hlen hlg hg hf3 hn hdr hown hgS hSw hinv hll hS3 Hnx
        unfold tokVal
        go_wp2_with (first | (at_builtin; go_loud (refine wpList_append_own_at _ rfl _ _ 29 rfl w.heap.size 43 i0 _ 4 48 Hu.out Hi.out Hz0.out Hz1.out Hz2.out rfl (by decide) _ _ _ rfl ((Hown3.out.alloc _).alloc _) ⟨w3.heap.size + 1, 0, none⟩ 1 1 (tokCells k) rfl rfl ?c1 ?c2 ?c3 ?c4 ?c5 ?_)))
        case c1 =>
          intro j u hj
          match j, hj with
          | 0, hj => simp [tokCells] at hj; subst hj; simp [Addr.add]
          | 1, hj => simp [tokCells] at hj; subst hj; simp [Addr.add]
          | 2, hj => simp [tokCells] at hj; subst hj; simp [Addr.add]
          | 3, hj => simp [tokCells] at hj; subst hj; simp [Addr.add]
          | j + 4, hj => simp [tokCells] at hj
        case c2 => exact tokCells_one k
        case c3 => have := Hlen.out; unfold maxLen; omega
        case c4 => have := Hlen.out; omega
        case c5 => have := HB3.out.size; simp; omega
        intro v' w4 hown4 hgrow _ hblk
        have hb4 : Fr (fun g => u4.ownBlock = some g) w3 w4 := grown_two hgrow
        have hu4 : ∀ g, u4.ownBlock = some g → w.heap.size ≤ g ∧ g < w3.heap.size := fun g hg => Hown3.out.lt g hg
        have H4 := H3.keepFr hb4 (fun g hg hu => HgS3.out g hu hg) (fun g hg => by have := hu4 g hg; have := hlow.size; omega)
        have hB4 : Below w.heap.size w w4 := HB3.out.trans (hb4.below (fun g hg => (hu4 g hg).1) HB3.out.size)
        have hgS4 : ∀ g, v'.ownBlock = some g → ¬ S3 g := fun g hg hs => by
          rcases hblk with h | h
          · exact HgS3.out g (h.symm.trans hg) hs
          · rw [hg] at h
            have := H3.lt g hs
            simp at h
            omega
        rw [← flatMap_snoc] at hown4
        have hown5 : w4.ownsRow w.heap.size 43 4 v' (l1 ++ [k]).length ((l1 ++ [k]).flatMap tokCells) := by rw [List.length_append]; exact hown4
        have Hown5 := Lib.hid hown5
        have HgS4 := Lib.hid hgS4
        have HB4 := Lib.hid hB4
        clear hown5 hown4 hgS4 hB4 hb4 hu4 hgrow hblk
        go_wp2_with fail
        go_roundg (l3.length + 1)
        case measure => exact Hlg.out
        case rel => exact ⟨S3, t2, l1 ++ [k], l3, Hown5, HgS4, H4, HB4, HSw3, Hinv2, Hll2, Hdr2, Nat.lt_succ_self _⟩
      · cases hk
      · cases hk

end Go.Proofs.YtkplkccjeacniaaGreatFmt
