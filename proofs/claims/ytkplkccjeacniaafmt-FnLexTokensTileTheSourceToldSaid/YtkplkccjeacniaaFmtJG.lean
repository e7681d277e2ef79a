/-
  Plain texts, joined: Z74d Z74e.
-/
import Derived.Test.YtkplkccjeacniaaFmtLex
import Derived.Test.YtkplkccjeacniaaFmtP74b
import Derived.StillTailTactics
/-
  Walk of zzDrain of n003_74: Next, up to a bound, to the first error.
-/
namespace Go.Proofs.YtkplkccjeacniaaFmt
open Go Go.Lib Go.RowKit Go.Proofs
open Go.Extern.Stop Go.Stop Go.Extern

/-- What zzDrain comes to: the tokens in a row of its own, the lexer behind them. -/
def DrainPost (W0 : World) (S : Nat → Prop) (w : World) (L : Nat) (s : ByteArray) (l : List Tok) (u : St) (e : Ending) (w' : World) : Prop :=
  ∃ v S', e = .returned (.tuple #[v, .bool true]) ∧ w'.ownsRow w.heap.size 37 4 v l.length (l.flatMap tokCells) ∧ (∀ g, v.ownBlock = some g → ¬ S' g) ∧ (∀ k, S' k → S k ∨ w.heap.size ≤ k) ∧ Lx W0 S' w' L s u ∧ Fr S w w'

set_option maxHeartbeats 8000000 in
set_option maxRecDepth 100000 in
theorem zzDrain_any {F : Stop.Interp} {W0 w : World} {S : Nat → Prop} {L : Nat} {s : ByteArray} {t u : St} {l : List Tok} (hF : F.answers W0.tape) (H : Lx W0 S w L s t) (hi : Inv s t) (n : Nat) (hn : n ≤ 1099511627776) (hln : l.length < n) (hd : drain s (l.length + 1) t = (l, u)) :
    Calls Tryf.prog 12 #[.pointer (some ⟨L, 0, none⟩), .int .i64 (n : Nat)] w (DrainPost W0 S w L s l u) := by
  obtain ⟨i0, hi0, hz0, hz1, hz2⟩ := info_parts infoTok
  have hu : Tryf.prog.underlying 23 = some (.slice 37) := by kernel_rfl
  have Hi := Lib.hid hi0
  have Hz0 := Lib.hid hz0
  have Hz1 := Lib.hid hz1
  have Hz2 := Lib.hid hz2
  have Hu := Lib.hid hu
  clear hi0 hz0 hz1 hz2 hu
  have q1 : ∀ wr, Sem.run Tryf.prog (binOp BinOp.neq 25 Value.nilIface Value.nilIface) wr = .ok (.bool false) wr := fun _ => by kernel_rfl
  have q2 : ∀ wr, Sem.run Tryf.prog (binOp BinOp.neq 25 (.iface 47 (.string ⟨#[69, 79, 70]⟩)) Value.nilIface) wr = .ok (.bool true) wr := fun _ => by kernel_rfl
  have q3 : ∀ E wr, Sem.run Tryf.prog (binOp BinOp.neq 25 (.iface 53 (.pointer (some ⟨E, 0, none⟩))) Value.nilIface) wr = .ok (.bool true) wr := fun _ _ => by kernel_rfl
  have Hd := Lib.hid hd
  have Hinv := Lib.hid hi
  clear hd hi
  go_enter Tryf.func12, Tryf.ntmps12
  go_wp2_with fail
  go_loopg [6, 7] (l.length + 1) (fun g tv iv wr => ∃ (S1 : Nat → Prop) (t1 : St) (l1 l2 : List Tok) (m : Nat), iv = .int .i64 (m : Nat) ∧ Hid (l1.length = m) ∧ Hid (wr.ownsRow w.heap.size 37 4 tv l1.length (l1.flatMap tokCells)) ∧ Hid (∀ g, tv.ownBlock = some g → ¬ S1 g) ∧ Lx W0 S1 wr L s t1 ∧ Hid (Fr S w wr) ∧ Hid (∀ k, S1 k → S k ∨ w.heap.size ≤ k) ∧ Hid (Inv s t1) ∧ Hid (l1 ++ l2 = l) ∧ Hid (drain s (l2.length + 1) t1 = (l2, u)) ∧ l2.length < g)
  case atStart => exact ⟨S, t, [], l, 0, rfl, Lib.hid rfl, Lib.hid (World.ownsRow_nil _ _ _ _), Lib.hid (fun g h => by simp [Value.ownBlock] at h), H, Lib.hid (Fr.refl _ _), Lib.hid (fun k h => .inl h), Hinv, Lib.hid rfl, Hd, by omega⟩
  case round =>
    obtain ⟨S1, t1, l1, l2, m, rfl, Hm, hown, hgS, H1, hB, hSw, hinv, hll, hdr, hg⟩ := hrel
    have hlen1 : m + l2.length = l.length := by have := congrArg List.length hll.out; rw [List.length_append, Hm.out] at this; exact this
    have hlt : (m : Int) < (n : Int) := by omega
    have hnx := next_all hF H1 (.inl hinv.out)
    have Hnx := Lib.hid hnx
    clear hnx
    go_wp2_with fail
    refine Hnx.out.mono ?_
    rintro e w3 ⟨hD, hres⟩
    have hinv2 := inv_nextS hinv.out
    cases l2 with
    | nil =>
      have hn0 := drain_nil hdr.out
      rw [hn0] at hD hres hinv2
      have hll2 : l1 = l := by have := hll.out; rw [List.append_nil] at this; exact this
      obtain ⟨S3, hS3, H3, hf3⟩ := hD
      have hown3 := own_keep hown.out (w' := w3) (fun k hk => hf3.block k (hown.out.lt k hk).2 (hgS.out k hk))
      have hgS3 : ∀ g, u6.ownBlock = some g → ¬ S3 g := fun g hg hk => (hS3 g hk).elim (hgS.out g hg) (fun h => by have := (hown.out.lt g hg).2; omega)
      have hSw3 : ∀ k, S3 k → S k ∨ w.heap.size ≤ k := fun k hk => (hS3 k hk).elim (hSw.out k) (fun h => .inr (Nat.le_trans hB.out.size h))
      have hF3 : Fr S w w3 := hB.out.trans hf3 hSw.out
      rw [hll2] at hown3
      have hfin : ∀ w4, Below w3.heap.size w3 w4 → DrainPost W0 S w L s l u (.returned (.tuple #[u6, .bool true])) w4 := fun w4 hb4 =>
        ⟨u6, S3, rfl, own_keep hown3 (fun k hk => hb4.block k (hown3.lt k hk).2), hgS3, hSw3, H3.keep hb4, hF3.trans (Fr.of_below (S := S) hb4) (fun i h => .inl h)⟩
      have Hfin := Lib.hid hfin
      clear hfin hF3 hSw3 hgS3 hown3 hll2 hdr hown hgS hSw hll hn0 hS3 hf3
      rcases hres with ⟨k, hk, _⟩ | ⟨_, hne, E, rfl⟩ | ⟨_, heq, rfl⟩
      · cases hk
      · have hq3 := q3 E
        clear hne
        unfold zeroTok
        go_wp2_with fail
        go_ret2
        exact Hfin.out _ (Below.alloc (Below.refl _ _) (Nat.le_refl _) _)
      · clear heq
        unfold zeroTok
        go_wp2_with fail
        go_ret2
        exact Hfin.out _ (Below.alloc (Below.refl _ _) (Nat.le_refl _) _)
    | cons k l3 =>
      obtain ⟨t2, hn0, hdr2⟩ := drain_cons hdr.out
      rw [hn0] at hD hres hinv2
      obtain ⟨S3, hS3, H3, hf3⟩ := hD
      have hown3 := own_keep hown.out (w' := w3) (fun k hk => hf3.block k (hown.out.lt k hk).2 (hgS.out k hk))
      have hgS3 : ∀ g, u6.ownBlock = some g → ¬ S3 g := fun g hg hk => (hS3 g hk).elim (hgS.out g hg) (fun h => by have := (hown.out.lt g hg).2; omega)
      have hSw3 : ∀ k, S3 k → S k ∨ w.heap.size ≤ k := fun k hk => (hS3 k hk).elim (hSw.out k) (fun h => .inr (Nat.le_trans hB.out.size h))
      have hF3 : Fr S w w3 := hB.out.trans hf3 hSw.out
      have hll2 : (l1 ++ [k]) ++ l3 = l := by rw [← hll.out]; simp
      have hlg : l3.length + 1 < gk := by simpa using hg
      have hlen2 : m + 1 + l3.length = l.length := by simp only [List.length_cons] at hlen1; omega
      have hsz3 := hF3.size
      rcases hres with ⟨k', hk, rfl⟩ | ⟨hk, _⟩ | ⟨hk, _⟩
      · cases hk
        rw [Hm.out] at hown3
        have Hown3 := Lib.hid hown3
        have HgS3 := Lib.hid hgS3
        have HSw3 := Lib.hid hSw3
        have HF3 := Lib.hid hF3
        have Hdr2 := Lib.hid hdr2
        have Hll2 := Lib.hid hll2
        have Hinv2 := Lib.hid hinv2
        have Hlg := Lib.hid hlg
        clear hown3 hgS3 hSw3 hF3 hdr2 hll2 hinv2 hlg hg hf3 hn0 hdr hown hgS hSw hinv hll hS3 Hnx
        unfold tokVal
        go_wp2_with (first | (at_builtin; refine wpList_append_own_at _ rfl _ _ 23 rfl w.heap.size 37 i0 _ 4 48 Hu.out Hi.out Hz0.out Hz1.out Hz2.out rfl (by decide) _ _ _ rfl ((Hown3.out.alloc _).alloc _) ⟨w3.heap.size + 1, 0, none⟩ 1 1 (tokCells k) rfl rfl ?c1 ?c2 ?c3 ?c4 ?c5 ?_))
        case c1 =>
          intro j u hj
          match j, hj with
          | 0, hj => simp [tokCells] at hj; subst hj; simp [Addr.add]
          | 1, hj => simp [tokCells] at hj; subst hj; simp [Addr.add]
          | 2, hj => simp [tokCells] at hj; subst hj; simp [Addr.add]
          | 3, hj => simp [tokCells] at hj; subst hj; simp [Addr.add]
          | j + 4, hj => simp [tokCells] at hj
        case c2 => exact tokCells_one k
        case c3 => unfold maxLen; omega
        case c4 => omega
        case c5 => simp; omega
        intro v' w4 hown4 hgrow _ hblk
        have hb4 : Fr (fun g => u6.ownBlock = some g) w3 w4 := grown_two hgrow
        have hu4 : ∀ g, u6.ownBlock = some g → w.heap.size ≤ g ∧ g < w3.heap.size := fun g hg => Hown3.out.lt g hg
        have H4 := H3.keepFr hb4 (fun g hg hu => HgS3.out g hu hg) (fun g hg => by have := hu4 g hg; have := H.low.size; omega)
        have hF4 : Fr S w w4 := HF3.out.trans hb4 (fun g hg => .inr (hu4 g hg).1)
        have hgS4 : ∀ g, v'.ownBlock = some g → ¬ S3 g := fun g hg hs => by
          rcases hblk with h | h
          · exact HgS3.out g (h.symm.trans hg) hs
          · rw [hg] at h
            have := H3.lt g hs
            simp at h
            omega
        rw [← flatMap_snoc] at hown4
        have hm2 : (l1 ++ [k]).length = m + 1 := by rw [List.length_append, Hm.out]; rfl
        rw [← hm2] at hown4
        have Hown5 := Lib.hid hown4
        have HgS4 := Lib.hid hgS4
        have HF4 := Lib.hid hF4
        have Hm2 := Lib.hid hm2
        clear hown4 hgS4 hF4 hb4 hu4 hgrow hblk hm2
        go_wp2_with fail
        go_roundg (l3.length + 1)
        case measure => exact Hlg.out
        case rel => exact ⟨S3, t2, l1 ++ [k], l3, m + 1, by go_num, Hm2, Hown5, HgS4, H4, HF4, HSw3, Hinv2, Hll2, Hdr2, Nat.lt_succ_self _⟩
      · cases hk
      · cases hk

end Go.Proofs.YtkplkccjeacniaaFmt

/-
  Walks of what the laws of n003_74 call: two rows of tokens compared.
-/
namespace Go.Proofs.YtkplkccjeacniaaFmt
open Go Go.Lib Go.RowKit Go.Proofs
open Go.Extern.Stop Go.Stop Go.Extern

/-- A slice that is not nil, and what its cells hold. -/
def RowAt (w : World) (v : Value) (n : Nat) (xs : List Value) : Prop :=
  ∃ g cap, v = .slice (some ⟨g, 0, none⟩) n cap ∧ g < w.heap.size ∧ ∀ j u, xs[j]? = some u → w.cell? ⟨g, j, none⟩ = some u
theorem addr_add (B o j : Nat) : (⟨B, o, none⟩ : Addr).add j = ⟨B, o + j, none⟩ := by
  unfold Addr.add
  split <;> simp_all
theorem RowAt.keep {w w' : World} {n : Nat} {v : Value} {xs : List Value} (h : RowAt w v n xs) (hb : Below w.heap.size w w') : RowAt w' v n xs := by
  obtain ⟨g, c, rfl, hg, hr⟩ := h
  exact ⟨g, c, rfl, Nat.lt_of_lt_of_le hg hb.size, fun j u hj => by rw [hb.cell hg]; exact hr j u hj⟩
theorem RowAt.owned {w : World} {base size n : Nat} {e : TypeId} {v : Value} {xs : List Value} (h : w.ownsRow base e size v n xs) (hn : 0 < n) : RowAt w v n xs := by
  have h2 := h
  obtain ⟨h0, ⟨rfl, h1⟩ | ⟨g, cap, cur, rfl, hB, hh⟩⟩ := h
  · omega
  · exact ⟨g, cap, rfl, (h2.lt g rfl).2, fun j u hj => by have := h2.cells (g := g) rfl j u hj; rwa [addr_add, Nat.zero_add] at this⟩
theorem flat_at (f : Tok → List Value) (hf : ∀ k, (f k).length = 4) : ∀ (l : List Tok) (i : Nat) (h : i < l.length) (j : Nat), j < 4 → (l.flatMap f)[i * 4 + j]? = (f (l[i]'h))[j]?
  | [], i, h, j, hj => absurd h (Nat.not_lt_zero _)
  | k :: l, 0, h, j, hj => by
    rw [List.flatMap_cons, Nat.zero_mul, Nat.zero_add, List.getElem?_append_left (by rw [hf]; exact hj)]
    rfl
  | k :: l, i + 1, h, j, hj => by
    rw [List.flatMap_cons, List.getElem?_append_right (by rw [hf]; omega), hf, show (i + 1) * 4 + j - 4 = i * 4 + j by omega]
    exact flat_at f hf l i (by simpa using h) j hj
theorem str_self (v : ByteArray) : (v.toList == v.toList) = true := by simp

set_option maxHeartbeats 2000000 in
set_option maxRecDepth 100000 in
theorem zzEq_any (k : Tok) (w : World) : Calls Tryf.prog 22 #[tokVal k, tokVal k] w fun e w' => e = .returned (.bool true) ∧ Below w.heap.size w w' := by
  unfold tokVal
  obtain ⟨a, b, c, d⟩ := k
  go_enter Tryf.func22, Tryf.ntmps22
  go_wp2_with fail
  go_ret
  exact ⟨rfl, (by repeat (first | exact Below.refl _ _ | apply below_drew | apply below_drewN | apply below_alloc | apply below_grow))⟩

set_option maxHeartbeats 4000000 in
set_option maxRecDepth 100000 in
theorem zzEqList_some (l : List Tok) (hl : l.length ≤ 1099511627776) (gv wv : Value) (w : World) (hg : RowAt w gv l.length (l.flatMap tokCells)) (hw : RowAt w wv l.length (l.flatMap tokCells)) :
    Calls Tryf.prog 14 #[gv, wv] w fun e w' => e = .returned (.bool true) ∧ Below w.heap.size w w' := by
  obtain ⟨ga, gc, rfl, hga, hgr⟩ := hg
  obtain ⟨wa, wc, rfl, hwa, hwr⟩ := hw
  obtain ⟨n, hn⟩ : ∃ n, l.length = n := ⟨_, rfl⟩
  rw [hn] at hl
  rw [hn]
  have Hg := Lib.hid hgr
  have Hw := Lib.hid hwr
  have Hn := Lib.hid hn
  clear hgr hwr hn
  go_enter Tryf.func14, Tryf.ntmps14
  go_wp2_with fail
  go_loopg [5] (n + 1) (fun g iv wr => ∃ i : Nat, iv = .int .i64 (i : Nat) ∧ Hid (Below w.heap.size w wr) ∧ i ≤ n ∧ n - i < g)
  case atStart => exact ⟨0, rfl, Lib.hid (Below.refl _ _), Nat.zero_le _, by omega⟩
  case round =>
    obtain ⟨i, rfl, hb, hi', hgk⟩ := hrel
    by_cases hin : i < n
    · have j0 : (0 : Int) ≤ (i : Int) := by omega
      have j1 : (i : Int) < (n : Int) := by omega
      have hil : i < l.length := by have := Hn.out; omega
      obtain ⟨k, hk⟩ : ∃ k, k = l[i]'hil := ⟨_, rfl⟩
      have sg : ∀ j v, j < 4 → (tokCells k)[j]? = some v → wr.cell? ⟨ga, i * 4 + j, none⟩ = some v := fun j v hj h => by
        rw [hb.out.cell hga]
        exact Hg.out _ _ (by rw [flat_at tokCells (fun _ => rfl) l i hil j hj, ← hk]; exact h)
      have sw : ∀ j v, j < 4 → (tokCells k)[j]? = some v → wr.cell? ⟨wa, i * 4 + j, none⟩ = some v := fun j v hj h => by
        rw [hb.out.cell hwa]
        exact Hw.out _ _ (by rw [flat_at tokCells (fun _ => rfl) l i hil j hj, ← hk]; exact h)
      have g0 : wr.cell? ⟨ga, i * 4, none⟩ = some (.int .i64 k.frm) := sg 0 _ (by decide) rfl
      have g1 := sg 1 _ (by decide) rfl
      have g2 := sg 2 _ (by decide) rfl
      have g3 := sg 3 _ (by decide) rfl
      have x0 : wr.cell? ⟨wa, i * 4, none⟩ = some (.int .i64 k.frm) := sw 0 _ (by decide) rfl
      have x1 := sw 1 _ (by decide) rfl
      have x2 := sw 2 _ (by decide) rfl
      have x3 := sw 3 _ (by decide) rfl
      have a0 : ga < wr.heap.size := Nat.lt_of_lt_of_le hga hb.out.size
      have a1 : wa < wr.heap.size := Nat.lt_of_lt_of_le hwa hb.out.size
      have Hk := Lib.hid hk
      clear sg sw hk
      go_wp2_with fail
      go_still_tail 8, (by kernel_rfl)
      have hb1 : Below w.heap.size w wr.drew := below_drew hb.out
      change wpList _ _ _ _ _ wr.drew
      obtain ⟨wd, hwd⟩ : ∃ x, x = wr.drew := ⟨_, rfl⟩
      have a2 : ga < wd.heap.size := by rw [hwd]; exact a0
      have a3 : wa < wd.heap.size := by rw [hwd]; exact a1
      rw [← hwd] at hb1
      have y0 : wd.cell? ⟨ga, i * 4, none⟩ = some (.int .i64 k.frm) := by rw [hwd]; exact g0
      have y1 : wd.cell? ⟨ga, i * 4 + 1, none⟩ = some (.int .i64 k.to) := by rw [hwd]; exact g1
      have y2 : wd.cell? ⟨ga, i * 4 + 2, none⟩ = some (.string k.kind) := by rw [hwd]; exact g2
      have y3 : wd.cell? ⟨ga, i * 4 + 3, none⟩ = some (.string k.value) := by rw [hwd]; exact g3
      have z0 : wd.cell? ⟨wa, i * 4, none⟩ = some (.int .i64 k.frm) := by rw [hwd]; exact x0
      have z1 : wd.cell? ⟨wa, i * 4 + 1, none⟩ = some (.int .i64 k.to) := by rw [hwd]; exact x1
      have z2 : wd.cell? ⟨wa, i * 4 + 2, none⟩ = some (.string k.kind) := by rw [hwd]; exact x2
      have z3 : wd.cell? ⟨wa, i * 4 + 3, none⟩ = some (.string k.value) := by rw [hwd]; exact x3
      rw [← hwd]
      have Hb1 := Lib.hid hb1
      clear hwd g0 g1 g2 g3 x0 x1 x2 x3 a0 a1 hb hb1
      go_wp2_with fail
      refine (zzEq_any k _).mono ?_
      rintro e w2 ⟨rfl, hb2⟩
      have hb3 := Hb1.out.trans (hb2.mono Hb1.out.size)
      have Hb3 := Lib.hid hb3
      clear hb2 hb3
      go_wp2_with fail
      go_roundg (n - i)
      case measure => omega
      case rel => exact ⟨i + 1, by go_num, Lib.hid (by repeat (first | exact Hb3.out | apply below_drew | apply below_drewN | apply below_alloc | apply below_grow)), by omega, by omega⟩
    · have j1 : ¬ (i : Int) < (n : Int) := by omega
      go_wp2_with fail
      go_ret
      exact ⟨rfl, (by repeat (first | exact hb.out | apply below_drew | apply below_drewN | apply below_alloc | apply below_grow))⟩

set_option maxHeartbeats 1000000 in
set_option maxRecDepth 100000 in
theorem zzEqList_zero (a b : Option Addr) (c d : Nat) (w : World) :
    Calls Tryf.prog 14 #[.slice a 0 c, .slice b 0 d] w fun e w' => e = .returned (.bool true) ∧ Below w.heap.size w w' := by
  go_enter Tryf.func14, Tryf.ntmps14
  go_wp2_with fail
  go_loopg [5] 1 (fun g iv wr => iv = .int .i64 0 ∧ Hid (Below w.heap.size w wr) ∧ 0 < g)
  case atStart => exact ⟨rfl, Lib.hid (Below.refl _ _), by omega⟩
  case round =>
    obtain ⟨rfl, hb, _⟩ := hrel
    go_wp2_with fail
    go_ret
    exact ⟨rfl, (by repeat (first | exact hb.out | apply below_drew | apply below_drewN | apply below_alloc | apply below_grow))⟩
theorem zzEqList_any (l : List Tok) (hl : l.length ≤ 1099511627776) (gv wv : Value) (b1 b2 : Nat) (w : World) (hg : w.ownsRow b1 37 4 gv l.length (l.flatMap tokCells)) (hw : w.ownsRow b2 37 4 wv l.length (l.flatMap tokCells)) :
    Calls Tryf.prog 14 #[gv, wv] w fun e w' => e = .returned (.bool true) ∧ Below w.heap.size w w' := by
  by_cases h : 0 < l.length
  · exact zzEqList_some l hl gv wv w (RowAt.owned hg h) (RowAt.owned hw h)
  · have h0 : l.length = 0 := by omega
    rw [h0] at hg hw
    obtain ⟨_, ⟨rfl, _⟩ | ⟨g, cap, cur, rfl, _⟩⟩ := hg <;> obtain ⟨_, ⟨rfl, _⟩ | ⟨g2, cap2, cur2, rfl, _⟩⟩ := hw <;> exact zzEqList_zero _ _ _ _ w

end Go.Proofs.YtkplkccjeacniaaFmt
