/-
  Walk: scanRawString.
-/
import Derived.Test.YtdpdgppjeekcmaaFmtAccs
import Derived.Test.YtdpdgppjeekcmaaFmtErr
import Derived.Test.YtdpdgppjeekcmaaFmtEmitA
import Derived.Test.YtdpdgppjeekcmaaFmtBuild
import Derived.Test.YtdpdgppjeekcmaaFmtJB
import Derived.Test.YtdpdgppjeekcmaaFmtUnW
import Derived.Lib.OthersKept
import Derived.Deep.RegionHeld3
import Derived.WalkMore
namespace Go.Proofs.YtdpdgppjeekcmaaFmt
open Go Go.Lib Go.RowKit Go.Proofs
open Go.Extern.Stop Go.Stop Go.Extern

theorem rawGo_eq (s : ByteArray) (q : Int) (n e : Nat) (ch : Int) (t : St) : rawGo s q n e ch t =
    if ch = q ∧ peek s t = q ∧ ch ≠ -1 then rawGo s q n (e + 1) (peek s (next s t)) (next s (next s t))
    else if ch = q then (n, e, true, t) else if ch = -1 then (n, e, false, error t) else rawGo s q (n + 1) e (peek s t) (next s t) := by
  rw [rawGo]
  split
  · rfl
  · split
    · rfl
    · split <;> rfl
theorem next_eb1 {s : ByteArray} {t : St} (h : peek s t ≠ -1) : t.eb + 1 ≤ (next s t).eb := next_gt (peek_lt h)

theorem encodeRune_le4 (c : Int) : (encodeRune c).length ≤ 4 := by
  unfold encodeRune
  rw [List.length_map]
  unfold encodeRuneZ
  repeat' split
  all_goals simp
/-- What scanRawString's end comes to, F its scan. -/
def RawPost (W0 : World) (S : Nat → Prop) (w : World) (L : Nat) (s : ByteArray) (q : Int) (F : Nat × Nat × Bool × St) (e : Ending) (w' : World) : Prop :=
  e = .returned (.int .i64 F.1) ∧ Done W0 S w L s (if F.2.2.1 then emitV kString (rawValue q F.2.1 (s.extract (F.2.2.2.sb + 1) (F.2.2.2.eb - 1))) F.2.2.2 else F.2.2.2) w'

set_option maxHeartbeats 8000000 in
set_option maxRecDepth 100000 in
theorem scanRaw_walk {F0 : Stop.Interp} {W0 w : World} {S : Nat → Prop} {L : Nat} {s : ByteArray} {t : St} (hF : F0.answers W0.tape) (H : Lx W0 S w L s t) (q : Int) (hq : q ≠ -1) (hle : t.eb ≤ s.size) (hn : t.toks.length ≤ 9) (hsb : t.sb + 1 ≤ t.eb) (F : Nat × Nat × Bool × St) (hFF : rawGo s q 0 0 (peek s t) (next s t) = F) :
    Calls Tryf.prog 34 #[.pointer (some ⟨L, 0, none⟩), .int .i32 q] w (RawPost W0 S w L s q F) := by
  have A0 := Acc.refl S w
  have hsm := H.small
  have hsc := (scan_rawGo s q hq 0 0 _ _ (scan_next s t)).1
  rw [hFF] at hsc
  have f1 : F.2.2.2.sb = t.sb := hsc.sb
  have f2 : F.2.2.2.toks = t.toks := hsc.toks
  have f3 : F.2.2.2.eb ≤ s.size := hsc.le hle
  have HF1 := Lib.hid f1
  have HF2 := Lib.hid f2
  have HF3 := Lib.hid f3
  have HFF := Lib.hid hFF
  clear hsc f1 f2 f3 hFF
  go_enter Tryf.func34, Tryf.ntmps34
  go_wp2_with fail
  go_step3
  go_wp2_with fail
  go_step3
  go_wp2_with fail
  go_loopg [4, 5] (togo s (peek s t) (next s t) + 1) (fun g nv ev wr => ∃ (S1 : Nat → Prop) (t1 : St) (n e : Nat), nv = .int .i64 (n : Nat) ∧ ev = .int .i64 (e : Nat) ∧ Acc S w S1 wr ∧ Lx W0 S1 wr L s t1 ∧ Hid (rawGo s q n e (peek s t1) (next s t1) = F) ∧ togo s (peek s t1) (next s t1) < g ∧ t.eb + n + 2 * e ≤ t1.eb ∧ t1.eb ≤ s.size)
  case atStart => exact ⟨S, t, 0, 0, rfl, rfl, A0, H, HFF, by omega, by omega, hle⟩
  case round =>
    obtain ⟨S1, t1, n, e, rfl, rfl, A1, H1, heq, hg, hb, hle1⟩ := hrel
    have hlo1 := peek_lo s t1
    have hhi1 := peek_hi s t1
    have hle2 := next_le hle1
    have hge2 := next_ge s t1
    have hb2 : t.eb + n + 2 * e + (if peek s t1 = -1 then 0 else 1) ≤ (next s t1).eb := by
      split
      · omega
      · rename_i h; have := next_eb1 h; omega
    have HB2 := Lib.hid hb2
    clear hb2
    go_wp2_with fail
    refine (next_any H1).mono ?_
    rintro e2 w2 ⟨rfl, S2, hS2, H2, hf2⟩
    have A2 := Acc.step A1 hS2 hf2
    go_wp2_with fail
    go_loopg [5, 6] (togo s (peek s t1) (next s t1) + 1) (fun g2 ev cv wr2 => ∃ (S3 : Nat → Prop) (t3 : St) (c3 : Int) (e3 : Nat), ev = .int .i64 (e3 : Nat) ∧ cv = .int .i32 c3 ∧ Acc S w S3 wr2 ∧ Lx W0 S3 wr2 L s t3 ∧ Hid (rawGo s q n e3 c3 t3 = F) ∧ togo s c3 t3 < g2 ∧ togo s c3 t3 ≤ togo s (peek s t1) (next s t1) ∧ Hid (t.eb + n + 2 * e3 + (if c3 = -1 then 0 else 1) ≤ t3.eb) ∧ t3.eb ≤ s.size ∧ -1 ≤ c3 ∧ c3 ≤ 1114111)
    case atStart => exact ⟨S2, _, _, e, rfl, rfl, A2, H2, heq, by omega, by omega, HB2, hle2, hlo1, hhi1⟩
    case round =>
      obtain ⟨S3, t3, c3, e3, rfl, rfl, A3, H3, heq3, hg3, hto, hB3, hle3, hlo3, hhi3⟩ := hrel
      have hst := heq3.out
      rw [rawGo_eq] at hst
      clear heq3
      have hpl := peek_lo s t3
      have hph := peek_hi s t3
      by_cases hcq : c3 = q
      · have e1 : (c3 == q) = true := by rw [hcq]; simp
        have hcm : c3 ≠ -1 := by rw [hcq]; exact hq
        by_cases hpq : peek s t3 = q
        · rw [if_pos ⟨hcq, hpq, hcm⟩] at hst
          have hp3 : peek s t3 ≠ -1 := by rw [hpq]; exact hq
          have e2 : (peek s t3 == q) = true := by rw [hpq]; simp
          have ht1 := togo_next s c3 t3 hcm
          have ht2 := togo_next s (peek s t3) (next s t3) hp3
          have hn3 := next_eb1 hp3
          have hle4 := next_le hle3
          have hle5 := next_le hle4
          have hl4 := peek_lo s (next s t3)
          have hh4 := peek_hi s (next s t3)
          have hB5 : Hid (t.eb + n + 2 * (e3 + 1) + (if peek s (next s t3) = -1 then 0 else 1) ≤ (next s (next s t3)).eb) := by
            refine Lib.hid ?_
            have h0 := hB3.out
            rw [if_neg hcm] at h0
            split
            · have := next_ge s (next s t3); omega
            · rename_i h; have := next_eb1 h; omega
          have Hst := Lib.hid hst
          have Hcq := Lib.hid hcq
          clear hst hcq hpq hcm hp3
          have hle32 : e3 ≤ s.size := by have := hB3.out; split at this <;> omega
          go_wp2_with fail
          refine (peek_any H3).mono ?_
          rintro e4 w' ⟨rfl, xs, d, rfl⟩
          have H3' := H3.keep (grow_below wr xs d)
          have A3' := Acc.below A3 (grow_below wr xs d)
          obtain ⟨w3', hw3'⟩ : ∃ x, x = grow wr xs d := ⟨_, rfl⟩
          rw [← hw3'] at H3' A3' ⊢
          clear hw3'
          go_wp2_with fail
          refine (next_any H3').mono ?_
          rintro e5 w5 ⟨rfl, S5, hS5, H5, hf5⟩
          have A5 := Acc.step A3' hS5 hf5
          go_wp2_with fail
          refine (next_any H5).mono ?_
          rintro e6 w6 ⟨rfl, S6, hS6, H6, hf6⟩
          have A6 := Acc.step A5 hS6 hf6
          go_wp2_with fail
          go_roundg (togo s c3 t3)
          case measure => omega
          case rel => exact ⟨S6, _, _, e3 + 1, by go_num, rfl, A6, H6, Hst, by omega, by omega, hB5, hle5, hl4, hh4⟩
        · rw [if_neg (fun h => hpq h.2.1), if_pos hcq] at hst
          have e2 : (peek s t3 == q) = false := beq_eq_false_iff_ne.2 hpq
          have Hst := Lib.hid hst
          have hsb3 : t3.sb = t.sb := by have := HF1.out; rw [← hst] at this; exact this
          have htk3 : t3.toks = t.toks := by have := HF2.out; rw [← hst] at this; exact this
          have hb3 : t.eb + n + 2 * e3 + 1 ≤ t3.eb := by have := hB3.out; rw [if_neg hcm] at this; exact this
          have hsbl : t3.sb + 1 ≤ t.eb := by omega
          have Hsb3 := Lib.hid hsb3
          have Htk3 := Lib.hid htk3
          clear hst hpq hcm hsb3 htk3
          subst hcq
          go_wp2_with fail
          refine (peek_any H3).mono ?_
          rintro e4 w' ⟨rfl, xs, d, rfl⟩
          have H3' := H3.keep (grow_below wr xs d)
          have A3' := Acc.below A3 (grow_below wr xs d)
          obtain ⟨w3', hw3'⟩ : ∃ x, x = grow wr xs d := ⟨_, rfl⟩
          rw [← hw3'] at H3' A3' ⊢
          clear hw3'
          obtain ⟨R, ev, hL, hR, hc, hr, he, l0, c0, c1, c2, c3', c4, c5, c6, c7, c8, c9, fz⟩ := H3'.opened
          have l1 : L < w3'.heap.size + 1 := by omega
          have l2 : L < w3'.heap.size + 1 + 1 := by omega
          go_wp2_with fail
          obtain ⟨p, hp⟩ : ∃ p, p = t3.sb + 1 := ⟨_, rfl⟩
          obtain ⟨z, hz⟩ : ∃ z, z + 1 = t3.eb := ⟨t3.eb - 1, by omega⟩
          have b0 : (0 : Int) ≤ (p : Int) := by omega
          have b1 : (p : Int) ≤ (z : Int) := by omega
          have b2 : (z : Int) ≤ (s.size : Int) := by omega
          have b3 : (0 : Int) ≤ (z : Int) := by omega
          have b6 : IntKind.i64.wrap (p : Int) = (p : Int) := by rw [IntKind.wrap_i64]; omega
          have b7 : IntKind.i64.wrap (z : Int) = (z : Int) := by rw [IntKind.wrap_i64]; omega
          have b8 : (t3.sb : Int) + 1 = (p : Int) := by omega
          have b9 : (t3.eb : Int) - 1 = (z : Int) := by omega
          have HP := Lib.hid hp
          have HZ := Lib.hid hz
          clear hp hz
          go_region_held3 (fun w' => w'.cell? ⟨L, 1, none⟩ = some (.string s) ∧ w'.cell? ⟨L, 4, none⟩ = some (.int .i64 t3.sb) ∧ w'.cell? ⟨L, 6, none⟩ = some (.int .i64 t3.eb)) (go_keep) (first | (go_at_call 64; refine (source_String s _).mono ?_; rintro e w' ⟨rfl, rfl⟩))
          obtain ⟨str, hstr⟩ : ∃ x, s.extract p z = x := ⟨_, rfl⟩
          have hss : str.size + t3.sb + 2 = t3.eb := by have h1 := HP.out; have h2 := HZ.out; rw [← hstr, ByteArray.size_extract]; omega
          have hstr2 : s.extract (t3.sb + 1) (t3.eb - 1) = str := by have h1 := HP.out; have h2 := HZ.out; rw [← hstr, h1, show t3.eb - 1 = z by omega]
          have hst2 : F = (n, e3, true, t3) := Hst.out.symm
          have Hst2 := Lib.hid hst2
          have Hstr := Lib.hid hstr
          have Hstr2 := Lib.hid hstr2
          clear hstr2
          clear hst2 c0 c1 c2 c3' c4 c5 c6 c7 c8 c9 b0 b1 b2 b3 b6 b7 b8 b9
          by_cases he0 : e3 = 0
          · have e0 : ((e3 : Int) == 0) = true := by rw [beq_iff_eq]; omega
            have e0' : (e3 : Int) = 0 := by omega
            have Hstr := Lib.hid hstr
            have He0 := Lib.hid he0
            clear he0
            go_wp2_with fail
            refine (emitValue_any (H3'.keep (by repeat (first | exact Below.refl _ _ | apply below_drew | apply below_drewN | apply below_alloc | apply below_grow))) (by rw [Htk3.out]; exact hn) kString str).mono ?_
            rintro e7 w7 ⟨rfl, S7, hS7, H7, hf7⟩
            have A7 := Acc.step (Acc.below A3' (by repeat (first | exact Below.refl _ _ | apply below_drew | apply below_drewN | apply below_alloc | apply below_grow))) hS7 hf7
            go_wp2_with fail
            rw [Exit.noGoto_ret]
            go_ret
            rw [Hst2.out]
            refine ⟨rfl, ?_⟩
            dsimp only
            rw [if_pos rfl, Hstr2.out, He0.out]
            exact A7.done H7
          · have e0 : ((e3 : Int) == 0) = false := by rw [beq_eq_false_iff_ne]; omega
            have e0' : ¬ (e3 : Int) = 0 := by omega
            have hse : e3 ≤ str.size := by omega
            have i0 : (0 : Int) ≤ (str.size : Int) - (e3 : Int) := by omega
            have Hse := Lib.hid (show (str.size : Int) - (e3 : Int) = ((str.size - e3 : Nat) : Int) by omega)
            have He0 := Lib.hid he0
            clear he0
            rw [hstr]
            clear hstr
            go_wp2_with fail
            have hg2 := heap_two (w := w3') (o := Obj.cells #[Value.string s] 56) (p := Obj.cells #[.pointer none, .slice none 0 0] 90)
            have hgr := Tryf.Builder_Grow_fresh (w3'.heap.size + 1) (w3'.heap.size + 1) (str.size - e3) (((w3'.alloc (Obj.cells #[Value.string s] 56)).alloc (Obj.cells #[.pointer none, .slice none 0 0] 90)).drew) (Nat.le_refl _) hg2.2.1 (by show _ ≤ ((w3'.alloc _).alloc _).heap.size; rw [hg2.2.2]; omega) (by omega)
            rw [← Hse.out] at hgr
            have hg3 := hg2.2.2
            have Hgr := Lib.hid hgr
            clear hgr hg2
            refine Hgr.out.mono ?_
            rintro e8 w8 ⟨rfl, hbA, hbB⟩
            have hsz8 : w3'.heap.size + 2 ≤ w8.heap.size := by
              have h := hbB.size
              change ((w3'.alloc _).alloc _).heap.size ≤ _ at h
              rw [hg3] at h
              exact h
            have hB8 : Below w3'.heap.size w3' w8 := by
              refine Below.trans ?_ (hbB.mono (Nat.le_succ _))
              exact (by repeat (first | exact Below.refl _ _ | apply below_drew | apply below_drewN | apply below_alloc | apply below_grow))
            have hI8 : Lib.IsBuilderF 90 5 (w3'.heap.size + 1) (w3'.heap.size + 1) (byteCells []) w8 := Lib.IsBuilderF.of (.inr hbA)
            have HB8 := Lib.hid hB8
            have HI8 := Lib.hid hI8
            clear hB8 hI8 hbA hbB Hgr hg3
            go_wp2_with fail
            go_loopg [9] str.size (fun g sv wq => ∃ (pos : Nat) (acc : List UInt8) (b : Bool), sv = .bool b ∧ wq.heap[w8.heap.size]? = some (.stringIter str pos) ∧ Hid (Lib.IsBuilderF 90 5 (w3'.heap.size + 1) (w3'.heap.size + 1) (byteCells acc) wq) ∧ Below w3'.heap.size w3' wq ∧ Hid (acc ++ encodeAll (unpair c3 b (runesFrom str g pos)) = encodeAll (unpair c3 false (runesOf str))) ∧ str.size ≤ pos + g ∧ acc.length + 4 * g ≤ 4 * str.size)
            case atStart =>
              refine ⟨0, [], false, rfl, World.iter_heap w8 str 0, Lib.hid (HI8.out.alloc _), Below.alloc HB8.out (by omega) _, Lib.hid rfl, by omega, by simp⟩
            case round =>
              obtain ⟨pos, acc, b, rfl, hit, hIb, hbw, hcon, hfu, hac⟩ := hrel
              have hszr : w8.heap.size < wr.heap.size := (Array.getElem?_eq_some_iff.1 hit).1
              by_cases hp : pos < str.size
              · have hnx : ∀ ty, (Instr.next (.pointer (some ⟨w8.heap.size, 0, none⟩)) true ty).run Tryf.prog wr = _ := fun ty => Lib.run_next_any_at wr w8.heap.size str pos ty hit hp
                have hbw2 := Lib.below_iterAt hbw (k := w8.heap.size) (by omega) str (pos + (Utf8.decode str pos).2)
                have hit2 := Lib.iterAt_heap wr w8.heap.size str pos (pos + (Utf8.decode str pos).2) hit
                have hIb2 := Lib.hid (hIb.out.iterAt hit (pos + (Utf8.decode str pos).2))
                have hwd := wAt_pos str pos hp
                have hx0 := rAt_nonneg str pos
                have hx1 := rAt_le str pos
                obtain ⟨x, hx⟩ : ∃ x : Int, x = ((Utf8.decode str pos).1 : Int) := ⟨_, rfl⟩
                rw [show rAt str pos = x from hx.symm] at hx0 hx1
                obtain ⟨g', rfl⟩ : ∃ g', gk = g' + 1 := ⟨gk - 1, by omega⟩
                have hcn : acc ++ encodeAll (unpair c3 b (x :: runesFrom str g' (pos + (Utf8.decode str pos).2))) = encodeAll (unpair c3 false (runesOf str)) := by
                  rw [← hcon.out]
                  simp [runesFrom, hp, rAt, wAt, hx]
                have hel := encodeRune_le4 x
                change 1 ≤ (Utf8.decode str pos).2 at hwd
                have hx2 : (0 : Int) ≤ ((Utf8.decode str pos).1 : Int) := by omega
                have hx3 : ((Utf8.decode str pos).1 : Int) ≤ 1114111 := by omega
                by_cases hcr : x = c3
                · have hd : ((((Utf8.decode str pos).1 : Nat) : Int) == c3) = true := by rw [← hx, hcr]; simp
                  have hue : ∀ b rs, unpair c3 b (x :: rs) = if b then x :: unpair c3 false rs else unpair c3 true rs := by intro b rs; rw [unpair, if_pos hcr]
                  rw [hue] at hcn
                  clear hue
                  cases b
                  · have Hcn : Hid (acc ++ encodeAll (unpair c3 true (runesFrom str g' (pos + (Utf8.decode str pos).2))) = encodeAll (unpair c3 false (runesOf str))) := Lib.hid hcn
                    have Hx := Lib.hid hx
                    clear hcn hcr hx
                    go_wp2_with fail
                    go_roundg g'
                    case measure => omega
                    case rel => exact ⟨_, acc, true, rfl, hit2, hIb2, hbw2, Hcn, by omega, by omega⟩
                  · have Hcn : Hid (acc ++ (encodeRune x ++ encodeAll (unpair c3 false (runesFrom str g' (pos + (Utf8.decode str pos).2)))) = encodeAll (unpair c3 false (runesOf str))) := Lib.hid hcn
                    have Hx := Lib.hid hx
                    clear hcn hcr hx
                    go_wp2_with fail
                    have hx := Hx.out
                    refine (Tryf.WriteRune_any (w3'.heap.size + 1) (w3'.heap.size + 1) (byteCells acc) _ (by omega) (by omega) _ hIb2.out (by rw [byteCells_length]; omega) (Nat.le_trans (show w3'.heap.size + 1 ≤ w8.heap.size by omega) (Nat.le_of_lt (Array.getElem?_eq_some_iff.1 hit2).1))).mono ?_
                    rintro e9 w9 ⟨rfl, hb9, hl9, ho9⟩
                    have hit9 := ho9 _ _ hit2 (by intro e; injection e with e; omega) (by intro c fz e; cases e)
                    have hI9 : Lib.IsBuilderF 90 5 (w3'.heap.size + 1) (w3'.heap.size + 1) (byteCells (acc ++ encodeRune x)) w9 := by
                      refine .inr ?_
                      rw [show byteCells (acc ++ encodeRune x) = byteCells acc ++ Lib.runeCells x by rw [← byteCells_encodeRune]; simp [byteCells]]
                      rw [hx]
                      exact hb9
                    have HI9 := Lib.hid hI9
                    have hB9 : Below w3'.heap.size w3' w9 := hbw2.trans (hl9.mono (by omega))
                    clear hI9 hb9 hl9 ho9
                    go_wp2_with fail
                    go_roundg g'
                    case measure => omega
                    case rel => exact ⟨_, _, false, rfl, hit9, HI9, hB9, Lib.hid (by rw [List.append_assoc]; exact Hcn.out), by omega, by rw [List.length_append]; omega⟩
                · have hd : ((((Utf8.decode str pos).1 : Nat) : Int) == c3) = false := by rw [← hx]; exact beq_eq_false_iff_ne.2 hcr
                  have Hcn : Hid (acc ++ (encodeRune x ++ encodeAll (unpair c3 b (runesFrom str g' (pos + (Utf8.decode str pos).2)))) = encodeAll (unpair c3 false (runesOf str))) := Lib.hid (by rw [← hcn, unpair, if_neg hcr]; rfl)
                  have Hx := Lib.hid hx
                  clear hcn hcr hx
                  go_wp2_with fail
                  have hx := Hx.out
                  refine (Tryf.WriteRune_any (w3'.heap.size + 1) (w3'.heap.size + 1) (byteCells acc) _ (by omega) (by omega) _ hIb2.out (by rw [byteCells_length]; omega) (Nat.le_trans (show w3'.heap.size + 1 ≤ w8.heap.size by omega) (Nat.le_of_lt (Array.getElem?_eq_some_iff.1 hit2).1))).mono ?_
                  rintro e9 w9 ⟨rfl, hb9, hl9, ho9⟩
                  have hit9 := ho9 _ _ hit2 (by intro e; injection e with e; omega) (by intro c fz e; cases e)
                  have hI9 : Lib.IsBuilderF 90 5 (w3'.heap.size + 1) (w3'.heap.size + 1) (byteCells (acc ++ encodeRune x)) w9 := by
                    refine .inr ?_
                    rw [show byteCells (acc ++ encodeRune x) = byteCells acc ++ Lib.runeCells x by rw [← byteCells_encodeRune]; simp [byteCells]]
                    rw [hx]
                    exact hb9
                  have HI9 := Lib.hid hI9
                  have hB9 : Below w3'.heap.size w3' w9 := hbw2.trans (hl9.mono (by omega))
                  clear hI9 hb9 hl9 ho9
                  go_wp2_with fail
                  go_roundg g'
                  case measure => omega
                  case rel => exact ⟨_, _, b, rfl, hit9, HI9, hB9, Lib.hid (by rw [List.append_assoc]; exact Hcn.out), by omega, by rw [List.length_append]; omega⟩
              · have hnx : ∀ ty, (Instr.next (.pointer (some ⟨w8.heap.size, 0, none⟩)) true ty).run Tryf.prog wr = _ := fun ty => Lib.run_next_end_at wr w8.heap.size str pos ty hit hp
                have hfin : acc = encodeAll (unpair c3 false (runesOf str)) := by
                  have h := hcon.out
                  rw [runesFrom_end str gk pos hp] at h
                  simpa [unpair, encodeAll] using h
                have Hfin := Lib.hid hfin
                have Hbw := Lib.hid hbw
                clear hfin hcon hbw
                go_wp2_with fail
                refine (Tryf.Builder_String_any_f (w3'.heap.size + 1) (w3'.heap.size + 1) acc _ hIb.out (Nat.le_trans (show w3'.heap.size + 1 ≤ w8.heap.size by omega) (Nat.le_of_lt hszr))).mono ?_
                rintro e9 w9 ⟨rfl, hI9, hl9⟩
                have hB9 : Below w3'.heap.size w3' w9 := Hbw.out.trans (hl9.mono (by omega))
                clear hI9 hl9
                go_wp2_with fail
                refine (emitValue_any (H3'.keep hB9) (by rw [Htk3.out]; exact hn) kString _).mono ?_
                rintro e7 w7 ⟨rfl, S7, hS7, H7, hf7⟩
                have A7 := Acc.step (Acc.below A3' hB9) hS7 hf7
                go_wp2_with fail
                rw [Exit.noGoto_ret]
                go_ret
                rw [Hst2.out]
                refine ⟨rfl, ?_⟩
                dsimp only
                have hv : rawValue c3 e3 str = ⟨acc.toArray⟩ := by unfold rawValue; rw [if_neg He0.out, Hfin.out]
                rw [if_pos rfl, Hstr2.out, hv]
                exact A7.done H7
      · rw [if_neg (fun h => hcq h.1), if_neg hcq] at hst
        have e1 : (c3 == q) = false := beq_eq_false_iff_ne.2 hcq
        by_cases hcm : c3 = -1
        · rw [if_pos hcm] at hst
          have Hst := Lib.hid hst
          clear hst hcq
          subst hcm
          go_wp2_with fail
          refine (error_m1 hF H3).mono ?_
          rintro e4 w4 ⟨rfl, S4, hS4, H4, hf4⟩
          have A4 := Acc.step A3 hS4 hf4
          go_wp2_with fail
          rw [Exit.noGoto_ret]
          go_ret
          rw [← Hst.out]
          exact ⟨rfl, A4.done H4⟩
        · rw [if_neg hcm] at hst
          have e2 : (c3 == -1) = false := beq_eq_false_iff_ne.2 hcm
          have ht1 := togo_next s c3 t3 hcm
          have hb3 : t.eb + n + 2 * e3 + 1 ≤ t3.eb := by have := hB3.out; rw [if_neg hcm] at this; exact this
          have Hst := Lib.hid hst
          clear hst hcq hcm
          go_wp2_with fail
          go_roundg (togo s c3 t3)
          case measure => omega
          case rel => exact ⟨S3, t3, n + 1, e3, by go_num, rfl, A3, H3, Hst, by omega, by omega, hle3⟩

end Go.Proofs.YtdpdgppjeekcmaaFmt
