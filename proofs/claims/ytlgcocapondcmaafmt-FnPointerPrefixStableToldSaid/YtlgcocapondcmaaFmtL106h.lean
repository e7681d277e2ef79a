/-
  Walk of a law of n003_106: hashes, then a name.
-/
import Derived.Test.YtlgcocapondcmaaFmtZ106b
import Derived.Test.YtlgcocapondcmaaFmtLex
namespace Go.Proofs.YtlgcocapondcmaaFmt
open Go Go.Lib Go.RowKit Go.Proofs
open Go.Extern.Stop Go.Stop Go.Extern

def Says (P : Bool → Prop) (w : World) (e : Ending) (w' : World) : Prop := ∃ b, e = .returned (.bool b) ∧ P b ∧ w = w'
theorem says_ret {P : Bool → Prop} {w : World} {b : Bool} (h : P b) : Says P w (.returned (.bool b)) w := ⟨b, rfl, h, rfl⟩
theorem hs_trans {a b c : World} (h : Below a.heap.size a b) (k : Below b.heap.size b c) : Below a.heap.size a c := h.trans (k.mono h.size)

/-- A slice that is not nil, and what its cells hold. -/
def RowAt (w : World) (v : Value) (n : Nat) (xs : List Value) : Prop :=
  ∃ g cap, v = .slice (some ⟨g, 0, none⟩) n cap ∧ g < w.heap.size ∧ ∀ j u, xs[j]? = some u → w.cell? ⟨g, j, none⟩ = some u
theorem RowAt.keep {w w' : World} {n : Nat} {v : Value} {xs : List Value} (h : RowAt w v n xs) (hb : Below w.heap.size w w') : RowAt w' v n xs := by
  obtain ⟨g, c, rfl, hg, hr⟩ := h
  exact ⟨g, c, rfl, Nat.lt_of_lt_of_le hg hb.size, fun j u hj => by rw [hb.cell hg]; exact hr j u hj⟩
theorem RowAt.owned {w : World} {base size n : Nat} {e : TypeId} {v : Value} {xs : List Value} (h : w.ownsRow base e size v n xs) (hn : 0 < n) : RowAt w v n xs := by
  have h2 := h
  obtain ⟨h0, ⟨rfl, h1⟩ | ⟨g, cap, cur, rfl, hB, hh⟩⟩ := h
  · omega
  · exact ⟨g, cap, rfl, (h2.lt g rfl).2, fun j u hj => by have := h2.cells (g := g) rfl j u hj; rwa [addr_at, Nat.zero_add] at this⟩
theorem flat_at (f : Tok → List Value) (hf : ∀ k, (f k).length = 4) : ∀ (l : List Tok) (i : Nat) (h : i < l.length) (j : Nat), j < 4 → (l.flatMap f)[i * 4 + j]? = (f (l[i]'h))[j]?
  | [], i, h, j, hj => absurd h (Nat.not_lt_zero _)
  | k :: l, 0, h, j, hj => by
    rw [List.flatMap_cons, Nat.zero_mul, Nat.zero_add, List.getElem?_append_left (by rw [hf]; exact hj)]
    rfl
  | k :: l, i + 1, h, j, hj => by
    rw [List.flatMap_cons, List.getElem?_append_right (by rw [hf]; omega), hf, show (i + 1) * 4 + j - 4 = i * 4 + j by omega]
    exact flat_at f hf l i (by simpa using h) j hj
theorem str_self (v : ByteArray) : (v.toList == v.toList) = true := by simp

set_option maxRecDepth 100000 in
theorem zzBytes_HR (k : Int) (c : ByteArray) (w : World) (wc : c.size ≤ maxLen) : Calls Tryf.prog 5 #[.int .i64 k, .string c] w (Says (fun _ => True) w) := by
  unfold maxLen at wc
  by_cases z0 : (1048576 : Int) < (c.size : Int)
  · go_enter Tryf.func5, Tryf.ntmps5
    go_wp2_with fail
    go_ret
    exact says_ret trivial
  · go_enter Tryf.func5, Tryf.ntmps5
    go_wp2_with fail
    go_ret
    exact says_ret trivial

set_option maxHeartbeats 16000000 in
set_option maxRecDepth 100000 in
theorem HR_in {W : World} (hT : Tabs W) (F : Stop.Interp) (hF : F.answers W.tape) (k : Nat) (s : ByteArray) (hk1 : 1 ≤ k) (hk : k ≤ 65536) (hs : s.size ≤ 65536) :
    Calls Tryf.prog 3 #[.int .i64 (k : Nat), .string s] W fun e w' => e = .returned (.bool true) ∧ Below W.heap.size W w' := by
  have b0 : ¬ (k : Int) < 1 := by omega
  have b1 : ¬ (65536 : Int) < (k : Int) := by omega
  have b2 : ¬ (65536 : Int) < (s.size : Int) := by omega
  have hz := zzBytes_HR (k : Nat) s W (by unfold maxLen; omega)
  have hmap := zzMapName_any s (by omega) W
  have Hz := Lib.hid hz
  have Hmap := Lib.hid hmap
  have q0 : ∀ wr, Sem.run Tryf.prog (binOp BinOp.neq 28 Value.nilIface Value.nilIface) wr = .ok (.bool false) wr := fun _ => by kernel_rfl
  clear hz hmap
  go_enter Tryf.func3, Tryf.ntmps3
  go_wp2_with fail
  refine Hz.out.mono ?_
  rintro e w' ⟨b, rfl, _, rfl⟩
  cases b
  · go_wp2_with fail
    go_ret
    exact ⟨rfl, Below.refl _ _⟩
  go_wp2_with fail
  refine Hmap.out.mono ?_
  rintro e w1 ⟨g, ds, rfl, hdl, hwd, hn1, hb1⟩
  have hhash := zzHashesThen_any k g ds hk (by omega) w1 hn1
  obtain ⟨m, hm⟩ : ∃ m, s.size = m := ⟨_, rfl⟩
  rw [hm] at hdl hs ⊢
  have hm2 := hdl
  rw [hdl] at hhash
  have Hhash := Lib.hid hhash
  have Hn1 := Lib.hid hn1
  have Hb1 := Lib.hid hb1
  have Hwd := Lib.hid hwd
  have Hdl := Lib.hid hdl
  clear hhash hn1 hb1 hwd hdl hm2 Hmap hm b2
  go_wp2_with fail
  refine Hhash.out.mono ?_
  rintro e w2 ⟨v, rfl, hrow⟩
  have hcv := conv_own hrow.1
  obtain ⟨S, hS⟩ : ∃ S : ByteArray, S = ⟨(hashText k ds).toArray⟩ := ⟨_, rfl⟩
  rw [← hS] at hcv
  have hSs : S.size = k + m := by
    rw [hS]
    show (hashText k ds).toArray.size = _
    have := hashText_len k ds
    rw [Hdl.out] at this
    simpa using this
  have hH : Hashed S k m := by
    have := hashed (k := k) (ds := ds) (r := []) Hwd.out (.inl rfl)
    rw [List.append_nil, Hdl.out] at this
    rw [hS]
    exact this
  have hword : S.extract k (k + m) = ⟨ds.toArray⟩ := by
    have := hash_word (k := k) (ds := ds) (r := [])
    rw [List.append_nil, Hdl.out] at this
    rw [hS]
    exact this
  obtain ⟨u, hu, hout⟩ := hash_alone hk1 hH hSs
  obtain ⟨l, hl⟩ : ∃ l, l = hashGo k 0 ++ (hashWord S k m ++ [eofTok (k + m)]) := ⟨_, rfl⟩
  rw [← hl] at hout
  have hgl := hashGo_len k k 0 (Nat.sub_zero _)
  have hbw2 : Below W.heap.size W w2 := hs_trans Hb1.out hrow.2
  have hn2 := Hn1.out.keep hrow.2
  have hcvn : ∀ wx, NameAt wx g ds → (convert 23 9 (.slice (some ⟨g, 0, none⟩) m m)).run Tryf.prog wx = .ok (.string ⟨ds.toArray⟩) wx := fun wx hn2 => by
    rw [run_convert_bytes_string _ _ _ 5 _ _ _ (by kernel_rfl) (by kernel_rfl) (by kernel_rfl)]
    exact text_at (fun j hj => by rw [Nat.zero_add]; exact hn2.cells j hj) Hdl.out
  obtain ⟨P, hP⟩ : ∃ P, (k + 1) / 2 = P := ⟨_, rfl⟩
  rw [hP] at hgl
  have hlen : l.length = P + ((if m = 0 then 0 else 1) + 1) := by
    rw [hl, List.length_append, List.length_append, hgl]
    unfold hashWord
    split <;> rfl
  have hlen2 : l.length ≤ 1099511627776 := by rw [hlen]; split <;> omega
  have hlex := fun (w : World) (hb : Below W.heap.size W w) => lex_any hF hT hb S (by omega) (out_drain (t := start) hout (inv_start S) rfl (l.length + 1) (Nat.lt_succ_self _)) hlen2
  have Hlex := Lib.hid hlex
  have Hl := Lib.hid hl
  have Hgl := Lib.hid hgl
  have Hlen := Lib.hid hlen
  have Hu := Lib.hid hu
  have Hword := Lib.hid hword
  have Hbw2 := Lib.hid hbw2
  have Hcvn := Lib.hid hcvn
  have Hn2 := Lib.hid hn2
  have hP2 : k ≤ 2 * P ∧ 2 * P ≤ k + 1 := by omega
  have et : ((k : Int) + 1).tdiv 2 = (P : Int) := by rw [Int.tdiv_eq_ediv_of_nonneg (by omega)]; omega
  clear hlex hl hgl hlen hu hword hbw2 hcvn hn2 hP hout hH hS hSs hlen2 Hhash Hb1 Hwd hrow
  go_wp2_with fail
  refine (newSource_any S _).mono ?_
  rintro e w' ⟨rfl, xs, d, rfl⟩
  go_wp2_with fail
  have hg3 := grow_below w2 xs d
  refine (Hlex.out _ (Hbw2.out.trans (hg3.mono Hbw2.out.size))).mono ?_
  rintro e w4 ⟨hb4, ⟨_, tv, rfl, htoks⟩ | ⟨h, _⟩⟩
  rotate_left
  · exact absurd Hu.out h
  have hb24 : Below w2.heap.size w2 w4 := hg3.trans (hb4.mono hg3.size)
  have hbw4 : Below W.heap.size W w4 := Hbw2.out.trans (hb24.mono Hbw2.out.size)
  have hrow := RowAt.owned htoks (by rw [Hlen.out]; split <;> omega)
  rw [Hlen.out] at hrow
  have Hbw4 := Lib.hid hbw4
  clear htoks hbw4 hb4 hg3 Hbw2 Hlex
  by_cases hm : m = 0
  · rw [if_pos hm] at hrow
    obtain ⟨P1, hP1⟩ : ∃ P1, P1 = P + 1 := ⟨_, rfl⟩
    rw [show P + (0 + 1) = P1 by omega] at hrow
    obtain ⟨ga, gc, rfl, hga, hgr⟩ := hrow
    have m1 : (P : Int) + 1 = (P1 : Int) := by omega
    have Hgr := Lib.hid hgr
    have HP1 := Lib.hid hP1
    have Hm := Lib.hid hm
    subst hm
    clear hgr hP1
    go_wp2_with fail
    go_loopg [11] (P + 1) (fun g jv wr => ∃ j : Nat, jv = .int .i64 (j : Nat) ∧ Hid (Below w4.heap.size w4 wr) ∧ j ≤ P ∧ P - j < g)
    case atStart => exact ⟨0, rfl, Lib.hid (Below.refl _ _), Nat.zero_le _, by omega⟩
    case round =>
      obtain ⟨j, rfl, hb, hj', hg⟩ := hrel
      by_cases hj : j < P
      · have j0 : (0 : Int) ≤ (j : Int) := by omega
        have j1 : (j : Int) < (P : Int) := by omega
        have j2 : (j : Int) < (P1 : Int) := by have := HP1.out; omega
        have hil : j < l.length := by rw [Hlen.out]; omega
        have htk : l[j]'hil = hashTok k j := by
          have h : l[j]? = some (hashTok k j) := by
            rw [Hl.out, List.getElem?_append_left (by rw [Hgl.out]; exact hj)]
            have h := hashGo_get k j 0
            rw [Nat.mul_zero, Nat.zero_add, if_pos (by omega)] at h
            exact h
          rw [List.getElem?_eq_getElem hil] at h
          exact Option.some.inj h
        obtain ⟨f, hf⟩ : ∃ f, f = 2 * j := ⟨_, rfl⟩
        obtain ⟨e2, he2⟩ : ∃ e2, e2 = f + 2 := ⟨_, rfl⟩
        have f0 : (2 : Int) * (j : Int) = (f : Int) := by omega
        have f1 : (f : Int) + 2 = (e2 : Int) := by omega
        have a0 : ga < wr.heap.size := Nat.lt_of_lt_of_le hga hb.out.size
        have sg : ∀ x v, x < 4 → (tokCells (hashTok k j))[x]? = some v → wr.cell? ⟨ga, j * 4 + x, none⟩ = some v := fun x v hx h => by
          rw [hb.out.cell hga]
          exact Hgr.out _ _ (by rw [flat_at tokCells (fun _ => rfl) l j hil x hx, htk]; exact h)
        by_cases h2 : e2 ≤ k
        · have c2 : ¬ (k : Int) < (e2 : Int) := by omega
          have hh : hashTok k j = ⟨(f : Nat), (e2 : Nat), kOperator, ⟨#[35, 35]⟩⟩ := by unfold hashTok; rw [if_pos (by omega), ← hf, ← he2]
          rw [hh] at sg
          have g0 : wr.cell? ⟨ga, j * 4, none⟩ = some (.int .i64 (f : Nat)) := sg 0 _ (by decide) rfl
          have g1 : wr.cell? ⟨ga, j * 4 + 1, none⟩ = some (.int .i64 (e2 : Nat)) := sg 1 _ (by decide) rfl
          have g2 : wr.cell? ⟨ga, j * 4 + 2, none⟩ = some (.string ⟨#[79, 112, 101, 114, 97, 116, 111, 114]⟩) := sg 2 _ (by decide) rfl
          have g3 : wr.cell? ⟨ga, j * 4 + 3, none⟩ = some (.string ⟨#[35, 35]⟩) := sg 3 _ (by decide) rfl
          clear sg hh htk hf he2 h2
          go_wp2_with fail
          go_roundg (P - j)
          case measure => omega
          case rel => exact ⟨j + 1, by go_num, Lib.hid (by repeat (first | exact hb.out | apply below_drew | apply below_drewN | apply below_alloc | apply below_grow)), by omega, by omega⟩
        · have c2 : (k : Int) < (e2 : Int) := by omega
          have hh : hashTok k j = ⟨(f : Nat), (k : Nat), kOperator, ⟨#[35]⟩⟩ := by unfold hashTok; rw [if_neg (by omega), ← hf]
          rw [hh] at sg
          have g0 : wr.cell? ⟨ga, j * 4, none⟩ = some (.int .i64 (f : Nat)) := sg 0 _ (by decide) rfl
          have g1 : wr.cell? ⟨ga, j * 4 + 1, none⟩ = some (.int .i64 (k : Nat)) := sg 1 _ (by decide) rfl
          have g2 : wr.cell? ⟨ga, j * 4 + 2, none⟩ = some (.string ⟨#[79, 112, 101, 114, 97, 116, 111, 114]⟩) := sg 2 _ (by decide) rfl
          have g3 : wr.cell? ⟨ga, j * 4 + 3, none⟩ = some (.string ⟨#[35]⟩) := sg 3 _ (by decide) rfl
          clear sg hh htk hf he2 h2
          go_wp2_with fail
          go_roundg (P - j)
          case measure => omega
          case rel => exact ⟨j + 1, by go_num, Lib.hid (by repeat (first | exact hb.out | apply below_drew | apply below_drewN | apply below_alloc | apply below_grow)), by omega, by omega⟩
      · have j1 : ¬ (j : Int) < (P : Int) := by omega
        obtain rfl : j = P := by omega
        have a0 : ga < wr.heap.size := Nat.lt_of_lt_of_le hga hb.out.size
        have k0 : (k : Int) - 1 = ((k - 1 : Nat) : Int) := by omega
        have j0 : (0 : Int) ≤ (j : Int) := by omega
        have j2 : (j : Int) < (P1 : Int) := by have := HP1.out; omega
        have hil : j < l.length := by rw [Hlen.out]; omega
        have htk : l[j]'hil = eofTok k := by
          have h : l[j]? = some (eofTok k) := by
            rw [Hl.out, List.getElem?_append_right (by rw [Hgl.out]; exact Nat.le_refl _), Hgl.out, Nat.sub_self]
            unfold hashWord
            rw [if_pos rfl]
            rfl
          rw [List.getElem?_eq_getElem hil] at h
          exact Option.some.inj h
        obtain ⟨kk, hkk⟩ : ∃ kk, k - 1 = kk := ⟨_, rfl⟩
        rw [hkk] at k0
        have sg : ∀ x v, x < 4 → (tokCells (eofTok k))[x]? = some v → wr.cell? ⟨ga, j * 4 + x, none⟩ = some v := fun x v hx h => by
          rw [hb.out.cell hga]
          exact Hgr.out _ _ (by rw [flat_at tokCells (fun _ => rfl) l j hil x hx, htk]; exact h)
        have g0 : wr.cell? ⟨ga, j * 4, none⟩ = some (.int .i64 (kk : Nat)) := by rw [← hkk]; exact sg 0 _ (by decide) rfl
        have g1 : wr.cell? ⟨ga, j * 4 + 1, none⟩ = some (.int .i64 (k : Nat)) := sg 1 _ (by decide) rfl
        have g2 : wr.cell? ⟨ga, j * 4 + 2, none⟩ = some (.string ⟨#[69, 79, 70]⟩) := sg 2 _ (by decide) rfl
        have g3 : wr.cell? ⟨ga, j * 4 + 3, none⟩ = some (.string ⟨#[]⟩) := sg 3 _ (by decide) rfl
        clear sg htk hkk
        go_wp2_with fail
        go_ret
        exact ⟨rfl, (by repeat (first | exact Hbw4.out.trans (hb.out.mono Hbw4.out.size) | apply below_drew | apply below_drewN | apply below_alloc | apply below_grow))⟩
  · rw [if_neg hm] at hrow
    obtain ⟨P1, hP1⟩ : ∃ P1, P1 = P + 2 := ⟨_, rfl⟩
    obtain ⟨Pa, hPa⟩ : ∃ Pa, Pa = P + 1 := ⟨_, rfl⟩
    rw [show P + (1 + 1) = P1 by omega] at hrow
    obtain ⟨ga, gc, rfl, hga, hgr⟩ := hrow
    have m1 : (P : Int) + 1 = (Pa : Int) := by omega
    have m2 : (Pa : Int) + 1 = (P1 : Int) := by omega
    have m3 : (0 : Int) < (m : Int) := by omega
    have Hgr := Lib.hid hgr
    have HP1 := Lib.hid hP1
    have HPa := Lib.hid hPa
    clear hgr hP1 hPa
    have Hm := Lib.hid hm
    have M1 := Lib.hid m1
    have M2 := Lib.hid m2
    have M3 := Lib.hid m3
    clear hm
    go_wp2_with fail
    clear m1 m2 m3
    have hd0 : decide (0 < m) = true := decide_eq_true (by have := Hm.out; omega)
    simp only [hd0]
    clear hd0
    go_loopg [11] (P + 1) (fun g jv wr => ∃ j : Nat, jv = .int .i64 (j : Nat) ∧ Hid (Below w4.heap.size w4 wr) ∧ j ≤ P ∧ P - j < g)
    case atStart => exact ⟨0, rfl, Lib.hid (Below.refl _ _), Nat.zero_le _, by omega⟩
    case round =>
      obtain ⟨j, rfl, hb, hj', hg⟩ := hrel
      by_cases hj : j < P
      · have j0 : (0 : Int) ≤ (j : Int) := by omega
        have j1 : (j : Int) < (P : Int) := by omega
        have j2 : (j : Int) < (P1 : Int) := by have := HP1.out; omega
        have hil : j < l.length := by rw [Hlen.out]; omega
        have htk : l[j]'hil = hashTok k j := by
          have h : l[j]? = some (hashTok k j) := by
            rw [Hl.out, List.getElem?_append_left (by rw [Hgl.out]; exact hj)]
            have h := hashGo_get k j 0
            rw [Nat.mul_zero, Nat.zero_add, if_pos (by omega)] at h
            exact h
          rw [List.getElem?_eq_getElem hil] at h
          exact Option.some.inj h
        obtain ⟨f, hf⟩ : ∃ f, f = 2 * j := ⟨_, rfl⟩
        obtain ⟨e2, he2⟩ : ∃ e2, e2 = f + 2 := ⟨_, rfl⟩
        have f0 : (2 : Int) * (j : Int) = (f : Int) := by omega
        have f1 : (f : Int) + 2 = (e2 : Int) := by omega
        have a0 : ga < wr.heap.size := Nat.lt_of_lt_of_le hga hb.out.size
        have sg : ∀ x v, x < 4 → (tokCells (hashTok k j))[x]? = some v → wr.cell? ⟨ga, j * 4 + x, none⟩ = some v := fun x v hx h => by
          rw [hb.out.cell hga]
          exact Hgr.out _ _ (by rw [flat_at tokCells (fun _ => rfl) l j hil x hx, htk]; exact h)
        by_cases h2 : e2 ≤ k
        · have c2 : ¬ (k : Int) < (e2 : Int) := by omega
          have hh : hashTok k j = ⟨(f : Nat), (e2 : Nat), kOperator, ⟨#[35, 35]⟩⟩ := by unfold hashTok; rw [if_pos (by omega), ← hf, ← he2]
          rw [hh] at sg
          have g0 : wr.cell? ⟨ga, j * 4, none⟩ = some (.int .i64 (f : Nat)) := sg 0 _ (by decide) rfl
          have g1 : wr.cell? ⟨ga, j * 4 + 1, none⟩ = some (.int .i64 (e2 : Nat)) := sg 1 _ (by decide) rfl
          have g2 : wr.cell? ⟨ga, j * 4 + 2, none⟩ = some (.string ⟨#[79, 112, 101, 114, 97, 116, 111, 114]⟩) := sg 2 _ (by decide) rfl
          have g3 : wr.cell? ⟨ga, j * 4 + 3, none⟩ = some (.string ⟨#[35, 35]⟩) := sg 3 _ (by decide) rfl
          clear sg hh htk hf he2 h2
          go_wp2_with fail
          go_roundg (P - j)
          case measure => omega
          case rel => exact ⟨j + 1, by go_num, Lib.hid (by repeat (first | exact hb.out | apply below_drew | apply below_drewN | apply below_alloc | apply below_grow)), by omega, by omega⟩
        · have c2 : (k : Int) < (e2 : Int) := by omega
          have hh : hashTok k j = ⟨(f : Nat), (k : Nat), kOperator, ⟨#[35]⟩⟩ := by unfold hashTok; rw [if_neg (by omega), ← hf]
          rw [hh] at sg
          have g0 : wr.cell? ⟨ga, j * 4, none⟩ = some (.int .i64 (f : Nat)) := sg 0 _ (by decide) rfl
          have g1 : wr.cell? ⟨ga, j * 4 + 1, none⟩ = some (.int .i64 (k : Nat)) := sg 1 _ (by decide) rfl
          have g2 : wr.cell? ⟨ga, j * 4 + 2, none⟩ = some (.string ⟨#[79, 112, 101, 114, 97, 116, 111, 114]⟩) := sg 2 _ (by decide) rfl
          have g3 : wr.cell? ⟨ga, j * 4 + 3, none⟩ = some (.string ⟨#[35]⟩) := sg 3 _ (by decide) rfl
          clear sg hh htk hf he2 h2
          go_wp2_with fail
          go_roundg (P - j)
          case measure => omega
          case rel => exact ⟨j + 1, by go_num, Lib.hid (by repeat (first | exact hb.out | apply below_drew | apply below_drewN | apply below_alloc | apply below_grow)), by omega, by omega⟩
      · have j1 : ¬ (j : Int) < (P : Int) := by omega
        obtain rfl : j = P := by omega
        have a0 : ga < wr.heap.size := Nat.lt_of_lt_of_le hga hb.out.size
        have k0 : (k : Int) - 1 = ((k - 1 : Nat) : Int) := by omega
        have j0 : (0 : Int) ≤ (j : Int) := by omega
        have j2 : (j : Int) < (P1 : Int) := by have := HP1.out; omega
        have hil : j < l.length := by rw [Hlen.out, if_neg Hm.out]; omega
        obtain ⟨km, hkm⟩ : ∃ km, km = k + m := ⟨_, rfl⟩
        have km0 : (k : Int) + (m : Int) = (km : Int) := by omega
        have htk : l[j]'hil = ⟨(k : Nat), (km : Nat), kIdentifier, ⟨ds.toArray⟩⟩ := by
          have h : l[j]? = some ⟨(k : Nat), (km : Nat), kIdentifier, ⟨ds.toArray⟩⟩ := by
            rw [Hl.out, List.getElem?_append_right (by rw [Hgl.out]; exact Nat.le_refl _), Hgl.out, Nat.sub_self]
            unfold hashWord
            rw [if_neg Hm.out, Hword.out, hkm]
            rfl
          rw [List.getElem?_eq_getElem hil] at h
          exact Option.some.inj h
        have sg : ∀ x v, x < 4 → (tokCells (⟨(k : Nat), (km : Nat), kIdentifier, ⟨ds.toArray⟩⟩ : Tok))[x]? = some v → wr.cell? ⟨ga, j * 4 + x, none⟩ = some v := fun x v hx h => by
          rw [hb.out.cell hga]
          exact Hgr.out _ _ (by rw [flat_at tokCells (fun _ => rfl) l j hil x hx, htk]; exact h)
        have g0 : wr.cell? ⟨ga, j * 4, none⟩ = some (.int .i64 (k : Nat)) := sg 0 _ (by decide) rfl
        have g1 : wr.cell? ⟨ga, j * 4 + 1, none⟩ = some (.int .i64 (km : Nat)) := sg 1 _ (by decide) rfl
        have g2 : wr.cell? ⟨ga, j * 4 + 2, none⟩ = some (.string ⟨#[73, 100, 101, 110, 116, 105, 102, 105, 101, 114]⟩) := sg 2 _ (by decide) rfl
        obtain ⟨ww, hww⟩ : ∃ ww : ByteArray, ww = ⟨ds.toArray⟩ := ⟨_, rfl⟩
        have g3 : wr.cell? ⟨ga, j * 4 + 3, none⟩ = some (.string ww) := by rw [hww]; exact sg 3 _ (by decide) rfl
        have hcw := Hcvn.out (wr.alloc (.cells #[.int .i64 (k : Nat), .int .i64 (km : Nat), .string ⟨#[73, 100, 101, 110, 116, 105, 102, 105, 101, 114]⟩, .string ww] 38)) (((Hn2.out.keep hb24).keep hb.out).keep ((Below.refl _ _).alloc (Nat.le_refl _) _))
        rw [← hww] at hcw
        have ss := str_self ww
        have Hww := Lib.hid hww
        have Hkm := Lib.hid hkm
        -- the end
        have hil2 : Pa < l.length := by rw [Hlen.out, if_neg Hm.out, HPa.out]; omega
        obtain ⟨kk, hkk⟩ : ∃ kk, km - 1 = kk := ⟨_, rfl⟩
        have kk0 : (km : Int) - 1 = (kk : Int) := by omega
        have htk2 : l[Pa]'hil2 = eofTok km := by
          have h : l[Pa]? = some (eofTok km) := by
            rw [Hl.out, List.getElem?_append_right (by rw [Hgl.out, HPa.out]; omega), Hgl.out, HPa.out, show j + 1 - j = 1 by omega]
            unfold hashWord
            rw [if_neg Hm.out, hkm]
            rfl
          rw [List.getElem?_eq_getElem hil2] at h
          exact Option.some.inj h
        have sg2 : ∀ x v, x < 4 → (tokCells (eofTok km))[x]? = some v → wr.cell? ⟨ga, Pa * 4 + x, none⟩ = some v := fun x v hx h => by
          rw [hb.out.cell hga]
          exact Hgr.out _ _ (by rw [flat_at tokCells (fun _ => rfl) l Pa hil2 x hx, htk2]; exact h)
        have e0 : wr.cell? ⟨ga, Pa * 4, none⟩ = some (.int .i64 (kk : Nat)) := by rw [← hkk]; exact sg2 0 _ (by decide) rfl
        have e1 : wr.cell? ⟨ga, Pa * 4 + 1, none⟩ = some (.int .i64 (km : Nat)) := sg2 1 _ (by decide) rfl
        have e2 : wr.cell? ⟨ga, Pa * 4 + 2, none⟩ = some (.string ⟨#[69, 79, 70]⟩) := sg2 2 _ (by decide) rfl
        have e3 : wr.cell? ⟨ga, Pa * 4 + 3, none⟩ = some (.string ⟨#[]⟩) := sg2 3 _ (by decide) rfl
        have p0 : (0 : Int) ≤ (Pa : Int) := by omega
        have p1 : (Pa : Int) < (P1 : Int) := by have := HP1.out; have := HPa.out; omega
        have m1 := M1.out
        have m3 := M3.out
        clear sg sg2 htk htk2 hww hkm hkk
        go_wp2_with fail
        go_ret
        exact ⟨rfl, (by repeat (first | exact Hbw4.out.trans (hb.out.mono Hbw4.out.size) | apply below_drew | apply below_drewN | apply below_alloc | apply below_grow))⟩

set_option maxHeartbeats 1000000 in
set_option maxRecDepth 100000 in
theorem HR_walk {W : World} (hT : Tabs W) (F : Stop.Interp) (hF : F.answers W.tape) (k : Int) (s : ByteArray) (ws : s.size ≤ maxLen) (_ha0 : -9223372036854775808 ≤ k) (_ha1 : k ≤ 9223372036854775807) :
    Calls Tryf.prog 3 #[.int .i64 k, .string s] W fun e w' => e = .returned (.bool true) ∧ Below W.heap.size W w' := by
  have hz := zzBytes_HR k s W ws
  have Hz := Lib.hid hz
  clear hz
  by_cases c0 : k < 1
  · go_enter Tryf.func3, Tryf.ntmps3
    go_wp2_with fail
    refine Hz.out.mono ?_
    rintro e w' ⟨b, rfl, _, rfl⟩
    cases b
    · go_wp2_with fail
      go_ret
      exact ⟨rfl, Below.refl _ _⟩
    · go_wp2_with fail
      go_ret
      exact ⟨rfl, Below.refl _ _⟩
  by_cases c1 : (65536 : Int) < k
  · go_enter Tryf.func3, Tryf.ntmps3
    go_wp2_with fail
    refine Hz.out.mono ?_
    rintro e w' ⟨b, rfl, _, rfl⟩
    cases b
    · go_wp2_with fail
      go_ret
      exact ⟨rfl, Below.refl _ _⟩
    · go_wp2_with fail
      go_ret
      exact ⟨rfl, Below.refl _ _⟩
  by_cases c2 : (65536 : Int) < (s.size : Int)
  · go_enter Tryf.func3, Tryf.ntmps3
    go_wp2_with fail
    refine Hz.out.mono ?_
    rintro e w' ⟨b, rfl, _, rfl⟩
    cases b
    · go_wp2_with fail
      go_ret
      exact ⟨rfl, Below.refl _ _⟩
    · go_wp2_with fail
      go_ret
      exact ⟨rfl, Below.refl _ _⟩
  obtain ⟨n, rfl⟩ : ∃ n : Nat, k = (n : Int) := ⟨k.toNat, by omega⟩
  exact HR_in hT F hF n s (by omega) (by omega) (by omega)

end Go.Proofs.YtlgcocapondcmaaFmt
