/-
  A quoted text without escapes: what scanString, unescape and root make of it. No program stands in this text.
-/
import Derived.Test.YtdpdgppjeekcmaaFmtJB
import Derived.Test.YtdpdgppjeekcmaaFmtJA
namespace Go.Proofs.YtdpdgppjeekcmaaFmt
open Go Go.Lib

/-- The law's own model: CR as LF, a byte that begins no rune as U+FFFD. -/
def normGo (s : ByteArray) (i : Nat) : List UInt8 :=
  if _h : i < s.size then (if byt s i = 13 then 10 :: normGo s (i + 1) else oneOut s i ++ normGo s (i + wAt s i)) else []
termination_by s.size - i
decreasing_by
  · omega
  · have := wAt_pos s i _h; omega
theorem normGo_end {s : ByteArray} {i : Nat} (h : ¬ i < s.size) : normGo s i = [] := by rw [normGo, dif_neg h]
theorem normGo_cr {s : ByteArray} {i : Nat} (h : i < s.size) (h13 : byt s i = 13) : normGo s i = 10 :: normGo s (i + 1) := by rw [normGo, dif_pos h, if_pos h13]
theorem normGo_step {s : ByteArray} {i : Nat} (h : i < s.size) (h13 : byt s i ≠ 13) : normGo s i = oneOut s i ++ normGo s (i + wAt s i) := by rw [normGo, dif_pos h, if_neg h13]

def cr8 (b : UInt8) : UInt8 := if b = 13 then 10 else b
theorem cr8_map : AsciiMap cr8 := ⟨fun b hb => by
  unfold cr8
  rw [if_neg]
  intro e; subst e; exact absurd hb (by decide), fun b hb => by
  unfold cr8
  split
  · decide
  · exact hb⟩
/-- Where no LF stands, newlines turns CR into LF. -/
theorem newl_map {s : ByteArray} (h : ∀ x, x < s.size → byt s x ≠ 10) : ∀ (f i : Nat), s.size ≤ i + f → newl s f i = (s.data.toList.drop i).map cr8 := by
  intro f
  induction f with
  | zero =>
    intro i hi
    have : s.data.toList.drop i = [] := List.drop_eq_nil_of_le (by have := Lib.size_eq s; omega)
    rw [this]; rfl
  | succ f ih =>
    intro i hi
    rw [newl]
    by_cases hl : i < s.size
    · rw [if_pos hl]
      have hll : i < s.data.toList.length := by have := Lib.size_eq s; omega
      rw [List.drop_eq_getElem_cons hll, List.map_cons]
      have hg : s.data.toList[i]'hll = s[i]'hl := rfl
      rw [hg]
      by_cases h13 : byt s i = 13
      · have e13 : s[i]'hl = 13 := by
          rw [byt_of hl] at h13
          exact UInt8.toNat_inj.1 h13
        have hn : ¬ (i + 1 < s.size ∧ byt s (i + 1) = 10) := fun hh => h (i + 1) hh.1 hh.2
        rw [if_pos h13, if_neg hn, ih (i + 1) (by omega), e13]
        rfl
      · have e13 : ¬ s[i]'hl = 13 := by
          intro e
          rw [byt_of hl, e] at h13
          exact h13 rfl
        have hget : s.get! i = s[i]'hl := by
          have h' : i < s.data.size := hl
          simp only [ByteArray.get!, ByteArray.getElem_eq_getElem_data, Array.getElem!_eq_getD, Array.getD]
          rw [dif_pos h']
          rfl
        rw [if_neg h13, ih (i + 1) (by omega), hget]
        unfold cr8
        rw [if_neg e13]
    · rw [if_neg hl]
      have : s.data.toList.drop i = [] := List.drop_eq_nil_of_le (by have := Lib.size_eq s; omega)
      rw [this]; rfl
theorem newlines_map {s : ByteArray} (h : ∀ x, x < s.size → byt s x ≠ 10) : newlines s = mapS cr8 s := by
  unfold newlines bs mapS
  rw [newl_map h _ _ (by omega)]
  apply ByteArray.ext
  apply Array.ext'
  simp

/-- unescapeChar where no backslash stands. -/
theorem uChar_plain {s : ByteArray} (h92 : byt s 0 ≠ 92) : uChar s = some (if 128 ≤ byt s 0 then (rAt s 0, true, wAt s 0) else ((byt s 0 : Int), false, 1)) := by
  unfold uChar
  by_cases h : 128 ≤ byt s 0
  · rw [if_pos h, if_pos h]
  · rw [if_neg h, if_neg h, if_pos h92]
theorem encodeRune_ascii {n : Nat} (h : n < 128) : encodeRune (n : Int) = [UInt8.ofNat n] := by
  unfold encodeRune
  rw [encodeRuneZ_one (by omega) (by omega)]
  simp
/-- The loop of unescape over a text without backslashes, from byte i of v on. -/
theorem uGo_plain {v : ByteArray} (h92 : ∀ x, x < v.size → byt v x ≠ 92) (out : Nat → List UInt8) (hout : ∀ i, i < v.size → out i = (if 128 ≤ byt v i then encodeRune (rAt v i) else [UInt8.ofNat (byt v i)]) ++ out (i + wAt v i)) (hend : out v.size = []) :
    ∀ (f i : Nat) (acc : List UInt8), v.size ≤ i + f → i ≤ v.size → uGo uChar (f + 1) (v.extract i v.size) acc = some (acc ++ out i) := by
  intro f
  induction f with
  | zero =>
    intro i acc h1 h2
    obtain rfl : i = v.size := by omega
    rw [uGo, if_pos (by rw [ByteArray.size_extract]; omega), hend, List.append_nil]
  | succ f ih =>
    intro i acc h1 h2
    by_cases hl : i < v.size
    · have hsz : (v.extract i v.size).size = v.size - i := by rw [ByteArray.size_extract]; omega
      have hb0 : byt (v.extract i v.size) 0 = byt v i := by
        rw [byt_of (s := v.extract i v.size) (k := 0) (by omega), byt_of hl]
        congr 1
        rw [ByteArray.getElem_extract]
        rfl
      have hd := dec_suffix (A := v) (i := i) (j := 0)
      rw [Nat.add_zero] at hd
      have hwp := wAt_pos v i hl
      have hwl := wAt_le v i hl
      have hext : ∀ k, i + k ≤ v.size → (v.extract i v.size).extract k (v.extract i v.size).size = v.extract (i + k) v.size := fun k hk => by
        apply ByteArray.ext
        apply Array.ext'
        rw [Lib.extract_to_end, Lib.extract_to_end, Lib.extract_to_end, List.drop_drop]
      have hout' := hout i hl
      rw [uGo, if_neg (by omega), uChar_plain (by rw [hb0]; exact h92 i hl), hb0, hd.1, hd.2]
      by_cases h8 : 128 ≤ byt v i
      · rw [if_pos h8] at hout' ⊢
        dsimp only
        have hr : 128 ≤ rAt v i := rAt_high hl (by rw [← byt_of hl]; exact h8)
        have ho : outOf (rAt v i) true = encodeRune (rAt v i) := by unfold outOf; rw [if_neg (by simp; omega)]
        rw [hext _ hwl, ih (i + wAt v i) _ (by omega) hwl, ho, hout', List.append_assoc]
      · rw [if_neg h8] at hout' ⊢
        dsimp only
        have hw1 := (dec1 (s := v) (i := i) (by omega)).2
        rw [hw1] at hout'
        have hb := byt_lt v i
        have ho : outOf (byt v i : Int) false = [UInt8.ofNat (byt v i)] := by
          unfold outOf
          rw [if_pos (.inr rfl), show (((byt v i : Nat) : Int) % 256).toNat = byt v i by omega]
        rw [hext 1 (by omega), ih (i + 1) _ (by omega) (by omega), ho, hout', List.append_assoc]
    · obtain rfl : i = v.size := by omega
      rw [uGo, if_pos (by rw [ByteArray.size_extract]; omega), hend, List.append_nil]

/-- unescape over the body with CR as LF is the law's model. -/
theorem unesc_body {body : ByteArray} (h92 : ∀ x, x < body.size → byt body x ≠ 92) : ∀ f, body.size ≤ f → uGo uChar (f + 1) (mapS cr8 body) [] = some (normGo body 0) := by
  intro f hf
  have hsz := mapS_size cr8 body
  have hbyt : ∀ i, i < body.size → byt (mapS cr8 body) i = if byt body i = 13 then 10 else byt body i := fun i hi => by
    rw [byt_map hi, byt_of hi]
    unfold cr8
    by_cases e : body[i]'hi = 13
    · rw [if_pos e, if_pos (by rw [e]; rfl)]; rfl
    · have e' : ¬ (body[i]'hi).toNat = 13 := fun e2 => e (UInt8.toNat_inj.1 e2)
      rw [if_neg e, if_neg e']
  have key := uGo_plain (v := mapS cr8 body) (fun x hx => by
    rw [hsz] at hx
    rw [hbyt x hx]
    have := h92 x hx
    split <;> omega) (normGo body) (fun i hi => by
    rw [hsz] at hi
    have hd := dec_map cr8_map hi
    rw [hbyt i hi, hd.1]
    by_cases h13 : byt body i = 13
    · rw [normGo_cr hi h13, if_pos h13, if_neg (by omega), (dec1 (s := body) (i := i) (by omega)).2]
      rfl
    · rw [normGo_step hi h13, if_neg h13]
      by_cases h8 : 128 ≤ byt body i
      · rw [if_pos h8, hd.2 h8, encode_at hi]
      · rw [if_neg h8, ← encode_at hi, (dec1 (s := body) (i := i) (by omega)).1, encodeRune_ascii (by omega)]) (normGo_end (by rw [hsz]; omega)) f 0 [] (by rw [hsz]; omega) (by omega)
  rw [List.nil_append] at key
  have e : (mapS cr8 body).extract 0 (mapS cr8 body).size = mapS cr8 body := by
    apply ByteArray.ext
    apply Array.ext'
    rw [Lib.extract_to_end]; rfl
  rw [e] at key
  exact key

/-! ### the scan -/
/-- scanString over what bears no quote of its kind, no backslash, no newline, up to the quote at e. -/
theorem scan_plain {s : ByteArray} {q : Nat} (hq8 : q < 128) (hq : (q : Int) ≠ -1) (_hq2 : q ≠ 10 ∧ q ≠ 92) {e N : Nat} (he : e < s.size) (hqe : byt s e = q) (hN : Bd s e N) :
    ∀ (k n : Nat) (t : St), e - t.eb = k → Bd s t.eb t.er → t.eb ≤ e → (∀ x, t.eb ≤ x → x < e → byt s x ≠ q ∧ byt s x ≠ 92 ∧ byt s x ≠ 10) → ∃ n', scanStr s q hq n (peek s t) (next s t) = (n', { t with eb := e + 1, er := N + 1 }) := by
  intro k
  induction k using Nat.strongRecOn with
  | _ k ih =>
  intro n t hk hb hle hno
  have hl : t.eb < s.size := by omega
  by_cases hte : t.eb = e
  · have h8 : byt s t.eb < 128 := by rw [hte]; omega
    have hp : peek s t = (q : Int) := by
      unfold peek
      rw [if_pos hl, (dec1 h8).1, hte, hqe]
    have hN2 : t.er = N := by rw [hte] at hb; exact hb.cnt_inj hN
    refine ⟨n, ?_⟩
    rw [scanStr_st, hp, if_pos rfl, next_in hl, (dec1 h8).2, hte, hN2]
  · have hb1 := hb.step hl
    have hwp := wAt_pos s t.eb hl
    have hout : t.eb + wAt s t.eb ≤ e := by rcases hN.out hb with h | h | h <;> omega
    have hne : ∀ c : Nat, c < 128 → byt s t.eb ≠ c → peek s t ≠ (c : Int) := fun c hc hn hp => by
      unfold peek at hp
      rw [if_pos hl] at hp
      by_cases h8 : byt s t.eb < 128
      · rw [(dec1 h8).1] at hp; omega
      · have := rAt_high hl (by rw [← byt_of hl]; omega); omega
    have h0 := hno t.eb (Nat.le_refl _) (by omega)
    have hpm : peek s t ≠ -1 := by have := peek_nonneg hl; omega
    obtain ⟨n', h'⟩ := ih (e - (t.eb + wAt s t.eb)) (by omega) (n + 1) (next s t) (by rw [next_in hl]) (by rw [next_in hl]; exact hb1) (by rw [next_in hl]; exact hout) (fun x h1 h2 => hno x (by rw [next_in hl] at h1; change t.eb + wAt s t.eb ≤ x at h1; omega) h2)
    refine ⟨n', ?_⟩
    have h10 : peek s t ≠ 10 := hne 10 (by decide) h0.2.2
    have h92 : peek s t ≠ 92 := hne 92 (by decide) h0.2.1
    rw [scanStr_st, if_neg (hne q hq8 h0.1), if_neg (by rintro (h | h); exact h10 h; exact hpm h), if_neg h92, h', next_in hl]

/-- THE LAW: root at a quoted text without escapes. -/
theorem plain_root {body rest : ByteArray} {q : Nat} (hq : q = 39 ∨ q = 34) (Q : ByteArray) (hQ : Q.size = 1) (hQb : byt Q 0 = q)
    (hno : ∀ x, x < body.size → byt body x ≠ q ∧ byt body x ≠ 92 ∧ byt body x ≠ 10) (hlim : body.size ≤ 65536) :
    root (Q ++ body ++ Q ++ rest) ⟨some .root, 0, 0, 0, 0, false, false, none, []⟩ =
      (some .root, ⟨some .root, body.size + 2, runesTo body 0 + 2, body.size + 2, runesTo body 0 + 2, false, false, none, [⟨0, (runesTo body 0 + 2 : Nat), kString, ⟨(normGo body 0).toArray⟩⟩]⟩) := by
  obtain ⟨s, hs⟩ : ∃ s, s = Q ++ body ++ Q ++ rest := ⟨_, rfl⟩
  rw [← hs]
  have hA : (Q ++ body).size = body.size + 1 := by rw [ByteArray.size_append]; omega
  have hAQ : (Q ++ body ++ Q).size = body.size + 2 := by rw [ByteArray.size_append]; omega
  have hsz : s.size = body.size + 2 + rest.size := by rw [hs, ByteArray.size_append, hAQ]
  have hq8 : q < 128 := by omega
  have hqm : (q : Int) ≠ -1 := by omega
  have b0 : byt s 0 = q := by rw [hs, byt_l (by omega), byt_l (by omega), byt_l (by omega)]; exact hQb
  have bb : ∀ x, x < body.size → byt s (x + 1) = byt body x := fun x hx => by
    rw [hs, byt_l (by omega), byt_l (by omega), show x + 1 = Q.size + x by omega, byt_r hx]
  have be : byt s (body.size + 1) = q := by
    have := byt_r (A := Q ++ body) (B := Q) (k := 0) (by omega)
    rw [hs, byt_l (by omega), show body.size + 1 = (Q ++ body).size + 0 by omega, this]; exact hQb
  -- boundaries
  have bd1 : Bd s 1 1 := by
    have := Bd.step (.zero : Bd s 0 0) (by omega)
    rw [(dec1 (s := s) (i := 0) (by omega)).2] at this
    exact this
  have hs2 : s = Q ++ (body ++ (Q ++ rest)) := by rw [hs, ByteArray.append_assoc, ByteArray.append_assoc]
  have bdE : Bd s (body.size + 1) (runesTo body 0 + 1) := by
    have h1 := bd_prefix (A := body) (B := Q ++ rest) (fun _ => by rw [byt_l (by omega)]; omega) (bd_count body)
    have h2 := bd_right (A := Q) (B := body ++ (Q ++ rest)) (a := 1) (by rw [hQ, ← hs2]; exact bd1) h1
    rw [← hs2, hQ] at h2
    rw [Nat.add_comm body.size 1, Nat.add_comm (runesTo body 0) 1]
    exact h2
  obtain ⟨t0, ht0⟩ : ∃ t0 : St, t0 = ⟨some .root, 0, 0, 0, 0, false, false, none, []⟩ := ⟨_, rfl⟩
  have e0 : t0.eb = 0 := by rw [ht0]
  have hp : peek s t0 = (q : Int) := by
    unfold peek
    rw [e0, if_pos (by omega), (dec1 (s := s) (i := 0) (by omega)).1, b0]
  have hn : next s t0 = { t0 with er := 1, eb := 1 } := by
    rw [next_in (by omega), e0, (dec1 (s := s) (i := 0) (by omega)).2, ht0]
  obtain ⟨n', hscan⟩ := scan_plain (s := s) hq8 hqm ⟨by omega, by omega⟩ (e := body.size + 1) (N := runesTo body 0 + 1) (by omega) be bdE (body.size + 1 - 1) 0 { t0 with er := 1, eb := 1 } rfl bd1 (by show 1 ≤ _; omega) (fun x h1 h2 => by
    change 1 ≤ x at h1
    obtain ⟨y, rfl⟩ : ∃ y, x = y + 1 := ⟨x - 1, by omega⟩
    rw [bb y (by omega)]
    exact hno y (by omega))
  have hss : scanString s q hqm (next s t0) = (n', { t0 with eb := body.size + 2, er := runesTo body 0 + 2 }) := by
    unfold scanString
    rw [hn]
    exact hscan
  -- its word
  have hword : word s { t0 with eb := body.size + 2, er := runesTo body 0 + 2 } = Q ++ body ++ Q := by
    unfold word
    have : t0.sb = 0 := by rw [ht0]
    apply ByteArray.ext
    apply Array.ext'
    rw [Lib.extract_data]
    show List.take (body.size + 2 - t0.sb) (List.drop t0.sb s.data.toList) = _
    rw [this, List.drop_zero, hs, toList_app, Nat.sub_zero, show body.size + 2 = (Q ++ body ++ Q).data.toList.length by have := Lib.size_eq (Q ++ body ++ Q); omega, List.take_left]
  obtain ⟨W, hW⟩ : ∃ W, W = Q ++ body ++ Q := ⟨_, rfl⟩
  have hWs : W.size = body.size + 2 := by rw [hW, hAQ]
  have w0 : byt W 0 = q := by rw [hW, byt_l (by omega), byt_l (by omega)]; exact hQb
  have wb : ∀ x, x < body.size → byt W (x + 1) = byt body x := fun x hx => by rw [hW, byt_l (by omega), show x + 1 = Q.size + x by omega, byt_r hx]
  have we : byt W (body.size + 1) = q := by
    have := byt_r (A := Q ++ body) (B := Q) (k := 0) (by omega)
    rw [hW, show body.size + 1 = (Q ++ body).size + 0 by omega, this]; exact hQb
  have hno10 : ∀ x, x < W.size → byt W x ≠ 10 := fun x hx => by
    by_cases h1 : x = 0
    · subst h1; omega
    · by_cases h2 : x = body.size + 1
      · subst h2; omega
      · obtain ⟨y, rfl⟩ : ∃ y, x = y + 1 := ⟨x - 1, by omega⟩
        rw [wb y (by omega)]
        exact (hno y (by omega)).2.2
  have hnl := newlines_map hno10
  have hms := mapS_size cr8 W
  have hcr : ∀ c : UInt8, c.toNat = q → (cr8 c).toNat = q := fun c hc => by
    unfold cr8
    rw [if_neg (by intro e; subst e; change 13 = q at hc; omega)]; exact hc
  have m0 : byt (mapS cr8 W) 0 = q := by rw [byt_map (by omega)]; exact hcr _ (by rw [← byt_of (by omega : 0 < W.size)]; exact w0)
  have me : byt (mapS cr8 W) (body.size + 1) = q := by rw [byt_map (by omega)]; exact hcr _ (by rw [← byt_of (by omega : body.size + 1 < W.size)]; exact we)
  have hmid : (mapS cr8 W).extract 1 (body.size + 1) = mapS cr8 body := by
    apply ByteArray.ext
    apply Array.ext'
    rw [Lib.extract_data]
    have hl : W.data.toList = Q.data.toList ++ (body.data.toList ++ Q.data.toList) := by rw [hW, toList_app, toList_app, List.append_assoc]
    have hQl : Q.data.toList.length = 1 := by have := Lib.size_eq Q; omega
    have hbl : body.data.toList.length = body.size := by have := Lib.size_eq body; omega
    show List.take (body.size + 1 - 1) (List.drop 1 (W.data.map cr8).toList) = (body.data.map cr8).toList
    rw [Array.toList_map, Array.toList_map, hl, List.map_append, List.map_append, show (1 : Nat) = (Q.data.toList.map cr8).length by rw [List.length_map, hQl], List.drop_left, show body.size + (Q.data.toList.map cr8).length - (Q.data.toList.map cr8).length = (body.data.toList.map cr8).length by rw [List.length_map, List.length_map]; omega, List.take_left]
  have hun : unesc uChar W = (true, ⟨(normGo body 0).toArray⟩) := by
    unfold unesc
    rw [hnl]
    dsimp only
    rw [hms, hWs, if_neg (by omega), show body.size + 2 - 1 = body.size + 1 by omega, m0, me, if_neg (by omega), hmid, unesc_body (fun x hx => (hno x hx).2.1) (body.size + 1) (by omega)]
    rfl
  have hext : W.extract 0 W.size = W := by
    apply ByteArray.ext
    apply Array.ext'
    rw [Lib.extract_to_end]; rfl
  have hstr : ∀ hx : (q : Int) ≠ -1, rootStr uChar kString 0 s q hx (next s t0) = ⟨some .root, body.size + 2, runesTo body 0 + 2, body.size + 2, runesTo body 0 + 2, false, false, none, [⟨0, (runesTo body 0 + 2 : Nat), kString, ⟨(normGo body 0).toArray⟩⟩]⟩ := by
    intro hx
    unfold rootStr
    rw [hss]
    dsimp only
    rw [hword, ← hW, hext, hun, ht0]
    rfl
  have hs39 : isSpaceZ 39 = false := by decide
  have hs34 : isSpaceZ 34 = false := by decide
  rw [← ht0]
  unfold root
  rw [hp]
  rcases hq with rfl | rfl
  · rw [if_neg (by decide), if_neg (by rw [show ((39 : Nat) : Int) = 39 from rfl, hs39]; decide), if_pos (by decide)]
    exact congrArg (Prod.mk _) (hstr (by decide))
  · rw [if_neg (by decide), if_neg (by rw [show ((34 : Nat) : Int) = 34 from rfl, hs34]; decide), if_neg (by decide), if_pos (by decide)]
    exact congrArg (Prod.mk _) (hstr (by decide))

end Go.Proofs.YtdpdgppjeekcmaaFmt
