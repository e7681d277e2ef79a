/-
  Plain texts, joined: Core Core2 Core3.
-/
import Derived.Test.YtdpdgppjeekcmaaFmtBase
import Derived.Deep.RegionHeld3
import Derived.Lib.OthersKept
namespace Go.Proofs.YtdpdgppjeekcmaaFmt
open Go Go.Lib Go.RowKit Go.Proofs

theorem source_String (s : ByteArray) (w : World) : Calls Tryf.prog 64 #[.agg #[.string s]] w fun e w' => e = .returned (.string s) ∧ w.alloc (.cells #[.string s] 56) = w' := by
  go_enter Tryf.func64, Tryf.ntmps64
  go_wp2
  go_ret
  exact ⟨rfl, rfl⟩

/-- DecodeRuneInString at s's bytes from i on. -/
theorem decode_tail (s : ByteArray) (i : Nat) (h : i < s.size) : Lib.decodeGo (s.extract i s.size) = Utf8.decode s i := by
  have e := decodeL_drop s i
  rw [← e]
  unfold Lib.decodeGo Lib.decodeL
  rw [if_neg (by simp; omega)]
  have h1 : (s.extract i s.size) = ⟨(s.data.toList.drop i).toArray⟩ := by
    apply ByteArray.ext
    apply Array.ext'
    rw [Lib.extract_to_end]
  rw [h1]
theorem decode_any {w : World} (hT : Tabs w) (s : ByteArray) (i : Nat) (h : i < s.size) :
    Calls Tryf.prog 65 #[.string (s.extract i s.size)] w fun e w' => e = .returned (.tuple #[.int .i32 (rAt s i), .int .i64 (wAt s i)]) ∧ ∃ xs d, w' = grow w xs d := by
  refine (Tryf.utf8_DecodeRuneInString _ _ hT.utf8).mono ?_
  rintro e w' ⟨rfl, hb⟩
  rw [decode_tail s i h]
  exact ⟨rfl, grow_of hb⟩

set_option maxRecDepth 100000 in
theorem next_any {W0 w : World} {S : Nat → Prop} {L : Nat} {s : ByteArray} {t : St} (H : Lx W0 S w L s t) :
    Calls Tryf.prog 33 #[.pointer (some ⟨L, 0, none⟩)] w fun e w' => e = .returned (.int .i32 (peek s t)) ∧ Done W0 S w L s (next s t) w' := by
  obtain ⟨R, ev, hL, hR, hc, hr, he, l0, c0, c1, c2, c3, c4, c5, c6, c7, c8, c9, fz⟩ := H.opened
  have hsm := H.small
  obtain ⟨p1, p2, p3, p4⟩ := H.poss
  have p5 : t.er ≤ 1099511627776 := by omega
  have l1 : L < w.heap.size + 1 := by omega
  have l2 : L < w.heap.size + 1 + 1 := by omega
  have l3 : L < w.heap.size + 1 + 1 + 1 := by omega
  by_cases hlt : t.eb < s.size
  · have b0 : (0 : Int) ≤ (t.eb : Int) := by omega
    have b1 : (t.eb : Int) ≤ (s.size : Int) := by omega
    have b2 := wAt_le s t.eb hlt
    have b3 := wAt_pos s t.eb hlt
    rw [next_in hlt]
    unfold peek
    rw [if_pos hlt]
    go_enter Tryf.func33, Tryf.ntmps33
    go_wp2_with fail
    go_region_held3 (fun w' => w'.cell? ⟨L, 1, none⟩ = some (.string s) ∧ w'.cell? ⟨L, 6, none⟩ = some (.int .i64 t.eb)) (go_keep) (first | (go_at_call 64; refine (source_String s _).mono ?_; rintro e w' ⟨rfl, rfl⟩))
    go_wp2_with fail
    go_region_held3 (fun w' => w'.cell? ⟨L, 1, none⟩ = some (.string s) ∧ w'.cell? ⟨L, 6, none⟩ = some (.int .i64 t.eb)) (first | go_keep | (constructor <;> exact cell_grow (by go_keep)))
      (first | (go_at_call 64; refine (source_String s _).mono ?_; rintro e w' ⟨rfl, rfl⟩) | (go_at_call 65; refine (decode_any (H.tabs.below (by repeat (first | exact H.low | apply below_drew | apply below_drewN | apply below_alloc | apply below_grow | (refine Below.setCell ?_ (H.old _ hL) _)))) s t.eb hlt).mono ?_; rintro e w' ⟨rfl, xs, d, rfl⟩))
    go_wp2_with fail
    go_ret
    refine ⟨rfl, Done.only H hL hR hr he (OnlyL.cast (by repeat (first | apply OnlyL.setCell | apply OnlyL.drew | apply OnlyL.drewN | apply OnlyL.alloc | apply OnlyL.grow | exact OnlyL.refl hc.out)) ?_) hc.out rfl rfl ?_⟩
    · simp [cellsL]
    · dsimp only; omega
  · rw [next_end hlt]
    unfold peek
    rw [if_neg hlt]
    go_enter Tryf.func33, Tryf.ntmps33
    go_wp2_with fail
    go_region_held3 (fun w' => w'.cell? ⟨L, 1, none⟩ = some (.string s) ∧ w'.cell? ⟨L, 6, none⟩ = some (.int .i64 t.eb)) (go_keep) (first | (go_at_call 64; refine (source_String s _).mono ?_; rintro e w' ⟨rfl, rfl⟩))
    go_wp2_with fail
    go_ret
    refine ⟨rfl, Done.only H hL hR hr he (OnlyL.cast (by repeat (first | apply OnlyL.setCell | apply OnlyL.drew | apply OnlyL.drewN | apply OnlyL.alloc | apply OnlyL.grow | exact OnlyL.refl hc.out)) ?_) hc.out rfl rfl ?_⟩
    · simp [cellsL]
    · dsimp only; omega
set_option maxRecDepth 100000 in
theorem peek_any {W0 w : World} {S : Nat → Prop} {L : Nat} {s : ByteArray} {t : St} (H : Lx W0 S w L s t) :
    Calls Tryf.prog 52 #[.pointer (some ⟨L, 0, none⟩)] w fun e w' => e = .returned (.int .i32 (peek s t)) ∧ ∃ xs d, w' = grow w xs d := by
  obtain ⟨R, ev, hL, hR, hc, hr, he, l0, c0, c1, c2, c3, c4, c5, c6, c7, c8, c9, fz⟩ := H.opened
  have hsm := H.small
  obtain ⟨p1, p2, p3, p4⟩ := H.poss
  have p5 : t.er ≤ 1099511627776 := by omega
  have l1 : L < w.heap.size + 1 := by omega
  have l2 : L < w.heap.size + 1 + 1 := by omega
  have l3 : L < w.heap.size + 1 + 1 + 1 := by omega
  by_cases hlt : t.eb < s.size
  · have b0 : (0 : Int) ≤ (t.eb : Int) := by omega
    have b1 : (t.eb : Int) ≤ (s.size : Int) := by omega
    unfold peek
    rw [if_pos hlt]
    go_enter Tryf.func52, Tryf.ntmps52
    go_wp2_with fail
    go_region_held3 (fun w' => w'.cell? ⟨L, 1, none⟩ = some (.string s) ∧ w'.cell? ⟨L, 6, none⟩ = some (.int .i64 t.eb)) (go_keep) (first | (go_at_call 64; refine (source_String s _).mono ?_; rintro e w' ⟨rfl, rfl⟩))
    go_wp2_with fail
    go_region_held3 (fun w' => w'.cell? ⟨L, 1, none⟩ = some (.string s) ∧ w'.cell? ⟨L, 6, none⟩ = some (.int .i64 t.eb)) (first | go_keep | (constructor <;> exact cell_grow (by go_keep)))
      (first | (go_at_call 64; refine (source_String s _).mono ?_; rintro e w' ⟨rfl, rfl⟩) | (go_at_call 65; refine (decode_any (H.tabs.below (by repeat (first | exact H.low | apply below_drew | apply below_drewN | apply below_alloc | apply below_grow | (refine Below.setCell ?_ (H.old _ hL) _)))) s t.eb hlt).mono ?_; rintro e w' ⟨rfl, xs, d, rfl⟩))
    go_wp2_with fail
    go_ret
    exact ⟨rfl, grow_of (by repeat (first | exact Below.refl _ _ | apply below_drew | apply below_drewN | apply below_alloc | apply below_grow))⟩
  · unfold peek
    rw [if_neg hlt]
    go_enter Tryf.func52, Tryf.ntmps52
    go_wp2_with fail
    go_region_held3 (fun w' => w'.cell? ⟨L, 1, none⟩ = some (.string s) ∧ w'.cell? ⟨L, 6, none⟩ = some (.int .i64 t.eb)) (go_keep) (first | (go_at_call 64; refine (source_String s _).mono ?_; rintro e w' ⟨rfl, rfl⟩))
    go_wp2_with fail
    go_ret
    exact ⟨rfl, grow_of (by repeat (first | exact Below.refl _ _ | apply below_drew | apply below_drewN | apply below_alloc | apply below_grow))⟩

theorem commit_any {W0 w : World} {S : Nat → Prop} {L : Nat} {s : ByteArray} {t : St} (H : Lx W0 S w L s t) :
    Calls Tryf.prog 79 #[.pointer (some ⟨L, 0, none⟩)] w fun e w' => e = .returned (.tuple #[]) ∧ Done W0 S w L s (commit t) w' := by
  obtain ⟨R, ev, hL, hR, hc, hr, he, l0, c0, c1, c2, c3, c4, c5, c6, c7, c8, c9, fz⟩ := H.opened
  have hsm := H.small
  obtain ⟨p1, p2, p3, p4⟩ := H.poss
  have p5 : t.er ≤ 1099511627776 := by omega
  have l1 : L < w.heap.size + 1 := by omega
  have l2 : L < w.heap.size + 1 + 1 := by omega
  have l3 : L < w.heap.size + 1 + 1 + 1 := by omega
  go_enter Tryf.func79, Tryf.ntmps79
  go_wp2_with fail
  go_end0
  refine ⟨rfl, Done.only H hL hR hr he (OnlyL.cast (by repeat (first | apply OnlyL.setCell | apply OnlyL.drew | apply OnlyL.drewN | apply OnlyL.alloc | apply OnlyL.grow | exact OnlyL.refl hc.out)) ?_) hc.out rfl rfl ?_⟩
  · simp [cellsL, commit]
  · dsimp only [commit]; omega

theorem skip_any {W0 w : World} {S : Nat → Prop} {L : Nat} {s : ByteArray} {t : St} (H : Lx W0 S w L s t) :
    Calls Tryf.prog 49 #[.pointer (some ⟨L, 0, none⟩)] w fun e w' => e = .returned (.tuple #[]) ∧ Done W0 S w L s (commit t) w' := by
  go_enter Tryf.func49, Tryf.ntmps49
  go_wp2_with fail
  refine (commit_any H).mono ?_
  rintro e w' ⟨rfl, hd⟩
  go_wp2_with fail
  go_end0
  exact ⟨rfl, hd⟩

set_option maxRecDepth 100000 in
theorem word_any {W0 w : World} {S : Nat → Prop} {L : Nat} {s : ByteArray} {t : St} (H : Lx W0 S w L s t) (hle : t.eb ≤ s.size) :
    Calls Tryf.prog 45 #[.pointer (some ⟨L, 0, none⟩)] w fun e w' => e = .returned (.string (word s t)) ∧ ∃ xs d, w' = grow w xs d := by
  obtain ⟨R, ev, hL, hR, hc, hr, he, l0, c0, c1, c2, c3, c4, c5, c6, c7, c8, c9, fz⟩ := H.opened
  have hsm := H.small
  obtain ⟨p1, p2, p3, p4⟩ := H.poss
  have p5 : t.er ≤ 1099511627776 := by omega
  have l1 : L < w.heap.size + 1 := by omega
  have l2 : L < w.heap.size + 1 + 1 := by omega
  have l3 : L < w.heap.size + 1 + 1 + 1 := by omega
  have b0 : (0 : Int) ≤ (t.eb : Int) := by omega
  have b1 : (t.eb : Int) ≤ (s.size : Int) := by omega
  have b2 : (0 : Int) ≤ (t.sb : Int) := by omega
  have b3 : (t.sb : Int) ≤ (t.eb : Int) := by omega
  unfold word
  go_enter Tryf.func45, Tryf.ntmps45
  go_wp2_with fail
  go_region_held3 (fun w' => w'.cell? ⟨L, 1, none⟩ = some (.string s) ∧ w'.cell? ⟨L, 4, none⟩ = some (.int .i64 t.sb) ∧ w'.cell? ⟨L, 6, none⟩ = some (.int .i64 t.eb)) (go_keep) (first | (go_at_call 64; refine (source_String s _).mono ?_; rintro e w' ⟨rfl, rfl⟩))
  go_wp2_with fail
  go_ret
  exact ⟨rfl, grow_of (by repeat (first | exact Below.refl _ _ | apply below_drew | apply below_drewN | apply below_alloc | apply below_grow))⟩

end Go.Proofs.YtdpdgppjeekcmaaFmt

/-
  Walks: backup, zzIndexRune, zzContainsRune, accept, acceptRun, skipSpaces.
-/
namespace Go.Proofs.YtdpdgppjeekcmaaFmt
open Go Go.Lib Go.RowKit Go.Proofs

theorem decodeLast_any {w : World} (hT : Tabs w) (s : ByteArray) (i : Nat) (h : i ≤ s.size) (hs : s.size ≤ 1099511627776) :
    Calls Tryf.prog 88 #[.string (s.extract 0 i)] w fun e w' => e = .returned (.tuple #[.int .i32 (decodeLastL (s.data.toList.take i)).1, .int .i64 (decodeLastL (s.data.toList.take i)).2]) ∧ ∃ xs d, w' = grow w xs d := by
  have e : (s.extract 0 i).data.toList = s.data.toList.take i := by rw [Lib.extract_data]; simp
  have hsz : (s.extract 0 i).size ≤ 9223372036854775807 := by simp; omega
  refine (Tryf.utf8_DecodeLastRuneInString _ _ hsz hT.utf8).mono ?_
  rintro e' w' ⟨rfl, hb⟩
  rw [e]
  exact ⟨rfl, grow_of hb⟩

theorem lastW_le (s : ByteArray) (i : Nat) : (decodeLastL (s.data.toList.take i)).2 ≤ i := by
  by_cases h : 0 < (s.data.toList.take i).length
  · have := (decodeLastL_width _ h).2
    rw [List.length_take] at this
    omega
  · have : s.data.toList.take i = [] := List.eq_nil_of_length_eq_zero (by omega)
    rw [this]
    exact Nat.zero_le _

set_option maxRecDepth 100000 in
theorem backup_any {W0 w : World} {S : Nat → Prop} {L : Nat} {s : ByteArray} {t : St} (H : Lx W0 S w L s t) (hle : t.eb ≤ s.size) (hbb : t.sb ≤ (backup s t).eb ∧ t.sr ≤ (backup s t).er ∧ (backup s t).er ≤ (backup s t).eb) :
    Calls Tryf.prog 54 #[.pointer (some ⟨L, 0, none⟩)] w fun e w' => e = .returned (.tuple #[]) ∧ Done W0 S w L s (backup s t) w' := by
  have hw := lastW_le s t.eb
  obtain ⟨R, ev, hL, hR, hc, hr, he, l0, c0, c1, c2, c3, c4, c5, c6, c7, c8, c9, fz⟩ := H.opened
  have hsm := H.small
  obtain ⟨p1, p2, p3, p4⟩ := H.poss
  have p5 : t.er ≤ 1099511627776 := by omega
  have l1 : L < w.heap.size + 1 := by omega
  have l2 : L < w.heap.size + 1 + 1 := by omega
  have l3 : L < w.heap.size + 1 + 1 + 1 := by omega
  have b0 : (0 : Int) ≤ (t.eb : Int) := by omega
  have b1 : (t.eb : Int) ≤ (s.size : Int) := by omega
  have hbe : (backup s t).eb ≤ 1099511627776 := by
    unfold backup; split
    · exact p2
    · split
      · dsimp only; omega
      · exact p2
  have hbs : (backup s t).sb = t.sb ∧ (backup s t).sr = t.sr ∧ (backup s t).toks = t.toks ∧ (backup s t).err = t.err := by
    unfold backup; split
    · exact ⟨rfl, rfl, rfl, rfl⟩
    · split <;> exact ⟨rfl, rfl, rfl, rfl⟩
  have hfin : ∀ w', OnlyL L 61 (cellsL s R ev (backup s t)) w w' → Done W0 S w L s (backup s t) w' := fun w' ho =>
    Done.only H hL hR hr he ho hc.out hbs.2.2.1 hbs.2.2.2 (by rw [hbs.1, hbs.2.1]; exact ⟨hbb.1, hbe, hbb.2.1, hbb.2.2⟩)
  cases heo : t.eof with
  | true =>
    rw [heo] at c8
    go_enter Tryf.func54, Tryf.ntmps54
    go_wp2_with fail
    go_end0
    refine ⟨rfl, hfin _ (OnlyL.cast (by repeat (first | apply OnlyL.setCell | apply OnlyL.drew | apply OnlyL.drewN | apply OnlyL.alloc | apply OnlyL.grow | exact OnlyL.refl hc.out)) ?_)⟩
    simp [cellsL, backup, heo]
  | false =>
    rw [heo] at c8
    by_cases hr0 : 0 < t.er
    · have d0 : (0 : Int) < (t.er : Int) := by omega
      obtain ⟨k, hk⟩ : ∃ k, (decodeLastL (s.data.toList.take t.eb)).2 = k := ⟨_, rfl⟩
      have hk1 : (k : Int) ≤ (t.eb : Int) := by omega
      have Hk := Lib.hid hk
      clear hk
      have Hh := Lib.hid heo
      clear heo hbs hbb hw
      go_enter Tryf.func54, Tryf.ntmps54
      go_wp2_with fail
      go_region_held3 (fun w' => w'.cell? ⟨L, 1, none⟩ = some (.string s) ∧ w'.cell? ⟨L, 6, none⟩ = some (.int .i64 t.eb)) (first | go_keep | (constructor <;> exact cell_grow (by go_keep)))
        (first | (go_at_call 64; refine (source_String s _).mono ?_; rintro e w' ⟨rfl, rfl⟩) | (go_at_call 88; refine (decodeLast_any (H.tabs.below (by repeat (first | exact H.low | apply below_drew | apply below_drewN | apply below_alloc | apply below_grow | (refine Below.setCell ?_ (H.old _ hL) _)))) s t.eb hle hsm).mono ?_; rintro e w' ⟨rfl, xs, d, rfl⟩; rw [Hk.out]))
      go_wp2_with fail
      go_end0
      refine ⟨rfl, hfin _ (OnlyL.cast (by repeat (first | apply OnlyL.setCell | apply OnlyL.drew | apply OnlyL.drewN | apply OnlyL.alloc | apply OnlyL.grow | exact OnlyL.refl hc.out)) ?_)⟩
      have h1 := Hh.out
      have h2 := Hk.out
      have e1 : ((t.eb - k : Nat) : Int) = (t.eb : Int) - k := by omega
      have e2 : ((t.er - 1 : Nat) : Int) = (t.er : Int) - 1 := by omega
      simp [cellsL, backup, h1, h2, hr0, e1, e2]
    · have d0 : ¬ (0 : Int) < (t.er : Int) := by omega
      have Hh := Lib.hid heo
      clear heo
      go_enter Tryf.func54, Tryf.ntmps54
      go_wp2_with fail
      go_end0
      refine ⟨rfl, hfin _ (OnlyL.cast (by repeat (first | apply OnlyL.setCell | apply OnlyL.drew | apply OnlyL.drewN | apply OnlyL.alloc | apply OnlyL.grow | exact OnlyL.refl hc.out)) ?_)⟩
      have h1 := Hh.out
      simp [cellsL, backup, h1, hr0]

end Go.Proofs.YtdpdgppjeekcmaaFmt

/-
  Walks: zzIndexRune, zzContainsRune, accept, acceptRun, skipSpaces.
-/
namespace Go.Proofs.YtdpdgppjeekcmaaFmt
open Go Go.Lib Go.RowKit Go.Proofs

/-- What zzIndexRune comes to: an index that is at least 0 just where the rune is there. -/
def IdxPost (v : ByteArray) (r : Int) (w : World) (e : Ending) (w' : World) : Prop := ∃ n : Int, e = .returned (.int .i64 n) ∧ decide (0 ≤ n) = has v r ∧ Below w.heap.size w w'

theorem runesFrom_end (v : ByteArray) (f i : Nat) (h : ¬ i < v.size) : runesFrom v f i = [] := by
  cases f with
  | zero => rfl
  | succ f => simp [runesFrom, h]

set_option maxRecDepth 100000 in
theorem indexRune_no (v : ByteArray) (r : Int) (w : World) (h0 : -2147483648 ≤ r) (h1 : r ≤ 2147483647) (hne : r ≠ 65533) (hbad : r < 0 ∨ 1114111 < r ∨ (55296 ≤ r ∧ r ≤ 57343)) :
    Calls Tryf.prog 91 #[.string v, .int .i32 r] w (IdxPost v r w) := by
  have hh : has v r = false := by
    unfold has okRune
    simp only [Bool.and_eq_false_iff]
    left
    simp
    omega
  have t1 : (r != 65533) = true := by simpa using hne
  have Hh := Lib.hid hh
  have Hn := Lib.hid hne
  clear hh hne
  have fin : IdxPost v r w (.returned (.int .i64 (-1))) w := ⟨-1, rfl, by rw [Hh.out]; rfl, Below.refl _ _⟩
  rcases hbad with h | h | ⟨h, h'⟩
  · go_enter Tryf.func91, Tryf.ntmps91
    go_wp2_with fail
    go_ret
    exact fin
  · have h2 : ¬ r < 0 := by omega
    go_enter Tryf.func91, Tryf.ntmps91
    go_wp2_with fail
    go_ret
    exact fin
  · have h2 : ¬ r < 0 := by omega
    have h3 : ¬ 1114111 < r := by omega
    go_enter Tryf.func91, Tryf.ntmps91
    go_wp2_with fail
    go_ret
    exact fin

set_option maxHeartbeats 1000000 in
set_option maxRecDepth 100000 in
theorem indexRune_yes (v : ByteArray) (r : Int) (w : World) (ht : (r != 65533) = false ∨ ((r != 65533) = true ∧ 0 ≤ r ∧ r ≤ 1114111 ∧ (r < 55296 ∨ (55296 ≤ r ∧ 57343 < r)))) :
    Calls Tryf.prog 91 #[.string v, .int .i32 r] w (IdxPost v r w) := by
  have hok : has v r = (runesOf v).contains r := by
    have : okRune r = true := by
      unfold okRune
      rcases ht with h | ⟨_, h1, h2, h3⟩
      · have : r = 65533 := by simpa using h
        simp [this]
      · simp; omega
    unfold has; rw [this]; rfl
  have Hok := Lib.hid hok
  clear hok
  have Hs := Lib.hid (rfl : runesFrom v v.size 0 = runesOf v)
  rcases ht with h | ⟨h, h1, h2, h3 | ⟨h3, h4⟩⟩
  · go_enter Tryf.func91, Tryf.ntmps91
    go_wp2_with fail
    go_loopg [] v.size (fun g wr => ∃ pos, wr.heap[w.heap.size]? = some (.stringIter v pos) ∧ Below w.heap.size w wr ∧ Hid ((runesFrom v g pos).contains r = (runesOf v).contains r) ∧ v.size ≤ pos + g)
    case atStart => exact ⟨0, World.iter_heap w v 0, Below.alloc (Below.refl _ _) (Nat.le_refl _) _, Lib.hid rfl, by omega⟩
    case round =>
      obtain ⟨pos, hit, hbw, hcon, hfu⟩ := hrel
      have hsz : w.heap.size < wr.heap.size := (Array.getElem?_eq_some_iff.1 hit).1
      by_cases hp : pos < v.size
      · have hnx : ∀ ty, (Instr.next (.pointer (some ⟨w.heap.size, 0, none⟩)) true ty).run Tryf.prog wr = _ := fun ty => Lib.run_next_any_at wr w.heap.size v pos ty hit hp
        have hbw2 := Lib.below_iterAt hbw (k := w.heap.size) (Nat.le_refl _) v (pos + (Utf8.decode v pos).2)
        have hit2 := Lib.iterAt_heap wr w.heap.size v pos (pos + (Utf8.decode v pos).2) hit
        have hwd := wAt_pos v pos hp
        obtain ⟨g', rfl⟩ : ∃ g', gk = g' + 1 := ⟨gk - 1, by omega⟩
        obtain ⟨x, hx⟩ : ∃ x : Int, x = ((Utf8.decode v pos).1 : Int) := ⟨_, rfl⟩
        by_cases hcr : x = r
        · have hd : ((((Utf8.decode v pos).1 : Nat) : Int) == r) = true := by rw [← hx, hcr]; simp
          have Hc := Lib.hid hcr
          have Hx := Lib.hid hx
          clear hcr hx
          go_wp2_with fail
          go_ret
          refine ⟨pos, rfl, ?_, hbw2⟩
          rw [Hok.out, ← hcon.out]
          simp [runesFrom, hp, rAt, ← Hx.out, Hc.out]
        · have hd : ((((Utf8.decode v pos).1 : Nat) : Int) == r) = false := by rw [← hx]; simpa using hcr
          have Hc := Lib.hid hcr
          have Hx := Lib.hid hx
          clear hcr hx
          go_wp2_with fail
          go_roundg g'
          case measure => omega
          case rel =>
            refine ⟨pos + (Utf8.decode v pos).2, hit2, hbw2, Lib.hid ?_, by unfold wAt at hwd; omega⟩
            rw [← hcon.out]
            have h1 := Hc.out
            have h2 := Hx.out
            have h3 : ¬ r = ((Utf8.decode v pos).1 : Int) := fun e => h1 (h2.trans e.symm)
            simp [runesFrom, hp, rAt, wAt, h3]
      · have hnx : ∀ ty, (Instr.next (.pointer (some ⟨w.heap.size, 0, none⟩)) true ty).run Tryf.prog wr = _ := fun ty => Lib.run_next_end_at wr w.heap.size v pos ty hit hp
        go_wp2_with fail
        go_ret
        refine ⟨-1, rfl, ?_, hbw⟩
        rw [Hok.out, ← hcon.out, runesFrom_end v gk pos hp]
        rfl
  · go_enter Tryf.func91, Tryf.ntmps91
    go_wp2_with fail
    go_loopg [] v.size (fun g wr => ∃ pos, wr.heap[w.heap.size]? = some (.stringIter v pos) ∧ Below w.heap.size w wr ∧ Hid ((runesFrom v g pos).contains r = (runesOf v).contains r) ∧ v.size ≤ pos + g)
    case atStart => exact ⟨0, World.iter_heap w v 0, Below.alloc (Below.refl _ _) (Nat.le_refl _) _, Lib.hid rfl, by omega⟩
    case round =>
      obtain ⟨pos, hit, hbw, hcon, hfu⟩ := hrel
      have hsz : w.heap.size < wr.heap.size := (Array.getElem?_eq_some_iff.1 hit).1
      by_cases hp : pos < v.size
      · have hnx : ∀ ty, (Instr.next (.pointer (some ⟨w.heap.size, 0, none⟩)) true ty).run Tryf.prog wr = _ := fun ty => Lib.run_next_any_at wr w.heap.size v pos ty hit hp
        have hbw2 := Lib.below_iterAt hbw (k := w.heap.size) (Nat.le_refl _) v (pos + (Utf8.decode v pos).2)
        have hit2 := Lib.iterAt_heap wr w.heap.size v pos (pos + (Utf8.decode v pos).2) hit
        have hwd := wAt_pos v pos hp
        obtain ⟨g', rfl⟩ : ∃ g', gk = g' + 1 := ⟨gk - 1, by omega⟩
        obtain ⟨x, hx⟩ : ∃ x : Int, x = ((Utf8.decode v pos).1 : Int) := ⟨_, rfl⟩
        by_cases hcr : x = r
        · have hd : ((((Utf8.decode v pos).1 : Nat) : Int) == r) = true := by rw [← hx, hcr]; simp
          have Hc := Lib.hid hcr
          have Hx := Lib.hid hx
          clear hcr hx
          go_wp2_with fail
          go_ret
          refine ⟨pos, rfl, ?_, hbw2⟩
          rw [Hok.out, ← hcon.out]
          simp [runesFrom, hp, rAt, ← Hx.out, Hc.out]
        · have hd : ((((Utf8.decode v pos).1 : Nat) : Int) == r) = false := by rw [← hx]; simpa using hcr
          have Hc := Lib.hid hcr
          have Hx := Lib.hid hx
          clear hcr hx
          go_wp2_with fail
          go_roundg g'
          case measure => omega
          case rel =>
            refine ⟨pos + (Utf8.decode v pos).2, hit2, hbw2, Lib.hid ?_, by unfold wAt at hwd; omega⟩
            rw [← hcon.out]
            have h1 := Hc.out
            have h2 := Hx.out
            have h3 : ¬ r = ((Utf8.decode v pos).1 : Int) := fun e => h1 (h2.trans e.symm)
            simp [runesFrom, hp, rAt, wAt, h3]
      · have hnx : ∀ ty, (Instr.next (.pointer (some ⟨w.heap.size, 0, none⟩)) true ty).run Tryf.prog wr = _ := fun ty => Lib.run_next_end_at wr w.heap.size v pos ty hit hp
        go_wp2_with fail
        go_ret
        refine ⟨-1, rfl, ?_, hbw⟩
        rw [Hok.out, ← hcon.out, runesFrom_end v gk pos hp]
        rfl
  · go_enter Tryf.func91, Tryf.ntmps91
    go_wp2_with fail
    go_loopg [] v.size (fun g wr => ∃ pos, wr.heap[w.heap.size]? = some (.stringIter v pos) ∧ Below w.heap.size w wr ∧ Hid ((runesFrom v g pos).contains r = (runesOf v).contains r) ∧ v.size ≤ pos + g)
    case atStart => exact ⟨0, World.iter_heap w v 0, Below.alloc (Below.refl _ _) (Nat.le_refl _) _, Lib.hid rfl, by omega⟩
    case round =>
      obtain ⟨pos, hit, hbw, hcon, hfu⟩ := hrel
      have hsz : w.heap.size < wr.heap.size := (Array.getElem?_eq_some_iff.1 hit).1
      by_cases hp : pos < v.size
      · have hnx : ∀ ty, (Instr.next (.pointer (some ⟨w.heap.size, 0, none⟩)) true ty).run Tryf.prog wr = _ := fun ty => Lib.run_next_any_at wr w.heap.size v pos ty hit hp
        have hbw2 := Lib.below_iterAt hbw (k := w.heap.size) (Nat.le_refl _) v (pos + (Utf8.decode v pos).2)
        have hit2 := Lib.iterAt_heap wr w.heap.size v pos (pos + (Utf8.decode v pos).2) hit
        have hwd := wAt_pos v pos hp
        obtain ⟨g', rfl⟩ : ∃ g', gk = g' + 1 := ⟨gk - 1, by omega⟩
        obtain ⟨x, hx⟩ : ∃ x : Int, x = ((Utf8.decode v pos).1 : Int) := ⟨_, rfl⟩
        by_cases hcr : x = r
        · have hd : ((((Utf8.decode v pos).1 : Nat) : Int) == r) = true := by rw [← hx, hcr]; simp
          have Hc := Lib.hid hcr
          have Hx := Lib.hid hx
          clear hcr hx
          go_wp2_with fail
          go_ret
          refine ⟨pos, rfl, ?_, hbw2⟩
          rw [Hok.out, ← hcon.out]
          simp [runesFrom, hp, rAt, ← Hx.out, Hc.out]
        · have hd : ((((Utf8.decode v pos).1 : Nat) : Int) == r) = false := by rw [← hx]; simpa using hcr
          have Hc := Lib.hid hcr
          have Hx := Lib.hid hx
          clear hcr hx
          go_wp2_with fail
          go_roundg g'
          case measure => omega
          case rel =>
            refine ⟨pos + (Utf8.decode v pos).2, hit2, hbw2, Lib.hid ?_, by unfold wAt at hwd; omega⟩
            rw [← hcon.out]
            have h1 := Hc.out
            have h2 := Hx.out
            have h3 : ¬ r = ((Utf8.decode v pos).1 : Int) := fun e => h1 (h2.trans e.symm)
            simp [runesFrom, hp, rAt, wAt, h3]
      · have hnx : ∀ ty, (Instr.next (.pointer (some ⟨w.heap.size, 0, none⟩)) true ty).run Tryf.prog wr = _ := fun ty => Lib.run_next_end_at wr w.heap.size v pos ty hit hp
        go_wp2_with fail
        go_ret
        refine ⟨-1, rfl, ?_, hbw⟩
        rw [Hok.out, ← hcon.out, runesFrom_end v gk pos hp]
        rfl

theorem contains_any (v : ByteArray) (r : Int) (w : World) (h0 : -2147483648 ≤ r) (h1 : r ≤ 2147483647) :
    Calls Tryf.prog 59 #[.string v, .int .i32 r] w fun e w' => e = .returned (.bool (has v r)) ∧ ∃ xs d, w' = grow w xs d := by
  have hi : Calls Tryf.prog 91 #[.string v, .int .i32 r] w (IdxPost v r w) := by
    by_cases hbad : r ≠ 65533 ∧ (r < 0 ∨ 1114111 < r ∨ (55296 ≤ r ∧ r ≤ 57343))
    · exact indexRune_no v r w h0 h1 hbad.1 hbad.2
    · refine indexRune_yes v r w ?_
      by_cases h : r = 65533
      · left; simp [h]
      · right
        refine ⟨by simpa using h, ?_⟩
        have : ¬ (r < 0 ∨ 1114111 < r ∨ (55296 ≤ r ∧ r ≤ 57343)) := fun e => hbad ⟨h, e⟩
        omega
  have Hi := Lib.hid hi
  clear hi
  cases hh : has v r with
  | true =>
    have Hh := Lib.hid hh
    clear hh
    go_enter Tryf.func59, Tryf.ntmps59
    go_wp2_with fail
    refine Hi.out.mono ?_
    rintro e w' ⟨n, rfl, hn, hb⟩
    rw [Hh.out] at hn
    go_wp2_with fail
    go_ret
    exact ⟨rfl, grow_of hb⟩
  | false =>
    have Hh := Lib.hid hh
    clear hh
    go_enter Tryf.func59, Tryf.ntmps59
    go_wp2_with fail
    refine Hi.out.mono ?_
    rintro e w' ⟨n, rfl, hn, hb⟩
    rw [Hh.out] at hn
    go_wp2_with fail
    go_ret
    exact ⟨rfl, grow_of hb⟩

theorem accept_any {W0 w : World} {S : Nat → Prop} {L : Nat} {s v : ByteArray} {t : St} (H : Lx W0 S w L s t) :
    Calls Tryf.prog 58 #[.pointer (some ⟨L, 0, none⟩), .string v] w fun e w' => e = .returned (.bool (acceptB v s t)) ∧ Done W0 S w L s (accept v s t) w' := by
  have hp0 := peek_lo s t
  have hp1 := peek_hi s t
  cases hh : has v (peek s t) with
  | true =>
    have e1 : acceptB v s t = true := hh
    have e2 : accept v s t = next s t := by unfold accept; rw [e1]; rfl
    rw [e1, e2]
    have Hh := Lib.hid hh
    clear hh e1 e2
    go_enter Tryf.func58, Tryf.ntmps58
    go_wp2_with fail
    refine (peek_any H).mono ?_
    rintro e w1 ⟨rfl, xs, d, rfl⟩
    go_wp2_with fail
    refine (contains_any v (peek s t) _ (by omega) (by omega)).mono ?_
    rintro e w2 ⟨rfl, xs2, d2, rfl⟩
    rw [Hh.out]
    go_wp2_with fail
    refine (next_any (H.keep (by repeat (first | exact Below.refl _ _ | apply below_drew | apply below_drewN | apply below_alloc | apply below_grow)))).mono ?_
    rintro e w3 ⟨rfl, hd⟩
    go_wp2_with fail
    go_ret
    exact ⟨rfl, Done.trans (fun _ h => .inl h) (Fr.of_below (by repeat (first | exact Below.refl _ _ | apply below_drew | apply below_drewN | apply below_alloc | apply below_grow))) hd⟩
  | false =>
    have e1 : acceptB v s t = false := hh
    have e2 : accept v s t = t := by unfold accept; rw [e1]; rfl
    rw [e1, e2]
    have Hh := Lib.hid hh
    clear hh e1 e2
    go_enter Tryf.func58, Tryf.ntmps58
    go_wp2_with fail
    refine (peek_any H).mono ?_
    rintro e w1 ⟨rfl, xs, d, rfl⟩
    go_wp2_with fail
    refine (contains_any v (peek s t) _ (by omega) (by omega)).mono ?_
    rintro e w2 ⟨rfl, xs2, d2, rfl⟩
    rw [Hh.out]
    go_wp2_with fail
    go_ret
    exact ⟨rfl, Done.below H (by repeat (first | exact Below.refl _ _ | apply below_drew | apply below_drewN | apply below_alloc | apply below_grow))⟩

theorem acceptRun_eq (v s : ByteArray) (t : St) : acceptRun v s t = if acceptB v s t = true then acceptRun v s (accept v s t) else t := by
  rw [acceptRun]
  unfold accept
  split
  · rename_i h
    have : acceptB v s t = true := h
    rw [if_pos this, this]; rfl
  · rename_i h
    have : ¬ acceptB v s t = true := h
    rw [if_neg this]

theorem acceptB_gt {v s : ByteArray} {t : St} (h : acceptB v s t = true) : s.size - (accept v s t).eb < s.size - t.eb := by
  unfold accept
  rw [h]
  exact peek_sub (has_ne h)

theorem acceptRun_any {W0 w : World} {S : Nat → Prop} {L : Nat} {s v : ByteArray} {t : St} (H : Lx W0 S w L s t) :
    Calls Tryf.prog 76 #[.pointer (some ⟨L, 0, none⟩), .string v] w fun e w' => e = .returned (.tuple #[]) ∧ Done W0 S w L s (acceptRun v s t) w' := by
  go_enter Tryf.func76, Tryf.ntmps76
  go_wp2_with fail
  go_loopg [] (s.size - t.eb + 1) (fun g wr => ∃ S1 t1, (∀ k, S1 k → S k ∨ w.heap.size ≤ k) ∧ Fr S w wr ∧ Lx W0 S1 wr L s t1 ∧ Hid (acceptRun v s t1 = acceptRun v s t) ∧ s.size - t1.eb < g)
  case atStart => exact ⟨S, t, fun _ h => .inl h, Fr.refl _ _, H, Lib.hid rfl, by omega⟩
  case round =>
    obtain ⟨S1, t1, hS1, hf, H1, heq, hg⟩ := hrel
    go_wp2_with fail
    refine (accept_any H1).mono ?_
    rintro e w2 ⟨rfl, S2, hS2, H2, hf2⟩
    cases hb : acceptB v s t1 with
    | true =>
      have hlt := acceptB_gt hb
      have e2 := acceptRun_eq v s t1
      rw [if_pos hb] at e2
      have heq2 : Hid (acceptRun v s (accept v s t1) = acceptRun v s t) := Lib.hid (e2.symm.trans heq.out)
      clear e2 hb
      go_wp2_with fail
      go_roundg (s.size - (accept v s t1).eb + 1)
      case measure => omega
      case rel => exact ⟨S2, accept v s t1, fun k hk => (hS2 k hk).elim (hS1 k) (fun h => .inr (Nat.le_trans hf.size h)), hf.trans hf2 hS1, H2, heq2, by omega⟩
    | false =>
      have e2 := acceptRun_eq v s t1
      rw [if_neg (by rw [hb]; decide)] at e2
      have e3 : accept v s t1 = t1 := by unfold accept; rw [hb]; rfl
      rw [e3] at H2
      have hfin : Done W0 S w L s (acceptRun v s t) w2 := by
        rw [← heq.out, e2]
        exact Done.trans hS1 hf ⟨S2, hS2, H2, hf2⟩
      clear e2 e3 hb
      go_wp2_with fail
      go_end0
      exact ⟨rfl, hfin⟩

theorem skipSpaces_any {W0 w : World} {S : Nat → Prop} {L : Nat} {s : ByteArray} {t : St} (H : Lx W0 S w L s t) :
    Calls Tryf.prog 109 #[.pointer (some ⟨L, 0, none⟩)] w fun e w' => e = .returned (.tuple #[]) ∧ Done W0 S w L s (skipSpaces s t) w' := by
  go_enter Tryf.func109, Tryf.ntmps109
  go_wp2_with fail
  refine (acceptRun_any H).mono ?_
  rintro e w1 ⟨rfl, S1, hS1, H1, hf1⟩
  go_wp2_with fail
  refine (skip_any H1).mono ?_
  rintro e w2 ⟨rfl, hd⟩
  go_wp2_with fail
  go_end0
  exact ⟨rfl, Done.trans hS1 hf1 hd⟩

end Go.Proofs.YtdpdgppjeekcmaaFmt
