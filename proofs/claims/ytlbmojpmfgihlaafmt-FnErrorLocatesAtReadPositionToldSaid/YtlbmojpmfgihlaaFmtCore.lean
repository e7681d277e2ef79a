import Derived.Test.YtlbmojpmfgihlaaFmtBase
import Derived.Deep.RegionHeld3
namespace Go.Proofs.YtlbmojpmfgihlaaFmt
open Go Go.Lib Go.RowKit Go.Proofs

theorem source_String (s : ByteArray) (w : World) : Calls Tryf.prog 39 #[.agg #[.string s]] w fun e w' => e = .returned (.string s) ∧ w.alloc (.cells #[.string s] 43) = w' := by
  go_enter Tryf.func39, Tryf.ntmps39
  go_wp2
  go_ret
  exact ⟨rfl, rfl⟩

/-- DecodeRuneInString at s's bytes from i on. -/
theorem decode_tail (s : ByteArray) (i : Nat) (h : i < s.size) : Lib.decodeGo (s.extract i s.size) = Utf8.decode s i := by
  have e := decodeL_drop s i
  rw [← e]
  unfold Lib.decodeGo Lib.decodeL
  rw [if_neg (by simp; omega)]
  have h1 : (s.extract i s.size) = ⟨(s.data.toList.drop i).toArray⟩ := by
    apply ByteArray.ext
    apply Array.ext'
    rw [Lib.extract_to_end]
  rw [h1]
theorem decode_any {w : World} (hT : Tabs w) (s : ByteArray) (i : Nat) (h : i < s.size) :
    Calls Tryf.prog 40 #[.string (s.extract i s.size)] w fun e w' => e = .returned (.tuple #[.int .i32 (rAt s i), .int .i64 (wAt s i)]) ∧ ∃ xs d, w' = grow w xs d := by
  refine (Tryf.utf8_DecodeRuneInString _ _ hT.utf8).mono ?_
  rintro e w' ⟨rfl, hb⟩
  rw [decode_tail s i h]
  exact ⟨rfl, grow_of hb⟩

set_option maxRecDepth 100000 in
theorem next_any {W0 w : World} {S : Nat → Prop} {L : Nat} {s : ByteArray} {t : St} (H : Lx W0 S w L s t) :
    Calls Tryf.prog 31 #[.pointer (some ⟨L, 0, none⟩)] w fun e w' => e = .returned (.int .i32 (peek s t)) ∧ Done W0 S w L s (next s t) w' := by
  obtain ⟨R, ev, hL, hR, hc, hr, he, l0, c0, c1, c2, c3, c4, c5, c6, c7, c8, c9, fz⟩ := H.opened
  have hsm := H.small
  obtain ⟨p1, p2, p3, p4⟩ := H.poss
  have p5 : t.er ≤ 1099511627776 := by omega
  have l1 : L < w.heap.size + 1 := by omega
  have l2 : L < w.heap.size + 1 + 1 := by omega
  have l3 : L < w.heap.size + 1 + 1 + 1 := by omega
  by_cases hlt : t.eb < s.size
  · have b0 : (0 : Int) ≤ (t.eb : Int) := by omega
    have b1 : (t.eb : Int) ≤ (s.size : Int) := by omega
    have b2 := wAt_le s t.eb hlt
    have b3 := wAt_pos s t.eb hlt
    rw [next_in hlt]
    unfold peek
    rw [if_pos hlt]
    go_enter Tryf.func31, Tryf.ntmps31
    go_wp2_with fail
    go_region_held3 (fun w' => w'.cell? ⟨L, 1, none⟩ = some (.string s) ∧ w'.cell? ⟨L, 6, none⟩ = some (.int .i64 t.eb)) (go_keep) (first | (go_at_call 39; refine (source_String s _).mono ?_; rintro e w' ⟨rfl, rfl⟩))
    go_wp2_with fail
    go_region_held3 (fun w' => w'.cell? ⟨L, 1, none⟩ = some (.string s) ∧ w'.cell? ⟨L, 6, none⟩ = some (.int .i64 t.eb)) (first | go_keep | (constructor <;> exact cell_grow (by go_keep)))
      (first | (go_at_call 39; refine (source_String s _).mono ?_; rintro e w' ⟨rfl, rfl⟩) | (go_at_call 40; refine (decode_any (H.tabs.below (by repeat (first | exact H.low | apply below_drew | apply below_drewN | apply below_alloc | apply below_grow | (refine Below.setCell ?_ (H.old _ hL) _)))) s t.eb hlt).mono ?_; rintro e w' ⟨rfl, xs, d, rfl⟩))
    go_wp2_with fail
    go_ret
    refine ⟨rfl, Done.only H hL hR hr he (OnlyL.cast (by repeat (first | apply OnlyL.setCell | apply OnlyL.drew | apply OnlyL.drewN | apply OnlyL.alloc | apply OnlyL.grow | exact OnlyL.refl hc.out)) ?_) hc.out rfl rfl ?_⟩
    · simp [cellsL]
    · dsimp only; omega
  · rw [next_end hlt]
    unfold peek
    rw [if_neg hlt]
    go_enter Tryf.func31, Tryf.ntmps31
    go_wp2_with fail
    go_region_held3 (fun w' => w'.cell? ⟨L, 1, none⟩ = some (.string s) ∧ w'.cell? ⟨L, 6, none⟩ = some (.int .i64 t.eb)) (go_keep) (first | (go_at_call 39; refine (source_String s _).mono ?_; rintro e w' ⟨rfl, rfl⟩))
    go_wp2_with fail
    go_ret
    refine ⟨rfl, Done.only H hL hR hr he (OnlyL.cast (by repeat (first | apply OnlyL.setCell | apply OnlyL.drew | apply OnlyL.drewN | apply OnlyL.alloc | apply OnlyL.grow | exact OnlyL.refl hc.out)) ?_) hc.out rfl rfl ?_⟩
    · simp [cellsL]
    · dsimp only; omega
set_option maxRecDepth 100000 in
theorem peek_any {W0 w : World} {S : Nat → Prop} {L : Nat} {s : ByteArray} {t : St} (H : Lx W0 S w L s t) :
    Calls Tryf.prog 38 #[.pointer (some ⟨L, 0, none⟩)] w fun e w' => e = .returned (.int .i32 (peek s t)) ∧ ∃ xs d, w' = grow w xs d := by
  obtain ⟨R, ev, hL, hR, hc, hr, he, l0, c0, c1, c2, c3, c4, c5, c6, c7, c8, c9, fz⟩ := H.opened
  have hsm := H.small
  obtain ⟨p1, p2, p3, p4⟩ := H.poss
  have p5 : t.er ≤ 1099511627776 := by omega
  have l1 : L < w.heap.size + 1 := by omega
  have l2 : L < w.heap.size + 1 + 1 := by omega
  have l3 : L < w.heap.size + 1 + 1 + 1 := by omega
  by_cases hlt : t.eb < s.size
  · have b0 : (0 : Int) ≤ (t.eb : Int) := by omega
    have b1 : (t.eb : Int) ≤ (s.size : Int) := by omega
    unfold peek
    rw [if_pos hlt]
    go_enter Tryf.func38, Tryf.ntmps38
    go_wp2_with fail
    go_region_held3 (fun w' => w'.cell? ⟨L, 1, none⟩ = some (.string s) ∧ w'.cell? ⟨L, 6, none⟩ = some (.int .i64 t.eb)) (go_keep) (first | (go_at_call 39; refine (source_String s _).mono ?_; rintro e w' ⟨rfl, rfl⟩))
    go_wp2_with fail
    go_region_held3 (fun w' => w'.cell? ⟨L, 1, none⟩ = some (.string s) ∧ w'.cell? ⟨L, 6, none⟩ = some (.int .i64 t.eb)) (first | go_keep | (constructor <;> exact cell_grow (by go_keep)))
      (first | (go_at_call 39; refine (source_String s _).mono ?_; rintro e w' ⟨rfl, rfl⟩) | (go_at_call 40; refine (decode_any (H.tabs.below (by repeat (first | exact H.low | apply below_drew | apply below_drewN | apply below_alloc | apply below_grow | (refine Below.setCell ?_ (H.old _ hL) _)))) s t.eb hlt).mono ?_; rintro e w' ⟨rfl, xs, d, rfl⟩))
    go_wp2_with fail
    go_ret
    exact ⟨rfl, grow_of (by repeat (first | exact Below.refl _ _ | apply below_drew | apply below_drewN | apply below_alloc | apply below_grow))⟩
  · unfold peek
    rw [if_neg hlt]
    go_enter Tryf.func38, Tryf.ntmps38
    go_wp2_with fail
    go_region_held3 (fun w' => w'.cell? ⟨L, 1, none⟩ = some (.string s) ∧ w'.cell? ⟨L, 6, none⟩ = some (.int .i64 t.eb)) (go_keep) (first | (go_at_call 39; refine (source_String s _).mono ?_; rintro e w' ⟨rfl, rfl⟩))
    go_wp2_with fail
    go_ret
    exact ⟨rfl, grow_of (by repeat (first | exact Below.refl _ _ | apply below_drew | apply below_drewN | apply below_alloc | apply below_grow))⟩

theorem commit_any {W0 w : World} {S : Nat → Prop} {L : Nat} {s : ByteArray} {t : St} (H : Lx W0 S w L s t) :
    Calls Tryf.prog 65 #[.pointer (some ⟨L, 0, none⟩)] w fun e w' => e = .returned (.tuple #[]) ∧ Done W0 S w L s (commit t) w' := by
  obtain ⟨R, ev, hL, hR, hc, hr, he, l0, c0, c1, c2, c3, c4, c5, c6, c7, c8, c9, fz⟩ := H.opened
  have hsm := H.small
  obtain ⟨p1, p2, p3, p4⟩ := H.poss
  have p5 : t.er ≤ 1099511627776 := by omega
  have l1 : L < w.heap.size + 1 := by omega
  have l2 : L < w.heap.size + 1 + 1 := by omega
  have l3 : L < w.heap.size + 1 + 1 + 1 := by omega
  go_enter Tryf.func65, Tryf.ntmps65
  go_wp2_with fail
  go_end0
  refine ⟨rfl, Done.only H hL hR hr he (OnlyL.cast (by repeat (first | apply OnlyL.setCell | apply OnlyL.drew | apply OnlyL.drewN | apply OnlyL.alloc | apply OnlyL.grow | exact OnlyL.refl hc.out)) ?_) hc.out rfl rfl ?_⟩
  · simp [cellsL, commit]
  · dsimp only [commit]; omega

theorem skip_any {W0 w : World} {S : Nat → Prop} {L : Nat} {s : ByteArray} {t : St} (H : Lx W0 S w L s t) :
    Calls Tryf.prog 44 #[.pointer (some ⟨L, 0, none⟩)] w fun e w' => e = .returned (.tuple #[]) ∧ Done W0 S w L s (commit t) w' := by
  go_enter Tryf.func44, Tryf.ntmps44
  go_wp2_with fail
  refine (commit_any H).mono ?_
  rintro e w' ⟨rfl, hd⟩
  go_wp2_with fail
  go_end0
  exact ⟨rfl, hd⟩

set_option maxRecDepth 100000 in
theorem word_any {W0 w : World} {S : Nat → Prop} {L : Nat} {s : ByteArray} {t : St} (H : Lx W0 S w L s t) (hle : t.eb ≤ s.size) :
    Calls Tryf.prog 47 #[.pointer (some ⟨L, 0, none⟩)] w fun e w' => e = .returned (.string (word s t)) ∧ ∃ xs d, w' = grow w xs d := by
  obtain ⟨R, ev, hL, hR, hc, hr, he, l0, c0, c1, c2, c3, c4, c5, c6, c7, c8, c9, fz⟩ := H.opened
  have hsm := H.small
  obtain ⟨p1, p2, p3, p4⟩ := H.poss
  have p5 : t.er ≤ 1099511627776 := by omega
  have l1 : L < w.heap.size + 1 := by omega
  have l2 : L < w.heap.size + 1 + 1 := by omega
  have l3 : L < w.heap.size + 1 + 1 + 1 := by omega
  have b0 : (0 : Int) ≤ (t.eb : Int) := by omega
  have b1 : (t.eb : Int) ≤ (s.size : Int) := by omega
  have b2 : (0 : Int) ≤ (t.sb : Int) := by omega
  have b3 : (t.sb : Int) ≤ (t.eb : Int) := by omega
  unfold word
  go_enter Tryf.func47, Tryf.ntmps47
  go_wp2_with fail
  go_region_held3 (fun w' => w'.cell? ⟨L, 1, none⟩ = some (.string s) ∧ w'.cell? ⟨L, 4, none⟩ = some (.int .i64 t.sb) ∧ w'.cell? ⟨L, 6, none⟩ = some (.int .i64 t.eb)) (go_keep) (first | (go_at_call 39; refine (source_String s _).mono ?_; rintro e w' ⟨rfl, rfl⟩))
  go_wp2_with fail
  go_ret
  exact ⟨rfl, grow_of (by repeat (first | exact Below.refl _ _ | apply below_drew | apply below_drewN | apply below_alloc | apply below_grow))⟩

end Go.Proofs.YtlbmojpmfgihlaaFmt
