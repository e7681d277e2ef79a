/-
  Walks: backup, zzIndexRune, zzContainsRune, accept, acceptRun, skipSpaces.
-/
import Derived.Test.YtlbmojpmfgihlaaFmtCore
namespace Go.Proofs.YtlbmojpmfgihlaaFmt
open Go Go.Lib Go.RowKit Go.Proofs

theorem decodeLast_any {w : World} (hT : Tabs w) (s : ByteArray) (i : Nat) (h : i ≤ s.size) (hs : s.size ≤ 1099511627776) :
    Calls Tryf.prog 77 #[.string (s.extract 0 i)] w fun e w' => e = .returned (.tuple #[.int .i32 (decodeLastL (s.data.toList.take i)).1, .int .i64 (decodeLastL (s.data.toList.take i)).2]) ∧ ∃ xs d, w' = grow w xs d := by
  have e : (s.extract 0 i).data.toList = s.data.toList.take i := by rw [Lib.extract_data]; simp
  have hsz : (s.extract 0 i).size ≤ 9223372036854775807 := by simp; omega
  refine (Tryf.utf8_DecodeLastRuneInString _ _ hsz hT.utf8).mono ?_
  rintro e' w' ⟨rfl, hb⟩
  rw [e]
  exact ⟨rfl, grow_of hb⟩

theorem lastW_le (s : ByteArray) (i : Nat) : (decodeLastL (s.data.toList.take i)).2 ≤ i := by
  by_cases h : 0 < (s.data.toList.take i).length
  · have := (decodeLastL_width _ h).2
    rw [List.length_take] at this
    omega
  · have : s.data.toList.take i = [] := List.eq_nil_of_length_eq_zero (by omega)
    rw [this]
    exact Nat.zero_le _

set_option maxRecDepth 100000 in
theorem backup_any {W0 w : World} {S : Nat → Prop} {L : Nat} {s : ByteArray} {t : St} (H : Lx W0 S w L s t) (hle : t.eb ≤ s.size) (hbb : t.sb ≤ (backup s t).eb ∧ t.sr ≤ (backup s t).er ∧ (backup s t).er ≤ (backup s t).eb) :
    Calls Tryf.prog 51 #[.pointer (some ⟨L, 0, none⟩)] w fun e w' => e = .returned (.tuple #[]) ∧ Done W0 S w L s (backup s t) w' := by
  have hw := lastW_le s t.eb
  obtain ⟨R, ev, hL, hR, hc, hr, he, l0, c0, c1, c2, c3, c4, c5, c6, c7, c8, c9, fz⟩ := H.opened
  have hsm := H.small
  obtain ⟨p1, p2, p3, p4⟩ := H.poss
  have p5 : t.er ≤ 1099511627776 := by omega
  have l1 : L < w.heap.size + 1 := by omega
  have l2 : L < w.heap.size + 1 + 1 := by omega
  have l3 : L < w.heap.size + 1 + 1 + 1 := by omega
  have b0 : (0 : Int) ≤ (t.eb : Int) := by omega
  have b1 : (t.eb : Int) ≤ (s.size : Int) := by omega
  have hbe : (backup s t).eb ≤ 1099511627776 := by
    unfold backup; split
    · exact p2
    · split
      · dsimp only; omega
      · exact p2
  have hbs : (backup s t).sb = t.sb ∧ (backup s t).sr = t.sr ∧ (backup s t).toks = t.toks ∧ (backup s t).err = t.err := by
    unfold backup; split
    · exact ⟨rfl, rfl, rfl, rfl⟩
    · split <;> exact ⟨rfl, rfl, rfl, rfl⟩
  have hfin : ∀ w', OnlyL L 56 (cellsL s R ev (backup s t)) w w' → Done W0 S w L s (backup s t) w' := fun w' ho =>
    Done.only H hL hR hr he ho hc.out hbs.2.2.1 hbs.2.2.2 (by rw [hbs.1, hbs.2.1]; exact ⟨hbb.1, hbe, hbb.2.1, hbb.2.2⟩)
  cases heo : t.eof with
  | true =>
    rw [heo] at c8
    go_enter Tryf.func51, Tryf.ntmps51
    go_wp2_with fail
    go_end0
    refine ⟨rfl, hfin _ (OnlyL.cast (by repeat (first | apply OnlyL.setCell | apply OnlyL.drew | apply OnlyL.drewN | apply OnlyL.alloc | apply OnlyL.grow | exact OnlyL.refl hc.out)) ?_)⟩
    simp [cellsL, backup, heo]
  | false =>
    rw [heo] at c8
    by_cases hr0 : 0 < t.er
    · have d0 : (0 : Int) < (t.er : Int) := by omega
      obtain ⟨k, hk⟩ : ∃ k, (decodeLastL (s.data.toList.take t.eb)).2 = k := ⟨_, rfl⟩
      have hk1 : (k : Int) ≤ (t.eb : Int) := by omega
      have Hk := Lib.hid hk
      clear hk
      have Hh := Lib.hid heo
      clear heo hbs hbb hw
      go_enter Tryf.func51, Tryf.ntmps51
      go_wp2_with fail
      go_region_held3 (fun w' => w'.cell? ⟨L, 1, none⟩ = some (.string s) ∧ w'.cell? ⟨L, 6, none⟩ = some (.int .i64 t.eb)) (first | go_keep | (constructor <;> exact cell_grow (by go_keep)))
        (first | (go_at_call 39; refine (source_String s _).mono ?_; rintro e w' ⟨rfl, rfl⟩) | (go_at_call 77; refine (decodeLast_any (H.tabs.below (by repeat (first | exact H.low | apply below_drew | apply below_drewN | apply below_alloc | apply below_grow | (refine Below.setCell ?_ (H.old _ hL) _)))) s t.eb hle hsm).mono ?_; rintro e w' ⟨rfl, xs, d, rfl⟩; rw [Hk.out]))
      go_wp2_with fail
      go_end0
      refine ⟨rfl, hfin _ (OnlyL.cast (by repeat (first | apply OnlyL.setCell | apply OnlyL.drew | apply OnlyL.drewN | apply OnlyL.alloc | apply OnlyL.grow | exact OnlyL.refl hc.out)) ?_)⟩
      have h1 := Hh.out
      have h2 := Hk.out
      have e1 : ((t.eb - k : Nat) : Int) = (t.eb : Int) - k := by omega
      have e2 : ((t.er - 1 : Nat) : Int) = (t.er : Int) - 1 := by omega
      simp [cellsL, backup, h1, h2, hr0, e1, e2]
    · have d0 : ¬ (0 : Int) < (t.er : Int) := by omega
      have Hh := Lib.hid heo
      clear heo
      go_enter Tryf.func51, Tryf.ntmps51
      go_wp2_with fail
      go_end0
      refine ⟨rfl, hfin _ (OnlyL.cast (by repeat (first | apply OnlyL.setCell | apply OnlyL.drew | apply OnlyL.drewN | apply OnlyL.alloc | apply OnlyL.grow | exact OnlyL.refl hc.out)) ?_)⟩
      have h1 := Hh.out
      simp [cellsL, backup, h1, hr0]

end Go.Proofs.YtlbmojpmfgihlaaFmt
