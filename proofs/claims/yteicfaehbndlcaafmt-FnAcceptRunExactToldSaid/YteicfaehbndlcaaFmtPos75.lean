/-
  Walks: zzPos and zzIn of n003_75.
-/
import Derived.Test.YteicfaehbndlcaaFmtDec75b
import Derived.Test.YteicfaehbndlcaaFmtL75a
namespace Go.Proofs.YteicfaehbndlcaaFmt
open Go Go.Lib Go.RowKit Go.Proofs

theorem nextN_snoc (s : ByteArray) : ∀ (k : Nat) (t : St), nextN s (k + 1) t = next s (nextN s k t)
  | 0, _ => rfl
  | k + 1, t => nextN_snoc s k (next s t)
theorem nextN_add (s : ByteArray) (a : Nat) : ∀ (b : Nat) (t : St), nextN s (a + b) t = nextN s b (nextN s a t)
  | 0, _ => rfl
  | b + 1, t => by rw [← Nat.add_assoc, nextN_snoc, nextN_snoc, nextN_add s a b]
theorem nextN_stay (s : ByteArray) : ∀ (k : Nat) (t : St), ¬ t.eb < s.size → (nextN s k t).eb = t.eb ∧ (nextN s k t).er = t.er
  | 0, _, _ => ⟨rfl, rfl⟩
  | k + 1, t, h => by
    have := nextN_stay s k (next s t) (by rw [next_end h]; exact h)
    rw [next_end h] at this
    rw [nextN, next_end h]
    exact this
theorem next_place (s : ByteArray) (t : St) (x y : Nat) : next s { t with sb := x, sr := y } = { next s t with sb := x, sr := y } := by
  unfold next
  dsimp only
  split <;> rfl
theorem nextN_place (s : ByteArray) (x y : Nat) : ∀ (k : Nat) (t : St), nextN s k { t with sb := x, sr := y } = { nextN s k t with sb := x, sr := y }
  | 0, _ => rfl
  | k + 1, t => by rw [nextN, next_place, nextN_place s x y k]; rfl
theorem nextN_er (s : ByteArray) (k : Nat) : (nextN s k start).er ≤ k := by
  induction k with
  | zero => exact Nat.le_refl _
  | succ k ih =>
    rw [nextN_snoc]
    by_cases h : (nextN s k start).eb < s.size
    · rw [next_in h]; show (nextN s k start).er + 1 ≤ k + 1; omega
    · rw [next_end h]; show (nextN s k start).er ≤ k + 1; omega

set_option maxHeartbeats 1000000 in
set_option maxRecDepth 100000 in
theorem zzPos_any (s : ByteArray) (k : Nat) (w : World) (hs : s.size ≤ 1048576) (hk : k ≤ 4194304) :
    Calls Tryf.prog 10 #[.string s, .int .i64 k] w fun e w' => e = .returned (.tuple #[.int .i64 (nextN s k start).eb, .int .i64 (nextN s k start).er]) ∧ ∃ xs d, w' = grow w xs d := by
  obtain ⟨RB, hRB⟩ : ∃ x, (nextN s k start).eb = x := ⟨_, rfl⟩
  obtain ⟨RN, hRN⟩ : ∃ x, (nextN s k start).er = x := ⟨_, rfl⟩
  rw [hRB, hRN]
  have HB := Lib.hid hRB
  have HN := Lib.hid hRN
  clear hRB hRN
  go_enter Tryf.func10, Tryf.ntmps10
  go_wp2_with fail
  go_loopg [6, 7] (k + 1) (fun g b n wr => ∃ (j : Nat) (t1 : St), b = .int .i64 (t1.eb : Nat) ∧ n = .int .i64 (j : Nat) ∧ Hid (t1 = nextN s j start ∧ t1.er = j) ∧ t1.eb ≤ s.size ∧ j ≤ k ∧ k < j + g ∧ Below w.heap.size w wr)
  case atStart => exact ⟨0, start, rfl, rfl, Lib.hid ⟨rfl, rfl⟩, Nat.zero_le _, Nat.zero_le _, by omega, Below.refl _ _⟩
  case round =>
    obtain ⟨j, t1, rfl, rfl, ht1, hle, hj, hg, hb⟩ := hrel
    by_cases hjk : (j : Int) < (k : Int)
    · by_cases hin : t1.eb < s.size
      · have hin' : (t1.eb : Int) < (s.size : Int) := by omega
        have b2 := wAt_le s t1.eb hin
        have b3 := wAt_pos s t1.eb hin
        go_wp2_with fail
        refine (zzDecode_any s t1.eb wr hin hs).mono ?_
        rintro e w2 ⟨rfl, xs, d, rfl⟩
        go_wp2_with fail
        go_roundg (k - j)
        case measure => omega
        case rel =>
          refine ⟨j + 1, next s t1, ?_, by go_num, Lib.hid ?_, by rw [next_in hin]; exact b2, by omega, by omega, below_grow hb⟩
          · rw [next_in hin]; show Value.int .i64 _ = Value.int .i64 ((t1.eb + wAt s t1.eb : Nat) : Int); go_num
          · obtain ⟨e1, e2⟩ := ht1.out
            refine ⟨by rw [e1, nextN_snoc], ?_⟩
            rw [next_in hin]; show t1.er + 1 = j + 1; omega
      · have hin' : ¬ (t1.eb : Int) < (s.size : Int) := by omega
        have hfin : RB = t1.eb ∧ RN = j := by
          obtain ⟨e1, e2⟩ := ht1.out
          have := nextN_stay s (k - j) t1 hin
          rw [e1, ← nextN_add, show j + (k - j) = k by omega, HB.out, HN.out, ← e1] at this
          exact ⟨this.1, this.2.trans e2⟩
        obtain ⟨rfl, rfl⟩ := hfin
        go_wp2_with fail
        go_ret2
        exact ⟨rfl, grow_of hb⟩
    · have hfin : RB = t1.eb ∧ RN = j := by
        obtain ⟨e1, e2⟩ := ht1.out
        have : j = k := by omega
        rw [← HB.out, ← HN.out, ← this, ← e1]
        exact ⟨rfl, e2⟩
      obtain ⟨rfl, rfl⟩ := hfin
      go_wp2_with fail
      go_ret2
      exact ⟨rfl, grow_of hb⟩

set_option maxHeartbeats 1000000 in
set_option maxRecDepth 100000 in
theorem zzIn_any (v : ByteArray) (r : Int) (w : World) (hv : v.size ≤ 1048576) :
    Calls Tryf.prog 26 #[.string v, .int .i32 r] w fun e w' => e = .returned (.bool ((runesOf v).contains r)) ∧ ∃ xs d, w' = grow w xs d := by
  obtain ⟨B, hB⟩ : ∃ x, (runesOf v).contains r = x := ⟨_, rfl⟩
  rw [hB]
  have HB := Lib.hid hB
  clear hB
  go_enter Tryf.func26, Tryf.ntmps26
  go_wp2_with fail
  go_loopg [5] v.size (fun g b wr => ∃ (i : Nat), b = .int .i64 (i : Nat) ∧ Hid ((runesFrom v g i).contains r = B) ∧ i ≤ v.size ∧ v.size ≤ i + g ∧ Below w.heap.size w wr)
  case atStart => exact ⟨0, rfl, HB, Nat.zero_le _, by omega, Below.refl _ _⟩
  case round =>
    obtain ⟨i, rfl, hc, hi, hg, hb⟩ := hrel
    by_cases hin : i < v.size
    · have hin' : (i : Int) < (v.size : Int) := by omega
      have b2 := wAt_le v i hin
      have b3 := wAt_pos v i hin
      obtain ⟨g', rfl⟩ : ∃ g', gk = g' + 1 := ⟨gk - 1, by omega⟩
      have hst : runesFrom v (g' + 1) i = rAt v i :: runesFrom v g' (i + wAt v i) := by rw [runesFrom, if_pos hin]
      have hcc := hc.out
      rw [hst] at hcc
      clear hst hc
      by_cases hr : rAt v i = r
      · have e1 : (rAt v i == r) = true := by simpa using hr
        have e2 : B = true := by rw [← hcc, hr]; simp
        subst e2
        have Hr := Lib.hid hr
        clear hr hcc
        go_wp2_with fail
        refine (zzDecode_any v i wr hin hv).mono ?_
        rintro e w2 ⟨rfl, xs, d, rfl⟩
        go_wp2_with fail
        go_ret
        exact ⟨rfl, grow_of (below_grow hb)⟩
      · have e1 : (rAt v i == r) = false := by simpa using hr
        have e2 : Hid ((runesFrom v g' (i + wAt v i)).contains r = B) := by
          refine Lib.hid ?_
          rw [← hcc]
          have : ¬ r = rAt v i := fun e => hr e.symm
          simp [this]
        have Hr := Lib.hid hr
        clear hr hcc
        go_wp2_with fail
        refine (zzDecode_any v i wr hin hv).mono ?_
        rintro e w2 ⟨rfl, xs, d, rfl⟩
        go_wp2_with fail
        go_roundg g'
        case measure => omega
        case rel => exact ⟨i + wAt v i, by go_num, e2, by omega, by omega, below_grow hb⟩
    · have hin' : ¬ (i : Int) < (v.size : Int) := by omega
      have e2 : B = false := by rw [← hc.out, runesFrom_end v gk i hin]; rfl
      subst e2
      go_wp2_with fail
      go_ret
      exact ⟨rfl, grow_of hb⟩

end Go.Proofs.YteicfaehbndlcaaFmt
