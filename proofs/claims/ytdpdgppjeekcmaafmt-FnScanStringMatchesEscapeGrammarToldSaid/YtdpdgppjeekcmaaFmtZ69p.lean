/-
  Walks of what the laws of n003_69 call: the grammar of escapes.
-/
import Derived.Test.YtdpdgppjeekcmaaFmtSize69
import Derived.Test.YtdpdgppjeekcmaaFmtP69E
import Derived.WalkKit
namespace Go.Proofs.YtdpdgppjeekcmaaFmt
open Go Go.Lib Go.RowKit Go.Proofs
open Go.Extern.Stop Go.Stop Go.Extern

/-- A yes or no that says p; the world has grown at most. -/
def Tells (p : Bool) (w : World) (e : Ending) (w' : World) : Prop := e = .returned (.bool p) ∧ Below w.heap.size w w'
theorem ex_step {s : ByteArray} {i c : Nat} (h : Hid (∀ x, x < i → byt s x ≠ c)) (h1 : byt s i ≠ c) : ∀ x, x < i + 1 → byt s x ≠ c := fun x hx => by
  by_cases e : x = i
  · rw [e]; exact h1
  · exact h.out x (by omega)

def occurs (s : ByteArray) (c : Nat) : Bool := decide (∃ x, x < s.size ∧ byt s x = c)
set_option maxHeartbeats 4000000 in
set_option maxRecDepth 100000 in
theorem zzIn_any (c : Nat) (s : ByteArray) (hs : s.size ≤ 1048576) (w : World) :
    Calls Tryf.prog 70 #[.int .u8 (c : Nat), .string s] w (Tells (occurs s c) w) := by
  go_enter Tryf.func70, Tryf.ntmps70
  go_wp2_with fail
  go_loopg [5] (s.size + 1) (fun g iv wr => ∃ i : Nat, iv = .int .i64 (i : Nat) ∧ Hid (Below w.heap.size w wr) ∧ Hid (∀ x, x < i → byt s x ≠ c) ∧ i ≤ s.size ∧ s.size - i < g)
  case atStart => exact ⟨0, rfl, Lib.hid (Below.refl _ _), Lib.hid (fun x h => by omega), Nat.zero_le _, by omega⟩
  case round =>
    obtain ⟨i, rfl, hW, hn, hi', hg⟩ := hrel
    by_cases hin : i < s.size
    · have j0 : (0 : Int) ≤ (i : Int) := by omega
      have j1 : (i : Int) < (s.size : Int) := by omega
      have kb := byt_of hin
      by_cases hq : byt s i = c
      · have e : (((s[i]'hin).toNat : Int) == (c : Int)) = true := by rw [beq_iff_eq]; omega
        have ho : occurs s c = true := decide_eq_true ⟨i, hin, hq⟩
        have Ho := Lib.hid ho
        clear kb hq ho hn
        go_wp2_with fail
        go_ret
        exact ⟨by rw [Ho.out]; rfl, (by repeat (first | exact hW.out | apply below_drew | apply below_drewN | apply below_alloc | apply below_grow))⟩
      · have e : (((s[i]'hin).toNat : Int) == (c : Int)) = false := by rw [beq_eq_false_iff_ne]; omega
        have Hn := Lib.hid (ex_step hn hq)
        clear kb hq hn
        go_wp2_with fail
        go_roundg (s.size - i)
        case measure => omega
        case rel => exact ⟨i + 1, by go_num, Lib.hid (by repeat (first | exact hW.out | apply below_drew | apply below_drewN | apply below_alloc | apply below_grow)), Hn, by omega, by omega⟩
    · have j2 : ¬ (i : Int) < (s.size : Int) := by omega
      have ho : occurs s c = false := decide_eq_false (fun ⟨x, h1, h2⟩ => hn.out x (by omega) h2)
      have Ho := Lib.hid ho
      clear ho hn
      go_wp2_with fail
      go_ret
      exact ⟨by rw [Ho.out]; rfl, (by repeat (first | exact hW.out | apply below_drew | apply below_drewN | apply below_alloc | apply below_grow))⟩

def hexSigns : ByteArray := ⟨#[48, 49, 50, 51, 52, 53, 54, 55, 56, 57, 97, 98, 99, 100, 101, 102, 65, 66, 67, 68, 69, 70]⟩
def escSigns : ByteArray := ⟨#[97, 98, 102, 110, 114, 116, 118, 92]⟩
theorem occurs_lit (l : List UInt8) (c : Nat) : occurs ⟨l.toArray⟩ c = l.any (fun b => decide (b.toNat = c)) := by
  rw [Bool.eq_iff_iff]
  unfold occurs
  rw [decide_eq_true_iff, List.any_eq_true]
  constructor
  · rintro ⟨x, hx, e⟩
    have hx' : x < l.length := by have h : x < l.toArray.size := hx; simpa using h
    refine ⟨l[x]'hx', List.getElem_mem _, ?_⟩
    rw [decide_eq_true_iff, ← e, byt_of hx]
    rfl
  · rintro ⟨b, hb, e⟩
    obtain ⟨x, hx, rfl⟩ := List.mem_iff_getElem.1 hb
    have hx' : x < (⟨l.toArray⟩ : ByteArray).size := by show x < l.toArray.size; simpa using hx
    refine ⟨x, hx', ?_⟩
    rw [byt_of hx', ← of_decide_eq_true e]
    rfl
theorem occurs_hex (c : Nat) : occurs hexSigns c = unhexB' c := by
  show occurs ⟨([48, 49, 50, 51, 52, 53, 54, 55, 56, 57, 97, 98, 99, 100, 101, 102, 65, 66, 67, 68, 69, 70] : List UInt8).toArray⟩ c = _
  rw [occurs_lit, Bool.eq_iff_iff, hex_iff]
  simp
  omega
theorem occurs_esc (c : Nat) : occurs escSigns c = isSimp c := by
  show occurs ⟨([97, 98, 102, 110, 114, 116, 118, 92] : List UInt8).toArray⟩ c = _
  rw [occurs_lit, Bool.eq_iff_iff, simp_iff]
  simp
  omega

theorem zzIsHex_any (c : Nat) (w : World) : Calls Tryf.prog 73 #[.int .u8 (c : Nat)] w (Tells (unhexB' c) w) := by
  have hz := zzIn_any c hexSigns (by decide) w
  rw [occurs_hex] at hz
  unfold hexSigns at hz
  have Hz := Lib.hid hz
  clear hz
  go_enter Tryf.func73, Tryf.ntmps73
  go_wp2_with fail
  refine Hz.out.mono ?_
  rintro e w' ⟨rfl, hb⟩
  go_wp2_with fail
  go_ret
  exact ⟨rfl, hb⟩
theorem zzIsOct_any (c : Nat) (w : World) : Calls Tryf.prog 71 #[.int .u8 (c : Nat)] w fun e w' => e = .returned (.bool (isOct c)) ∧ w = w' := by
  by_cases h1 : (48 : Int) ≤ (c : Int) <;> by_cases h2 : (c : Int) ≤ 55
  all_goals first
    | (have e : isOct c = true := by rw [oct_iff]; omega
       rw [e]
       clear e
       go_enter Tryf.func71, Tryf.ntmps71
       go_wp2_with fail
       go_ret
       exact ⟨rfl, rfl⟩)
    | (have e : isOct c = false := by rw [← Bool.not_eq_true, oct_iff]; omega
       rw [e]
       clear e
       go_enter Tryf.func71, Tryf.ntmps71
       go_wp2_with fail
       go_ret
       exact ⟨rfl, rfl⟩)

theorem hexAll_in {s : ByteArray} : ∀ {m j : Nat}, hexAll s j m = true → j + m ≤ s.size ∨ m = 0
  | 0, _, _ => .inr rfl
  | m + 1, j, h => by
    rw [hexAll, Bool.and_eq_true, Bool.and_eq_true, decide_eq_true_iff] at h
    rcases hexAll_in h.2 with h2 | h2
    · exact .inl (by omega)
    · exact .inl (by omega)
theorem hexAll_short {s : ByteArray} {m j : Nat} (h : s.size < j + m) (hm : 0 < m) : hexAll s j m = false := by
  cases he : hexAll s j m with
  | false => rfl
  | true => rcases hexAll_in he with h2 | h2 <;> omega

set_option maxHeartbeats 4000000 in
set_option maxRecDepth 100000 in
theorem zzHexN_any (s : ByteArray) (j m : Nat) (hs : s.size ≤ 1048576) (hj : j ≤ 1099511627776) (hm : 0 < m ∧ m ≤ 8) (w : World) :
    Calls Tryf.prog 72 #[.string s, .int .i64 (j : Nat), .int .i64 (m : Nat)] w (Tells (hexAll s j m) w) := by
  obtain ⟨e, he⟩ : ∃ e : Nat, e = j + m := ⟨_, rfl⟩
  have he1 : (j : Int) + (m : Int) = (e : Int) := by omega
  have he2 : IntKind.i64.wrap ((j : Int) + (m : Int)) = (e : Int) := by rw [IntKind.wrap_i64]; omega
  by_cases hl : e ≤ s.size
  · have l1 : ¬ (s.size : Int) < (e : Int) := by omega
    have He := Lib.hid he
    have hjm : j + m = e := he.symm
    clear he
    go_enter Tryf.func72, Tryf.ntmps72
    go_wp2_with fail
    go_loopg [7] (m + 1) (fun g kv wr => ∃ k r : Nat, kv = .int .i64 (k : Nat) ∧ Hid (Below w.heap.size w wr) ∧ k + r = e ∧ r ≤ m ∧ Hid (hexAll s k r = hexAll s j m) ∧ r < g)
    case atStart => exact ⟨j, m, rfl, Lib.hid (Below.refl _ _), hjm, Nat.le_refl _, Lib.hid rfl, by omega⟩
    case round =>
      obtain ⟨k, r, rfl, hb, hkr, hrm, hh, hg⟩ := hrel
      by_cases hk : k < e
      · have k1 : (k : Int) < (e : Int) := by omega
        have k0 : (0 : Int) ≤ (k : Int) := by omega
        have hin : k < s.size := by omega
        have k2 : (k : Int) < (s.size : Int) := by omega
        have kb := byt_of hin
        obtain ⟨r', rfl⟩ : ∃ r', r = r' + 1 := ⟨r - 1, by omega⟩
        have hst := hh.out
        rw [hexAll, decide_eq_true hin, Bool.true_and] at hst
        have hx := zzIsHex_any (s[k]'hin).toNat
        rw [← kb] at hx
        cases hu : unhexB' (byt s k) with
        | true =>
          rw [hu] at hx
          rw [hu, Bool.true_and] at hst
          have hx2 : ∀ w, Calls Tryf.prog 73 #[.int .u8 ((s[k]'hin).toNat : Nat)] w (Tells true w) := fun w => by rw [← kb]; exact hx w
          have Hx := Lib.hid hx2
          have Hst := Lib.hid hst
          clear hx hx2 hst hh hu kb
          go_wp2_with fail
          refine (Hx.out _).mono ?_
          rintro e2 w2 ⟨rfl, hb2⟩
          have hb3 : Below w.heap.size w w2 := Below.trans (by repeat (first | exact hb.out | apply below_drew | apply below_drewN | apply below_alloc | apply below_grow)) (hb2.mono (by have := hb.out.size; first | exact this | (simp; omega)))
          have Hb3 := Lib.hid hb3
          clear hb2 hb3
          go_wp2_with fail
          go_roundg (r' + 1)
          case measure => omega
          case rel => exact ⟨k + 1, r', by go_num, Lib.hid (by repeat (first | exact Hb3.out | apply below_drew | apply below_drewN | apply below_alloc | apply below_grow)), by omega, by omega, Hst, by omega⟩
        | false =>
          rw [hu] at hx
          rw [hu, Bool.false_and] at hst
          have hx2 : ∀ w, Calls Tryf.prog 73 #[.int .u8 ((s[k]'hin).toNat : Nat)] w (Tells false w) := fun w => by rw [← kb]; exact hx w
          have Hx := Lib.hid hx2
          have Hst := Lib.hid hst
          clear hx hx2 hst hh hu kb
          go_wp2_with fail
          refine (Hx.out _).mono ?_
          rintro e2 w2 ⟨rfl, hb2⟩
          have hb3 : Below w.heap.size w w2 := Below.trans (by repeat (first | exact hb.out | apply below_drew | apply below_drewN | apply below_alloc | apply below_grow)) (hb2.mono (by have := hb.out.size; first | exact this | (simp; omega)))
          have Hb3 := Lib.hid hb3
          clear hb2 hb3
          go_wp2_with fail
          go_ret
          exact ⟨by rw [← Hst.out]; rfl, Hb3.out⟩
      · have k1 : ¬ (k : Int) < (e : Int) := by omega
        obtain rfl : r = 0 := by omega
        have hst := hh.out
        rw [hexAll] at hst
        have Hst := Lib.hid hst
        clear hst hh
        go_wp2_with fail
        go_ret
        exact ⟨by rw [← Hst.out]; rfl, (by repeat (first | exact hb.out | apply below_drew | apply below_drewN | apply below_alloc | apply below_grow))⟩
  · have l1 : (s.size : Int) < (e : Int) := by omega
    have hx := hexAll_short (s := s) (m := m) (j := j) (by omega) hm.1
    rw [hx]
    clear hx he
    go_enter Tryf.func72, Tryf.ntmps72
    go_wp2_with fail
    go_ret
    exact ⟨rfl, (by repeat (first | exact Below.refl _ _ | apply below_drew | apply below_drewN | apply below_alloc | apply below_grow))⟩

end Go.Proofs.YtdpdgppjeekcmaaFmt
