/-
  Walks of what the laws of n003_22 call: closers, end tokens.
-/
import Derived.Test.YtdgpholpdaelhaaGreatFmtLex
import Derived.Test.YtdgpholpdaelhaaGreatFmtP22
import Derived.WalkKit
namespace Go.Proofs.YtdgpholpdaelhaaGreatFmt
open Go Go.Lib Go.RowKit Go.Proofs
open Go.Extern.Stop Go.Stop Go.Extern

/-- A yes or no that changes nothing. -/
def Says (P : Bool → Prop) (w : World) (e : Ending) (w' : World) : Prop := ∃ b, e = .returned (.bool b) ∧ P b ∧ w = w'

theorem says_ret {P : Bool → Prop} {w : World} {b : Bool} (h : P b) : Says P w (.returned (.bool b)) w := ⟨b, rfl, h, rfl⟩

set_option maxHeartbeats 2000000 in
set_option maxRecDepth 100000 in
theorem zzHasCloser_any (s : ByteArray) (hs : s.size ≤ 1099511627776) (w : World) :
    Calls Tryz.prog 14 #[.string s] w (Says (fun b => b = false → NoCloser s) w) := by
  go_enter Tryz.func14, Tryz.ntmps14
  go_wp2_with fail
  go_loopg [3] (s.size + 1) (fun g iv wr => ∃ i : Nat, iv = .int .i64 (i : Nat) ∧ wr = w ∧ Hid (∀ x, x < i → x + 1 < s.size → ¬ (byt s x = 42 ∧ byt s (x + 1) = 47)) ∧ i ≤ s.size ∧ s.size - i < g)
  case atStart => exact ⟨0, rfl, rfl, Lib.hid (fun x h => by omega), Nat.zero_le _, by omega⟩
  case round =>
    obtain ⟨i, rfl, rfl, hn, hi', hg⟩ := hrel
    by_cases hin : i + 1 < s.size
    · have j0 : (0 : Int) ≤ (i : Int) := by omega
      have j1 : (i : Int) < (s.size : Int) := by omega
      have j2 : (i : Int) + 1 < (s.size : Int) := by omega
      have j3 : (0 : Int) ≤ (i : Int) + 1 := by omega
      have j4 : ((i : Int) + 1).toNat = i + 1 := by omega
      have hil : i < s.size := by omega
      have kb := byt_of hil
      have kn := byt_of hin
      by_cases h42 : byt s i = 42
      · have e42 : (((s[i]'hil).toNat : Int) == 42) = true := by rw [beq_iff_eq]; omega
        by_cases h47 : byt s (i + 1) = 47
        · have e47 : (((s[i + 1]'hin).toNat : Int) == 47) = true := by rw [beq_iff_eq]; omega
          clear kb kn
          go_wp2_with fail
          go_ret
          exact says_ret (fun h => by cases h)
        · have e47 : (((s[i + 1]'hin).toNat : Int) == 47) = false := by rw [beq_eq_false_iff_ne]; omega
          clear kb kn
          go_wp2_with fail
          go_roundg (s.size - i)
          case measure => omega
          case rel => exact ⟨i + 1, by go_num, rfl, Lib.hid (fun x hx hx2 => by
            by_cases e : x = i
            · subst e; exact fun h => h47 h.2
            · exact hn.out x (by omega) hx2), by omega, by omega⟩
      · have e42 : (((s[i]'hil).toNat : Int) == 42) = false := by rw [beq_eq_false_iff_ne]; omega
        clear kb kn
        go_wp2_with fail
        go_roundg (s.size - i)
        case measure => omega
        case rel => exact ⟨i + 1, by go_num, rfl, Lib.hid (fun x hx hx2 => by
          by_cases e : x = i
          · subst e; exact fun h => h42 h.1
          · exact hn.out x (by omega) hx2), by omega, by omega⟩
    · have j2 : ¬ (i : Int) + 1 < (s.size : Int) := by omega
      go_wp2_with fail
      go_ret
      exact says_ret (fun _ x hx => hn.out x (by omega) hx)

theorem lex_out {F : Stop.Interp} {W0 w : World} (hF : F.answers W0.tape) (hT : Tabs W0) (hlow : Below W0.heap.size W0 w) {s : ByteArray} {l : List Tok} {u : St} (hs : s.size ≤ 1099511627776) (h : Out s (R 0 0 false false) l u) (hl : l.length ≤ 1099511627776) :
    Calls Tryz.prog 10 #[.agg #[.string s]] w (LexPost l u w) :=
  lex_any hF hT hlow s hs (out_drain (t := start) h (inv_start s) rfl (l.length + 1) (by omega)) hl

end Go.Proofs.YtdgpholpdaelhaaGreatFmt
