/-
  Walk: the shim of root of n003_69, where it takes a token.
-/
import Derived.Test.YtdpdgppjeekcmaaFmtZ69
import Derived.Test.YtdpdgppjeekcmaaFmtRootD
namespace Go.Proofs.YtdpdgppjeekcmaaFmt
open Go Go.Lib Go.RowKit Go.Proofs
open Go.Extern.Stop Go.Stop Go.Extern

theorem back_start (s : ByteArray) : Back s start := ⟨.zero, rfl⟩

set_option maxHeartbeats 2000000 in
set_option maxRecDepth 100000 in
theorem zzRootStep_ok {F : Stop.Interp} {W0 w : World} (hF : F.answers W0.tape) (hT : Tabs W0) (hlow : Below W0.heap.size W0 w) (s : ByteArray) (hs : s.size ≤ 1099511627776) (E N : Nat) (v : ByteArray) (hr : root s start = (some .root, ⟨some .root, E, N, E, N, false, false, none, [⟨0, N, kString, v⟩]⟩)) :
    Calls Tryf.prog 14 #[.string s] w fun e w' => e = .returned (.tuple #[.bool false, .bool true, .int .i64 1, .string kString, .string v, .int .i64 0, .int .i64 N, .int .i64 E, .int .i64 E]) ∧ Below W0.heap.size W0 w' := by
  have HR := Lib.hid hr
  clear hr
  go_enter Tryf.func14, Tryf.ntmps14
  go_wp2_with fail
  refine (zzFresh_any hT hlow s hs).mono ?_
  rintro e w1 ⟨L, S, rfl, H⟩
  go_wp2_with fail
  refine (root_any hF H (Nat.zero_le _) (by show 0 ≤ 9; omega) (fun _ => back_start s) (fun h => next_gt (peek_lt h))).mono ?_
  rintro e w2 ⟨rfl, S2, hS2, H2, hf2⟩
  rw [HR.out] at H2 ⊢
  have hrun : ∀ wr, Sem.run Tryf.prog (binOp BinOp.eql 50 (Value.func (Fn.func 31) #[] #[]) Value.nilFunc) wr = .ok (.bool false) wr := fun _ => by kernel_rfl
  unfold qVal
  go_wp2_with fail
  refine (zzReport_one H2 (k := ⟨0, N, kString, v⟩) rfl rfl false).mono ?_
  rintro e w3 ⟨rfl, hb⟩
  go_wp2_with fail
  refine bodyPost_ret (v := .tuple #[.bool false, .bool true, .int .i64 1, .string kString, .string v, .int .i64 0, .int .i64 N, .int .i64 E, .int .i64 E]) ?_ rfl ⟨rfl, hb⟩
  simp [results, Tryf.results14, go_sem]

end Go.Proofs.YtdpdgppjeekcmaaFmt
