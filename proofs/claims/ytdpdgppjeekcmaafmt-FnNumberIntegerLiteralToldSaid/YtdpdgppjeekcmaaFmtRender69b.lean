/-
  Walk: zzRender of n003_69, way by way (printed by genrender.py).
-/
import Derived.Test.YtdpdgppjeekcmaaFmtRender69
namespace Go.Proofs.YtdpdgppjeekcmaaFmt
open Go Go.Lib Go.RowKit Go.Proofs

set_option maxHeartbeats 4000000 in
set_option maxRecDepth 100000 in
theorem zzRender_0L (up : Bool) (x : Nat) (hx : x < 18446744073709551616) (w : World) :
    Calls Tryf.prog 9 #[.int .u64 x, .int .u8 0, .bool up, .bool false] w fun e w' => e = .returned (.string ((⟨#[]⟩ : ByteArray) ++ ⟨((digs 10 x).map (dch loDigits)).toArray⟩)) ∧ Below w.heap.size w w' := by
  go_enter Tryf.func9, Tryf.ntmps9
  go_wp2_with fail
  go_loopg [0, 13] 64 (fun g xv iv wr => ∃ (n i : Nat) (ds : List Nat), xv = .int .u64 n ∧ iv = .int .i64 i ∧ g = i ∧ n < 2 ^ i ∧ 1 ≤ i ∧ i ≤ 64 ∧ Buf w wr loDigits i ds ∧ Hid (digs 10 x = digs 10 n ++ ds))
  case atStart => exact ⟨x, 64, [], rfl, rfl, rfl, by simpa using hx, by decide, by decide, ⟨(Below.refl _ _).alloc (Nat.le_refl _) _, ⟨_, _, heap_alloc_at rfl, rfl, fun j h1 h2 => by omega⟩, rfl⟩, Lib.hid (by simp)⟩
  case round =>
    obtain ⟨n, i, ds, rfl, rfl, hg, hn, hi1, hi2, hbuf, hd⟩ := hrel
    obtain ⟨hlow, ⟨c, T, hc, hcs, hcd⟩, hlen⟩ := hbuf
    have fz := free_of_block hc
    have l0 : w.heap.size < wr.heap.size := (Array.getElem?_eq_some_iff.1 hc).1
    obtain ⟨k, rfl⟩ : ∃ k, i = k + 1 := ⟨i - 1, by omega⟩
    have ki : ((k + 1 : Nat) : Int) - 1 = (k : Int) := by omega
    have kw : IntKind.i64.wrap (((k + 1 : Nat) : Int) - 1) = (k : Int) := by rw [IntKind.wrap_i64]; omega
    have k0 : (0 : Int) ≤ (k : Int) := by omega
    have k1 : (k : Int) < 64 := by omega
    obtain ⟨v0, hv0⟩ : ∃ v, wr.cell? ⟨w.heap.size, k, none⟩ = some v := ⟨_, (cell_of_block hc k).trans (Array.getElem?_eq_getElem (by omega))⟩
    have HC := Lib.hid hc
    clear hc
    have uw : IntKind.u64.wrap ((n : Int) / 10) = ((n / 10 : Nat) : Int) := by
      have : n < 18446744073709551616 := Nat.lt_of_lt_of_le hn (by exact Nat.pow_le_pow_right (by decide) hi2)
      rw [IntKind.wrap_u64]; omega
    obtain ⟨ch, hch⟩ : ∃ ch : UInt8, ch = dch loDigits (n % 10) := ⟨_, rfl⟩
    have hch2 : ∀ h, (⟨#[48, 49, 50, 51, 52, 53, 54, 55, 56, 57, 97, 98, 99, 100, 101, 102]⟩ : ByteArray)[n % 10]'h = ch := by
      intro h
      rw [hch]
      unfold dch loDigits
      simp [Array.getD, ByteArray.getElem_eq_getElem_data]
      omega
    have ho := (OnlyL.refl HC.out).setCell k (.int .u8 ((ch.toNat : Nat) : Int))
    have hcells : ∀ j, k ≤ j → j < 64 → (c.setIfInBounds k (.int .u8 ((ch.toNat : Nat) : Int)))[j]? = some (.int .u8 ((dch loDigits ((n % 10 :: ds).getD (j - k) 0)).toNat : Nat)) := by
      intro j h1 h2
      by_cases hjk : j = k
      · subst hjk
        rw [Array.getElem?_setIfInBounds_self_of_lt (by omega), hch]
        simp
      · rw [Array.getElem?_setIfInBounds_ne (by omega), hcd j (by omega) h2]
        rw [show j - k = (j - (k + 1)) + 1 by omega]
        rfl
    have HCH := Lib.hid hch
    have HCE := Lib.hid hcells
    have HCD := Lib.hid hcd
    clear hch hcells hcd
    have k2 : (k : Int) ≤ Tryf.prog.arrayLen 45 := by
      have : Tryf.prog.arrayLen 45 = 64 := by kernel_rfl
      omega
    by_cases hsm : n < 10
    · have d0 : (((n / 10 : Nat) : Int) == 0) = true := by rw [beq_iff_eq]; omega
      have hsl : ∀ wq, Sem.run Tryf.prog (Instr.sliceAt 45 (.pointer (some ⟨w.heap.size, 0, none⟩)) (some (.int .i64 k)) none none) wq = .ok (.slice (some ⟨w.heap.size, k, none⟩) (64 - k) (64 - k)) wq := by
        intro wq
        rw [run_sliceAt_array_l _ _ _ (by kernel_rfl) _ _ k0 k2]
        have e1 : Tryf.prog.arrayLen 45 = 64 := by kernel_rfl
        have e2 : (sizeOf (Tryf.prog.elem 45)).run Tryf.prog wq = .ok 1 wq := by kernel_rfl
        rw [e1, e2]
        simp only [Result.andThen, slicedAt, Int.toNat_natCast]
        rw [if_neg (by omega), addr_add]
        simp
      have hdx : digs 10 x = n % 10 :: ds := by rw [hd.out, digs_lt hsm]; rfl
      have hcv : Sem.run Tryf.prog (convert 46 9 (.slice (some ⟨w.heap.size, k, none⟩) (64 - k) (64 - k))) (wr.setCell ⟨w.heap.size, k, none⟩ (.int .u8 ((ch.toNat : Nat) : Int))) = .ok (.string ⟨((digs 10 x).map (dch loDigits)).toArray⟩) (wr.setCell ⟨w.heap.size, k, none⟩ (.int .u8 ((ch.toNat : Nat) : Int))) := by
        rw [hdx, run_convert_bytes_string _ _ _ 5 _ _ _ (by kernel_rfl) (by kernel_rfl) (by kernel_rfl)]
        refine bytes_of_cells ?_ (by simp; omega)
        intro j hj
        rw [cell_of_block ho.own (k + j), HCE.out (k + j) (by omega) (by simp at hj; omega)]
        simp
      have hdl : (digs 10 x).length ≤ 9223372036854775807 := by rw [hdx]; simp; omega
      have Hdx := Lib.hid hdx
      clear hdx
      go_wp2_with fail
      go_ret
      refine ⟨rfl, ?_⟩
      exact ⟨ho.os.trans hlow.os, ho.tape.trans hlow.tape, ho.output.trans hlow.output, Nat.le_trans hlow.size ho.size, fun j hj => (ho.others j (Nat.lt_of_lt_of_le hj hlow.size) (by omega)).trans (hlow.block j hj)⟩
    · have d0 : (((n / 10 : Nat) : Int) == 0) = false := by rw [beq_eq_false_iff_ne]; omega
      have hk1 : 1 ≤ k := by
        by_cases hk : k = 0
        · subst hk; simp at hn; omega
        · omega
      have hn2 : n / 10 < 2 ^ k := by
        have : (2 : Nat) ^ (k + 1) = 2 ^ k * 2 := Nat.pow_succ 2 k
        omega
      go_wp2_with fail
      go_roundg k
      case measure => omega
      case rel =>
        refine ⟨n / 10, k, n % 10 :: ds, by go_num, rfl, rfl, hn2, hk1, by omega, ⟨?_, ⟨_, T, ho.own, by simpa using hcs, HCE.out⟩, by simp; omega⟩, Lib.hid ?_⟩
        · exact ⟨ho.os.trans hlow.os, ho.tape.trans hlow.tape, ho.output.trans hlow.output, Nat.le_trans hlow.size ho.size, fun j hj => (ho.others j (Nat.lt_of_lt_of_le hj hlow.size) (by omega)).trans (hlow.block j hj)⟩
        · rw [hd.out, digs_ge (by decide) (by omega)]; simp

set_option maxHeartbeats 4000000 in
set_option maxRecDepth 100000 in
theorem zzRender_0U (up : Bool) (x : Nat) (hx : x < 18446744073709551616) (w : World) :
    Calls Tryf.prog 9 #[.int .u64 x, .int .u8 0, .bool up, .bool true] w fun e w' => e = .returned (.string ((⟨#[]⟩ : ByteArray) ++ ⟨((digs 10 x).map (dch upDigits)).toArray⟩)) ∧ Below w.heap.size w w' := by
  go_enter Tryf.func9, Tryf.ntmps9
  go_wp2_with fail
  go_loopg [0, 13] 64 (fun g xv iv wr => ∃ (n i : Nat) (ds : List Nat), xv = .int .u64 n ∧ iv = .int .i64 i ∧ g = i ∧ n < 2 ^ i ∧ 1 ≤ i ∧ i ≤ 64 ∧ Buf w wr upDigits i ds ∧ Hid (digs 10 x = digs 10 n ++ ds))
  case atStart => exact ⟨x, 64, [], rfl, rfl, rfl, by simpa using hx, by decide, by decide, ⟨(Below.refl _ _).alloc (Nat.le_refl _) _, ⟨_, _, heap_alloc_at rfl, rfl, fun j h1 h2 => by omega⟩, rfl⟩, Lib.hid (by simp)⟩
  case round =>
    obtain ⟨n, i, ds, rfl, rfl, hg, hn, hi1, hi2, hbuf, hd⟩ := hrel
    obtain ⟨hlow, ⟨c, T, hc, hcs, hcd⟩, hlen⟩ := hbuf
    have fz := free_of_block hc
    have l0 : w.heap.size < wr.heap.size := (Array.getElem?_eq_some_iff.1 hc).1
    obtain ⟨k, rfl⟩ : ∃ k, i = k + 1 := ⟨i - 1, by omega⟩
    have ki : ((k + 1 : Nat) : Int) - 1 = (k : Int) := by omega
    have kw : IntKind.i64.wrap (((k + 1 : Nat) : Int) - 1) = (k : Int) := by rw [IntKind.wrap_i64]; omega
    have k0 : (0 : Int) ≤ (k : Int) := by omega
    have k1 : (k : Int) < 64 := by omega
    obtain ⟨v0, hv0⟩ : ∃ v, wr.cell? ⟨w.heap.size, k, none⟩ = some v := ⟨_, (cell_of_block hc k).trans (Array.getElem?_eq_getElem (by omega))⟩
    have HC := Lib.hid hc
    clear hc
    have uw : IntKind.u64.wrap ((n : Int) / 10) = ((n / 10 : Nat) : Int) := by
      have : n < 18446744073709551616 := Nat.lt_of_lt_of_le hn (by exact Nat.pow_le_pow_right (by decide) hi2)
      rw [IntKind.wrap_u64]; omega
    obtain ⟨ch, hch⟩ : ∃ ch : UInt8, ch = dch upDigits (n % 10) := ⟨_, rfl⟩
    have hch2 : ∀ h, (⟨#[48, 49, 50, 51, 52, 53, 54, 55, 56, 57, 65, 66, 67, 68, 69, 70]⟩ : ByteArray)[n % 10]'h = ch := by
      intro h
      rw [hch]
      unfold dch upDigits
      simp [Array.getD, ByteArray.getElem_eq_getElem_data]
      omega
    have ho := (OnlyL.refl HC.out).setCell k (.int .u8 ((ch.toNat : Nat) : Int))
    have hcells : ∀ j, k ≤ j → j < 64 → (c.setIfInBounds k (.int .u8 ((ch.toNat : Nat) : Int)))[j]? = some (.int .u8 ((dch upDigits ((n % 10 :: ds).getD (j - k) 0)).toNat : Nat)) := by
      intro j h1 h2
      by_cases hjk : j = k
      · subst hjk
        rw [Array.getElem?_setIfInBounds_self_of_lt (by omega), hch]
        simp
      · rw [Array.getElem?_setIfInBounds_ne (by omega), hcd j (by omega) h2]
        rw [show j - k = (j - (k + 1)) + 1 by omega]
        rfl
    have HCH := Lib.hid hch
    have HCE := Lib.hid hcells
    have HCD := Lib.hid hcd
    clear hch hcells hcd
    have k2 : (k : Int) ≤ Tryf.prog.arrayLen 45 := by
      have : Tryf.prog.arrayLen 45 = 64 := by kernel_rfl
      omega
    by_cases hsm : n < 10
    · have d0 : (((n / 10 : Nat) : Int) == 0) = true := by rw [beq_iff_eq]; omega
      have hsl : ∀ wq, Sem.run Tryf.prog (Instr.sliceAt 45 (.pointer (some ⟨w.heap.size, 0, none⟩)) (some (.int .i64 k)) none none) wq = .ok (.slice (some ⟨w.heap.size, k, none⟩) (64 - k) (64 - k)) wq := by
        intro wq
        rw [run_sliceAt_array_l _ _ _ (by kernel_rfl) _ _ k0 k2]
        have e1 : Tryf.prog.arrayLen 45 = 64 := by kernel_rfl
        have e2 : (sizeOf (Tryf.prog.elem 45)).run Tryf.prog wq = .ok 1 wq := by kernel_rfl
        rw [e1, e2]
        simp only [Result.andThen, slicedAt, Int.toNat_natCast]
        rw [if_neg (by omega), addr_add]
        simp
      have hdx : digs 10 x = n % 10 :: ds := by rw [hd.out, digs_lt hsm]; rfl
      have hcv : Sem.run Tryf.prog (convert 46 9 (.slice (some ⟨w.heap.size, k, none⟩) (64 - k) (64 - k))) (wr.setCell ⟨w.heap.size, k, none⟩ (.int .u8 ((ch.toNat : Nat) : Int))) = .ok (.string ⟨((digs 10 x).map (dch upDigits)).toArray⟩) (wr.setCell ⟨w.heap.size, k, none⟩ (.int .u8 ((ch.toNat : Nat) : Int))) := by
        rw [hdx, run_convert_bytes_string _ _ _ 5 _ _ _ (by kernel_rfl) (by kernel_rfl) (by kernel_rfl)]
        refine bytes_of_cells ?_ (by simp; omega)
        intro j hj
        rw [cell_of_block ho.own (k + j), HCE.out (k + j) (by omega) (by simp at hj; omega)]
        simp
      have hdl : (digs 10 x).length ≤ 9223372036854775807 := by rw [hdx]; simp; omega
      have Hdx := Lib.hid hdx
      clear hdx
      go_wp2_with fail
      go_ret
      refine ⟨rfl, ?_⟩
      exact ⟨ho.os.trans hlow.os, ho.tape.trans hlow.tape, ho.output.trans hlow.output, Nat.le_trans hlow.size ho.size, fun j hj => (ho.others j (Nat.lt_of_lt_of_le hj hlow.size) (by omega)).trans (hlow.block j hj)⟩
    · have d0 : (((n / 10 : Nat) : Int) == 0) = false := by rw [beq_eq_false_iff_ne]; omega
      have hk1 : 1 ≤ k := by
        by_cases hk : k = 0
        · subst hk; simp at hn; omega
        · omega
      have hn2 : n / 10 < 2 ^ k := by
        have : (2 : Nat) ^ (k + 1) = 2 ^ k * 2 := Nat.pow_succ 2 k
        omega
      go_wp2_with fail
      go_roundg k
      case measure => omega
      case rel =>
        refine ⟨n / 10, k, n % 10 :: ds, by go_num, rfl, rfl, hn2, hk1, by omega, ⟨?_, ⟨_, T, ho.own, by simpa using hcs, HCE.out⟩, by simp; omega⟩, Lib.hid ?_⟩
        · exact ⟨ho.os.trans hlow.os, ho.tape.trans hlow.tape, ho.output.trans hlow.output, Nat.le_trans hlow.size ho.size, fun j hj => (ho.others j (Nat.lt_of_lt_of_le hj hlow.size) (by omega)).trans (hlow.block j hj)⟩
        · rw [hd.out, digs_ge (by decide) (by omega)]; simp

set_option maxHeartbeats 4000000 in
set_option maxRecDepth 100000 in
theorem zzRender_1lL (x : Nat) (hx : x < 18446744073709551616) (w : World) :
    Calls Tryf.prog 9 #[.int .u64 x, .int .u8 1, .bool false, .bool false] w fun e w' => e = .returned (.string ((⟨#[48, 120]⟩ : ByteArray) ++ ⟨((digs 16 x).map (dch loDigits)).toArray⟩)) ∧ Below w.heap.size w w' := by
  go_enter Tryf.func9, Tryf.ntmps9
  go_wp2_with fail
  go_loopg [0, 13] 64 (fun g xv iv wr => ∃ (n i : Nat) (ds : List Nat), xv = .int .u64 n ∧ iv = .int .i64 i ∧ g = i ∧ n < 2 ^ i ∧ 1 ≤ i ∧ i ≤ 64 ∧ Buf w wr loDigits i ds ∧ Hid (digs 16 x = digs 16 n ++ ds))
  case atStart => exact ⟨x, 64, [], rfl, rfl, rfl, by simpa using hx, by decide, by decide, ⟨(Below.refl _ _).alloc (Nat.le_refl _) _, ⟨_, _, heap_alloc_at rfl, rfl, fun j h1 h2 => by omega⟩, rfl⟩, Lib.hid (by simp)⟩
  case round =>
    obtain ⟨n, i, ds, rfl, rfl, hg, hn, hi1, hi2, hbuf, hd⟩ := hrel
    obtain ⟨hlow, ⟨c, T, hc, hcs, hcd⟩, hlen⟩ := hbuf
    have fz := free_of_block hc
    have l0 : w.heap.size < wr.heap.size := (Array.getElem?_eq_some_iff.1 hc).1
    obtain ⟨k, rfl⟩ : ∃ k, i = k + 1 := ⟨i - 1, by omega⟩
    have ki : ((k + 1 : Nat) : Int) - 1 = (k : Int) := by omega
    have kw : IntKind.i64.wrap (((k + 1 : Nat) : Int) - 1) = (k : Int) := by rw [IntKind.wrap_i64]; omega
    have k0 : (0 : Int) ≤ (k : Int) := by omega
    have k1 : (k : Int) < 64 := by omega
    obtain ⟨v0, hv0⟩ : ∃ v, wr.cell? ⟨w.heap.size, k, none⟩ = some v := ⟨_, (cell_of_block hc k).trans (Array.getElem?_eq_getElem (by omega))⟩
    have HC := Lib.hid hc
    clear hc
    have uw : IntKind.u64.wrap ((n : Int) / 16) = ((n / 16 : Nat) : Int) := by
      have : n < 18446744073709551616 := Nat.lt_of_lt_of_le hn (by exact Nat.pow_le_pow_right (by decide) hi2)
      rw [IntKind.wrap_u64]; omega
    obtain ⟨ch, hch⟩ : ∃ ch : UInt8, ch = dch loDigits (n % 16) := ⟨_, rfl⟩
    have hch2 : ∀ h, (⟨#[48, 49, 50, 51, 52, 53, 54, 55, 56, 57, 97, 98, 99, 100, 101, 102]⟩ : ByteArray)[n % 16]'h = ch := by
      intro h
      rw [hch]
      unfold dch loDigits
      simp [Array.getD, ByteArray.getElem_eq_getElem_data]
      omega
    have ho := (OnlyL.refl HC.out).setCell k (.int .u8 ((ch.toNat : Nat) : Int))
    have hcells : ∀ j, k ≤ j → j < 64 → (c.setIfInBounds k (.int .u8 ((ch.toNat : Nat) : Int)))[j]? = some (.int .u8 ((dch loDigits ((n % 16 :: ds).getD (j - k) 0)).toNat : Nat)) := by
      intro j h1 h2
      by_cases hjk : j = k
      · subst hjk
        rw [Array.getElem?_setIfInBounds_self_of_lt (by omega), hch]
        simp
      · rw [Array.getElem?_setIfInBounds_ne (by omega), hcd j (by omega) h2]
        rw [show j - k = (j - (k + 1)) + 1 by omega]
        rfl
    have HCH := Lib.hid hch
    have HCE := Lib.hid hcells
    have HCD := Lib.hid hcd
    clear hch hcells hcd
    have k2 : (k : Int) ≤ Tryf.prog.arrayLen 45 := by
      have : Tryf.prog.arrayLen 45 = 64 := by kernel_rfl
      omega
    by_cases hsm : n < 16
    · have d0 : (((n / 16 : Nat) : Int) == 0) = true := by rw [beq_iff_eq]; omega
      have hsl : ∀ wq, Sem.run Tryf.prog (Instr.sliceAt 45 (.pointer (some ⟨w.heap.size, 0, none⟩)) (some (.int .i64 k)) none none) wq = .ok (.slice (some ⟨w.heap.size, k, none⟩) (64 - k) (64 - k)) wq := by
        intro wq
        rw [run_sliceAt_array_l _ _ _ (by kernel_rfl) _ _ k0 k2]
        have e1 : Tryf.prog.arrayLen 45 = 64 := by kernel_rfl
        have e2 : (sizeOf (Tryf.prog.elem 45)).run Tryf.prog wq = .ok 1 wq := by kernel_rfl
        rw [e1, e2]
        simp only [Result.andThen, slicedAt, Int.toNat_natCast]
        rw [if_neg (by omega), addr_add]
        simp
      have hdx : digs 16 x = n % 16 :: ds := by rw [hd.out, digs_lt hsm]; rfl
      have hcv : Sem.run Tryf.prog (convert 46 9 (.slice (some ⟨w.heap.size, k, none⟩) (64 - k) (64 - k))) (wr.setCell ⟨w.heap.size, k, none⟩ (.int .u8 ((ch.toNat : Nat) : Int))) = .ok (.string ⟨((digs 16 x).map (dch loDigits)).toArray⟩) (wr.setCell ⟨w.heap.size, k, none⟩ (.int .u8 ((ch.toNat : Nat) : Int))) := by
        rw [hdx, run_convert_bytes_string _ _ _ 5 _ _ _ (by kernel_rfl) (by kernel_rfl) (by kernel_rfl)]
        refine bytes_of_cells ?_ (by simp; omega)
        intro j hj
        rw [cell_of_block ho.own (k + j), HCE.out (k + j) (by omega) (by simp at hj; omega)]
        simp
      have hdl : 2 + (digs 16 x).length ≤ 9223372036854775807 := by rw [hdx]; simp; omega
      have Hdx := Lib.hid hdx
      clear hdx
      go_wp2_with fail
      go_ret
      refine ⟨rfl, ?_⟩
      exact ⟨ho.os.trans hlow.os, ho.tape.trans hlow.tape, ho.output.trans hlow.output, Nat.le_trans hlow.size ho.size, fun j hj => (ho.others j (Nat.lt_of_lt_of_le hj hlow.size) (by omega)).trans (hlow.block j hj)⟩
    · have d0 : (((n / 16 : Nat) : Int) == 0) = false := by rw [beq_eq_false_iff_ne]; omega
      have hk1 : 1 ≤ k := by
        by_cases hk : k = 0
        · subst hk; simp at hn; omega
        · omega
      have hn2 : n / 16 < 2 ^ k := by
        have : (2 : Nat) ^ (k + 1) = 2 ^ k * 2 := Nat.pow_succ 2 k
        omega
      go_wp2_with fail
      go_roundg k
      case measure => omega
      case rel =>
        refine ⟨n / 16, k, n % 16 :: ds, by go_num, rfl, rfl, hn2, hk1, by omega, ⟨?_, ⟨_, T, ho.own, by simpa using hcs, HCE.out⟩, by simp; omega⟩, Lib.hid ?_⟩
        · exact ⟨ho.os.trans hlow.os, ho.tape.trans hlow.tape, ho.output.trans hlow.output, Nat.le_trans hlow.size ho.size, fun j hj => (ho.others j (Nat.lt_of_lt_of_le hj hlow.size) (by omega)).trans (hlow.block j hj)⟩
        · rw [hd.out, digs_ge (by decide) (by omega)]; simp

set_option maxHeartbeats 4000000 in
set_option maxRecDepth 100000 in
theorem zzRender_1uL (x : Nat) (hx : x < 18446744073709551616) (w : World) :
    Calls Tryf.prog 9 #[.int .u64 x, .int .u8 1, .bool true, .bool false] w fun e w' => e = .returned (.string ((⟨#[48, 88]⟩ : ByteArray) ++ ⟨((digs 16 x).map (dch loDigits)).toArray⟩)) ∧ Below w.heap.size w w' := by
  go_enter Tryf.func9, Tryf.ntmps9
  go_wp2_with fail
  go_loopg [0, 13] 64 (fun g xv iv wr => ∃ (n i : Nat) (ds : List Nat), xv = .int .u64 n ∧ iv = .int .i64 i ∧ g = i ∧ n < 2 ^ i ∧ 1 ≤ i ∧ i ≤ 64 ∧ Buf w wr loDigits i ds ∧ Hid (digs 16 x = digs 16 n ++ ds))
  case atStart => exact ⟨x, 64, [], rfl, rfl, rfl, by simpa using hx, by decide, by decide, ⟨(Below.refl _ _).alloc (Nat.le_refl _) _, ⟨_, _, heap_alloc_at rfl, rfl, fun j h1 h2 => by omega⟩, rfl⟩, Lib.hid (by simp)⟩
  case round =>
    obtain ⟨n, i, ds, rfl, rfl, hg, hn, hi1, hi2, hbuf, hd⟩ := hrel
    obtain ⟨hlow, ⟨c, T, hc, hcs, hcd⟩, hlen⟩ := hbuf
    have fz := free_of_block hc
    have l0 : w.heap.size < wr.heap.size := (Array.getElem?_eq_some_iff.1 hc).1
    obtain ⟨k, rfl⟩ : ∃ k, i = k + 1 := ⟨i - 1, by omega⟩
    have ki : ((k + 1 : Nat) : Int) - 1 = (k : Int) := by omega
    have kw : IntKind.i64.wrap (((k + 1 : Nat) : Int) - 1) = (k : Int) := by rw [IntKind.wrap_i64]; omega
    have k0 : (0 : Int) ≤ (k : Int) := by omega
    have k1 : (k : Int) < 64 := by omega
    obtain ⟨v0, hv0⟩ : ∃ v, wr.cell? ⟨w.heap.size, k, none⟩ = some v := ⟨_, (cell_of_block hc k).trans (Array.getElem?_eq_getElem (by omega))⟩
    have HC := Lib.hid hc
    clear hc
    have uw : IntKind.u64.wrap ((n : Int) / 16) = ((n / 16 : Nat) : Int) := by
      have : n < 18446744073709551616 := Nat.lt_of_lt_of_le hn (by exact Nat.pow_le_pow_right (by decide) hi2)
      rw [IntKind.wrap_u64]; omega
    obtain ⟨ch, hch⟩ : ∃ ch : UInt8, ch = dch loDigits (n % 16) := ⟨_, rfl⟩
    have hch2 : ∀ h, (⟨#[48, 49, 50, 51, 52, 53, 54, 55, 56, 57, 97, 98, 99, 100, 101, 102]⟩ : ByteArray)[n % 16]'h = ch := by
      intro h
      rw [hch]
      unfold dch loDigits
      simp [Array.getD, ByteArray.getElem_eq_getElem_data]
      omega
    have ho := (OnlyL.refl HC.out).setCell k (.int .u8 ((ch.toNat : Nat) : Int))
    have hcells : ∀ j, k ≤ j → j < 64 → (c.setIfInBounds k (.int .u8 ((ch.toNat : Nat) : Int)))[j]? = some (.int .u8 ((dch loDigits ((n % 16 :: ds).getD (j - k) 0)).toNat : Nat)) := by
      intro j h1 h2
      by_cases hjk : j = k
      · subst hjk
        rw [Array.getElem?_setIfInBounds_self_of_lt (by omega), hch]
        simp
      · rw [Array.getElem?_setIfInBounds_ne (by omega), hcd j (by omega) h2]
        rw [show j - k = (j - (k + 1)) + 1 by omega]
        rfl
    have HCH := Lib.hid hch
    have HCE := Lib.hid hcells
    have HCD := Lib.hid hcd
    clear hch hcells hcd
    have k2 : (k : Int) ≤ Tryf.prog.arrayLen 45 := by
      have : Tryf.prog.arrayLen 45 = 64 := by kernel_rfl
      omega
    by_cases hsm : n < 16
    · have d0 : (((n / 16 : Nat) : Int) == 0) = true := by rw [beq_iff_eq]; omega
      have hsl : ∀ wq, Sem.run Tryf.prog (Instr.sliceAt 45 (.pointer (some ⟨w.heap.size, 0, none⟩)) (some (.int .i64 k)) none none) wq = .ok (.slice (some ⟨w.heap.size, k, none⟩) (64 - k) (64 - k)) wq := by
        intro wq
        rw [run_sliceAt_array_l _ _ _ (by kernel_rfl) _ _ k0 k2]
        have e1 : Tryf.prog.arrayLen 45 = 64 := by kernel_rfl
        have e2 : (sizeOf (Tryf.prog.elem 45)).run Tryf.prog wq = .ok 1 wq := by kernel_rfl
        rw [e1, e2]
        simp only [Result.andThen, slicedAt, Int.toNat_natCast]
        rw [if_neg (by omega), addr_add]
        simp
      have hdx : digs 16 x = n % 16 :: ds := by rw [hd.out, digs_lt hsm]; rfl
      have hcv : Sem.run Tryf.prog (convert 46 9 (.slice (some ⟨w.heap.size, k, none⟩) (64 - k) (64 - k))) (wr.setCell ⟨w.heap.size, k, none⟩ (.int .u8 ((ch.toNat : Nat) : Int))) = .ok (.string ⟨((digs 16 x).map (dch loDigits)).toArray⟩) (wr.setCell ⟨w.heap.size, k, none⟩ (.int .u8 ((ch.toNat : Nat) : Int))) := by
        rw [hdx, run_convert_bytes_string _ _ _ 5 _ _ _ (by kernel_rfl) (by kernel_rfl) (by kernel_rfl)]
        refine bytes_of_cells ?_ (by simp; omega)
        intro j hj
        rw [cell_of_block ho.own (k + j), HCE.out (k + j) (by omega) (by simp at hj; omega)]
        simp
      have hdl : 2 + (digs 16 x).length ≤ 9223372036854775807 := by rw [hdx]; simp; omega
      have Hdx := Lib.hid hdx
      clear hdx
      go_wp2_with fail
      go_ret
      refine ⟨rfl, ?_⟩
      exact ⟨ho.os.trans hlow.os, ho.tape.trans hlow.tape, ho.output.trans hlow.output, Nat.le_trans hlow.size ho.size, fun j hj => (ho.others j (Nat.lt_of_lt_of_le hj hlow.size) (by omega)).trans (hlow.block j hj)⟩
    · have d0 : (((n / 16 : Nat) : Int) == 0) = false := by rw [beq_eq_false_iff_ne]; omega
      have hk1 : 1 ≤ k := by
        by_cases hk : k = 0
        · subst hk; simp at hn; omega
        · omega
      have hn2 : n / 16 < 2 ^ k := by
        have : (2 : Nat) ^ (k + 1) = 2 ^ k * 2 := Nat.pow_succ 2 k
        omega
      go_wp2_with fail
      go_roundg k
      case measure => omega
      case rel =>
        refine ⟨n / 16, k, n % 16 :: ds, by go_num, rfl, rfl, hn2, hk1, by omega, ⟨?_, ⟨_, T, ho.own, by simpa using hcs, HCE.out⟩, by simp; omega⟩, Lib.hid ?_⟩
        · exact ⟨ho.os.trans hlow.os, ho.tape.trans hlow.tape, ho.output.trans hlow.output, Nat.le_trans hlow.size ho.size, fun j hj => (ho.others j (Nat.lt_of_lt_of_le hj hlow.size) (by omega)).trans (hlow.block j hj)⟩
        · rw [hd.out, digs_ge (by decide) (by omega)]; simp

set_option maxHeartbeats 4000000 in
set_option maxRecDepth 100000 in
theorem zzRender_1lU (x : Nat) (hx : x < 18446744073709551616) (w : World) :
    Calls Tryf.prog 9 #[.int .u64 x, .int .u8 1, .bool false, .bool true] w fun e w' => e = .returned (.string ((⟨#[48, 120]⟩ : ByteArray) ++ ⟨((digs 16 x).map (dch upDigits)).toArray⟩)) ∧ Below w.heap.size w w' := by
  go_enter Tryf.func9, Tryf.ntmps9
  go_wp2_with fail
  go_loopg [0, 13] 64 (fun g xv iv wr => ∃ (n i : Nat) (ds : List Nat), xv = .int .u64 n ∧ iv = .int .i64 i ∧ g = i ∧ n < 2 ^ i ∧ 1 ≤ i ∧ i ≤ 64 ∧ Buf w wr upDigits i ds ∧ Hid (digs 16 x = digs 16 n ++ ds))
  case atStart => exact ⟨x, 64, [], rfl, rfl, rfl, by simpa using hx, by decide, by decide, ⟨(Below.refl _ _).alloc (Nat.le_refl _) _, ⟨_, _, heap_alloc_at rfl, rfl, fun j h1 h2 => by omega⟩, rfl⟩, Lib.hid (by simp)⟩
  case round =>
    obtain ⟨n, i, ds, rfl, rfl, hg, hn, hi1, hi2, hbuf, hd⟩ := hrel
    obtain ⟨hlow, ⟨c, T, hc, hcs, hcd⟩, hlen⟩ := hbuf
    have fz := free_of_block hc
    have l0 : w.heap.size < wr.heap.size := (Array.getElem?_eq_some_iff.1 hc).1
    obtain ⟨k, rfl⟩ : ∃ k, i = k + 1 := ⟨i - 1, by omega⟩
    have ki : ((k + 1 : Nat) : Int) - 1 = (k : Int) := by omega
    have kw : IntKind.i64.wrap (((k + 1 : Nat) : Int) - 1) = (k : Int) := by rw [IntKind.wrap_i64]; omega
    have k0 : (0 : Int) ≤ (k : Int) := by omega
    have k1 : (k : Int) < 64 := by omega
    obtain ⟨v0, hv0⟩ : ∃ v, wr.cell? ⟨w.heap.size, k, none⟩ = some v := ⟨_, (cell_of_block hc k).trans (Array.getElem?_eq_getElem (by omega))⟩
    have HC := Lib.hid hc
    clear hc
    have uw : IntKind.u64.wrap ((n : Int) / 16) = ((n / 16 : Nat) : Int) := by
      have : n < 18446744073709551616 := Nat.lt_of_lt_of_le hn (by exact Nat.pow_le_pow_right (by decide) hi2)
      rw [IntKind.wrap_u64]; omega
    obtain ⟨ch, hch⟩ : ∃ ch : UInt8, ch = dch upDigits (n % 16) := ⟨_, rfl⟩
    have hch2 : ∀ h, (⟨#[48, 49, 50, 51, 52, 53, 54, 55, 56, 57, 65, 66, 67, 68, 69, 70]⟩ : ByteArray)[n % 16]'h = ch := by
      intro h
      rw [hch]
      unfold dch upDigits
      simp [Array.getD, ByteArray.getElem_eq_getElem_data]
      omega
    have ho := (OnlyL.refl HC.out).setCell k (.int .u8 ((ch.toNat : Nat) : Int))
    have hcells : ∀ j, k ≤ j → j < 64 → (c.setIfInBounds k (.int .u8 ((ch.toNat : Nat) : Int)))[j]? = some (.int .u8 ((dch upDigits ((n % 16 :: ds).getD (j - k) 0)).toNat : Nat)) := by
      intro j h1 h2
      by_cases hjk : j = k
      · subst hjk
        rw [Array.getElem?_setIfInBounds_self_of_lt (by omega), hch]
        simp
      · rw [Array.getElem?_setIfInBounds_ne (by omega), hcd j (by omega) h2]
        rw [show j - k = (j - (k + 1)) + 1 by omega]
        rfl
    have HCH := Lib.hid hch
    have HCE := Lib.hid hcells
    have HCD := Lib.hid hcd
    clear hch hcells hcd
    have k2 : (k : Int) ≤ Tryf.prog.arrayLen 45 := by
      have : Tryf.prog.arrayLen 45 = 64 := by kernel_rfl
      omega
    by_cases hsm : n < 16
    · have d0 : (((n / 16 : Nat) : Int) == 0) = true := by rw [beq_iff_eq]; omega
      have hsl : ∀ wq, Sem.run Tryf.prog (Instr.sliceAt 45 (.pointer (some ⟨w.heap.size, 0, none⟩)) (some (.int .i64 k)) none none) wq = .ok (.slice (some ⟨w.heap.size, k, none⟩) (64 - k) (64 - k)) wq := by
        intro wq
        rw [run_sliceAt_array_l _ _ _ (by kernel_rfl) _ _ k0 k2]
        have e1 : Tryf.prog.arrayLen 45 = 64 := by kernel_rfl
        have e2 : (sizeOf (Tryf.prog.elem 45)).run Tryf.prog wq = .ok 1 wq := by kernel_rfl
        rw [e1, e2]
        simp only [Result.andThen, slicedAt, Int.toNat_natCast]
        rw [if_neg (by omega), addr_add]
        simp
      have hdx : digs 16 x = n % 16 :: ds := by rw [hd.out, digs_lt hsm]; rfl
      have hcv : Sem.run Tryf.prog (convert 46 9 (.slice (some ⟨w.heap.size, k, none⟩) (64 - k) (64 - k))) (wr.setCell ⟨w.heap.size, k, none⟩ (.int .u8 ((ch.toNat : Nat) : Int))) = .ok (.string ⟨((digs 16 x).map (dch upDigits)).toArray⟩) (wr.setCell ⟨w.heap.size, k, none⟩ (.int .u8 ((ch.toNat : Nat) : Int))) := by
        rw [hdx, run_convert_bytes_string _ _ _ 5 _ _ _ (by kernel_rfl) (by kernel_rfl) (by kernel_rfl)]
        refine bytes_of_cells ?_ (by simp; omega)
        intro j hj
        rw [cell_of_block ho.own (k + j), HCE.out (k + j) (by omega) (by simp at hj; omega)]
        simp
      have hdl : 2 + (digs 16 x).length ≤ 9223372036854775807 := by rw [hdx]; simp; omega
      have Hdx := Lib.hid hdx
      clear hdx
      go_wp2_with fail
      go_ret
      refine ⟨rfl, ?_⟩
      exact ⟨ho.os.trans hlow.os, ho.tape.trans hlow.tape, ho.output.trans hlow.output, Nat.le_trans hlow.size ho.size, fun j hj => (ho.others j (Nat.lt_of_lt_of_le hj hlow.size) (by omega)).trans (hlow.block j hj)⟩
    · have d0 : (((n / 16 : Nat) : Int) == 0) = false := by rw [beq_eq_false_iff_ne]; omega
      have hk1 : 1 ≤ k := by
        by_cases hk : k = 0
        · subst hk; simp at hn; omega
        · omega
      have hn2 : n / 16 < 2 ^ k := by
        have : (2 : Nat) ^ (k + 1) = 2 ^ k * 2 := Nat.pow_succ 2 k
        omega
      go_wp2_with fail
      go_roundg k
      case measure => omega
      case rel =>
        refine ⟨n / 16, k, n % 16 :: ds, by go_num, rfl, rfl, hn2, hk1, by omega, ⟨?_, ⟨_, T, ho.own, by simpa using hcs, HCE.out⟩, by simp; omega⟩, Lib.hid ?_⟩
        · exact ⟨ho.os.trans hlow.os, ho.tape.trans hlow.tape, ho.output.trans hlow.output, Nat.le_trans hlow.size ho.size, fun j hj => (ho.others j (Nat.lt_of_lt_of_le hj hlow.size) (by omega)).trans (hlow.block j hj)⟩
        · rw [hd.out, digs_ge (by decide) (by omega)]; simp

set_option maxHeartbeats 4000000 in
set_option maxRecDepth 100000 in
theorem zzRender_1uU (x : Nat) (hx : x < 18446744073709551616) (w : World) :
    Calls Tryf.prog 9 #[.int .u64 x, .int .u8 1, .bool true, .bool true] w fun e w' => e = .returned (.string ((⟨#[48, 88]⟩ : ByteArray) ++ ⟨((digs 16 x).map (dch upDigits)).toArray⟩)) ∧ Below w.heap.size w w' := by
  go_enter Tryf.func9, Tryf.ntmps9
  go_wp2_with fail
  go_loopg [0, 13] 64 (fun g xv iv wr => ∃ (n i : Nat) (ds : List Nat), xv = .int .u64 n ∧ iv = .int .i64 i ∧ g = i ∧ n < 2 ^ i ∧ 1 ≤ i ∧ i ≤ 64 ∧ Buf w wr upDigits i ds ∧ Hid (digs 16 x = digs 16 n ++ ds))
  case atStart => exact ⟨x, 64, [], rfl, rfl, rfl, by simpa using hx, by decide, by decide, ⟨(Below.refl _ _).alloc (Nat.le_refl _) _, ⟨_, _, heap_alloc_at rfl, rfl, fun j h1 h2 => by omega⟩, rfl⟩, Lib.hid (by simp)⟩
  case round =>
    obtain ⟨n, i, ds, rfl, rfl, hg, hn, hi1, hi2, hbuf, hd⟩ := hrel
    obtain ⟨hlow, ⟨c, T, hc, hcs, hcd⟩, hlen⟩ := hbuf
    have fz := free_of_block hc
    have l0 : w.heap.size < wr.heap.size := (Array.getElem?_eq_some_iff.1 hc).1
    obtain ⟨k, rfl⟩ : ∃ k, i = k + 1 := ⟨i - 1, by omega⟩
    have ki : ((k + 1 : Nat) : Int) - 1 = (k : Int) := by omega
    have kw : IntKind.i64.wrap (((k + 1 : Nat) : Int) - 1) = (k : Int) := by rw [IntKind.wrap_i64]; omega
    have k0 : (0 : Int) ≤ (k : Int) := by omega
    have k1 : (k : Int) < 64 := by omega
    obtain ⟨v0, hv0⟩ : ∃ v, wr.cell? ⟨w.heap.size, k, none⟩ = some v := ⟨_, (cell_of_block hc k).trans (Array.getElem?_eq_getElem (by omega))⟩
    have HC := Lib.hid hc
    clear hc
    have uw : IntKind.u64.wrap ((n : Int) / 16) = ((n / 16 : Nat) : Int) := by
      have : n < 18446744073709551616 := Nat.lt_of_lt_of_le hn (by exact Nat.pow_le_pow_right (by decide) hi2)
      rw [IntKind.wrap_u64]; omega
    obtain ⟨ch, hch⟩ : ∃ ch : UInt8, ch = dch upDigits (n % 16) := ⟨_, rfl⟩
    have hch2 : ∀ h, (⟨#[48, 49, 50, 51, 52, 53, 54, 55, 56, 57, 65, 66, 67, 68, 69, 70]⟩ : ByteArray)[n % 16]'h = ch := by
      intro h
      rw [hch]
      unfold dch upDigits
      simp [Array.getD, ByteArray.getElem_eq_getElem_data]
      omega
    have ho := (OnlyL.refl HC.out).setCell k (.int .u8 ((ch.toNat : Nat) : Int))
    have hcells : ∀ j, k ≤ j → j < 64 → (c.setIfInBounds k (.int .u8 ((ch.toNat : Nat) : Int)))[j]? = some (.int .u8 ((dch upDigits ((n % 16 :: ds).getD (j - k) 0)).toNat : Nat)) := by
      intro j h1 h2
      by_cases hjk : j = k
      · subst hjk
        rw [Array.getElem?_setIfInBounds_self_of_lt (by omega), hch]
        simp
      · rw [Array.getElem?_setIfInBounds_ne (by omega), hcd j (by omega) h2]
        rw [show j - k = (j - (k + 1)) + 1 by omega]
        rfl
    have HCH := Lib.hid hch
    have HCE := Lib.hid hcells
    have HCD := Lib.hid hcd
    clear hch hcells hcd
    have k2 : (k : Int) ≤ Tryf.prog.arrayLen 45 := by
      have : Tryf.prog.arrayLen 45 = 64 := by kernel_rfl
      omega
    by_cases hsm : n < 16
    · have d0 : (((n / 16 : Nat) : Int) == 0) = true := by rw [beq_iff_eq]; omega
      have hsl : ∀ wq, Sem.run Tryf.prog (Instr.sliceAt 45 (.pointer (some ⟨w.heap.size, 0, none⟩)) (some (.int .i64 k)) none none) wq = .ok (.slice (some ⟨w.heap.size, k, none⟩) (64 - k) (64 - k)) wq := by
        intro wq
        rw [run_sliceAt_array_l _ _ _ (by kernel_rfl) _ _ k0 k2]
        have e1 : Tryf.prog.arrayLen 45 = 64 := by kernel_rfl
        have e2 : (sizeOf (Tryf.prog.elem 45)).run Tryf.prog wq = .ok 1 wq := by kernel_rfl
        rw [e1, e2]
        simp only [Result.andThen, slicedAt, Int.toNat_natCast]
        rw [if_neg (by omega), addr_add]
        simp
      have hdx : digs 16 x = n % 16 :: ds := by rw [hd.out, digs_lt hsm]; rfl
      have hcv : Sem.run Tryf.prog (convert 46 9 (.slice (some ⟨w.heap.size, k, none⟩) (64 - k) (64 - k))) (wr.setCell ⟨w.heap.size, k, none⟩ (.int .u8 ((ch.toNat : Nat) : Int))) = .ok (.string ⟨((digs 16 x).map (dch upDigits)).toArray⟩) (wr.setCell ⟨w.heap.size, k, none⟩ (.int .u8 ((ch.toNat : Nat) : Int))) := by
        rw [hdx, run_convert_bytes_string _ _ _ 5 _ _ _ (by kernel_rfl) (by kernel_rfl) (by kernel_rfl)]
        refine bytes_of_cells ?_ (by simp; omega)
        intro j hj
        rw [cell_of_block ho.own (k + j), HCE.out (k + j) (by omega) (by simp at hj; omega)]
        simp
      have hdl : 2 + (digs 16 x).length ≤ 9223372036854775807 := by rw [hdx]; simp; omega
      have Hdx := Lib.hid hdx
      clear hdx
      go_wp2_with fail
      go_ret
      refine ⟨rfl, ?_⟩
      exact ⟨ho.os.trans hlow.os, ho.tape.trans hlow.tape, ho.output.trans hlow.output, Nat.le_trans hlow.size ho.size, fun j hj => (ho.others j (Nat.lt_of_lt_of_le hj hlow.size) (by omega)).trans (hlow.block j hj)⟩
    · have d0 : (((n / 16 : Nat) : Int) == 0) = false := by rw [beq_eq_false_iff_ne]; omega
      have hk1 : 1 ≤ k := by
        by_cases hk : k = 0
        · subst hk; simp at hn; omega
        · omega
      have hn2 : n / 16 < 2 ^ k := by
        have : (2 : Nat) ^ (k + 1) = 2 ^ k * 2 := Nat.pow_succ 2 k
        omega
      go_wp2_with fail
      go_roundg k
      case measure => omega
      case rel =>
        refine ⟨n / 16, k, n % 16 :: ds, by go_num, rfl, rfl, hn2, hk1, by omega, ⟨?_, ⟨_, T, ho.own, by simpa using hcs, HCE.out⟩, by simp; omega⟩, Lib.hid ?_⟩
        · exact ⟨ho.os.trans hlow.os, ho.tape.trans hlow.tape, ho.output.trans hlow.output, Nat.le_trans hlow.size ho.size, fun j hj => (ho.others j (Nat.lt_of_lt_of_le hj hlow.size) (by omega)).trans (hlow.block j hj)⟩
        · rw [hd.out, digs_ge (by decide) (by omega)]; simp

set_option maxHeartbeats 4000000 in
set_option maxRecDepth 100000 in
theorem zzRender_2lL (x : Nat) (hx : x < 18446744073709551616) (w : World) :
    Calls Tryf.prog 9 #[.int .u64 x, .int .u8 2, .bool false, .bool false] w fun e w' => e = .returned (.string ((⟨#[48, 111]⟩ : ByteArray) ++ ⟨((digs 8 x).map (dch loDigits)).toArray⟩)) ∧ Below w.heap.size w w' := by
  go_enter Tryf.func9, Tryf.ntmps9
  go_wp2_with fail
  go_loopg [0, 13] 64 (fun g xv iv wr => ∃ (n i : Nat) (ds : List Nat), xv = .int .u64 n ∧ iv = .int .i64 i ∧ g = i ∧ n < 2 ^ i ∧ 1 ≤ i ∧ i ≤ 64 ∧ Buf w wr loDigits i ds ∧ Hid (digs 8 x = digs 8 n ++ ds))
  case atStart => exact ⟨x, 64, [], rfl, rfl, rfl, by simpa using hx, by decide, by decide, ⟨(Below.refl _ _).alloc (Nat.le_refl _) _, ⟨_, _, heap_alloc_at rfl, rfl, fun j h1 h2 => by omega⟩, rfl⟩, Lib.hid (by simp)⟩
  case round =>
    obtain ⟨n, i, ds, rfl, rfl, hg, hn, hi1, hi2, hbuf, hd⟩ := hrel
    obtain ⟨hlow, ⟨c, T, hc, hcs, hcd⟩, hlen⟩ := hbuf
    have fz := free_of_block hc
    have l0 : w.heap.size < wr.heap.size := (Array.getElem?_eq_some_iff.1 hc).1
    obtain ⟨k, rfl⟩ : ∃ k, i = k + 1 := ⟨i - 1, by omega⟩
    have ki : ((k + 1 : Nat) : Int) - 1 = (k : Int) := by omega
    have kw : IntKind.i64.wrap (((k + 1 : Nat) : Int) - 1) = (k : Int) := by rw [IntKind.wrap_i64]; omega
    have k0 : (0 : Int) ≤ (k : Int) := by omega
    have k1 : (k : Int) < 64 := by omega
    obtain ⟨v0, hv0⟩ : ∃ v, wr.cell? ⟨w.heap.size, k, none⟩ = some v := ⟨_, (cell_of_block hc k).trans (Array.getElem?_eq_getElem (by omega))⟩
    have HC := Lib.hid hc
    clear hc
    have uw : IntKind.u64.wrap ((n : Int) / 8) = ((n / 8 : Nat) : Int) := by
      have : n < 18446744073709551616 := Nat.lt_of_lt_of_le hn (by exact Nat.pow_le_pow_right (by decide) hi2)
      rw [IntKind.wrap_u64]; omega
    obtain ⟨ch, hch⟩ : ∃ ch : UInt8, ch = dch loDigits (n % 8) := ⟨_, rfl⟩
    have hch2 : ∀ h, (⟨#[48, 49, 50, 51, 52, 53, 54, 55, 56, 57, 97, 98, 99, 100, 101, 102]⟩ : ByteArray)[n % 8]'h = ch := by
      intro h
      rw [hch]
      unfold dch loDigits
      simp [Array.getD, ByteArray.getElem_eq_getElem_data]
      omega
    have ho := (OnlyL.refl HC.out).setCell k (.int .u8 ((ch.toNat : Nat) : Int))
    have hcells : ∀ j, k ≤ j → j < 64 → (c.setIfInBounds k (.int .u8 ((ch.toNat : Nat) : Int)))[j]? = some (.int .u8 ((dch loDigits ((n % 8 :: ds).getD (j - k) 0)).toNat : Nat)) := by
      intro j h1 h2
      by_cases hjk : j = k
      · subst hjk
        rw [Array.getElem?_setIfInBounds_self_of_lt (by omega), hch]
        simp
      · rw [Array.getElem?_setIfInBounds_ne (by omega), hcd j (by omega) h2]
        rw [show j - k = (j - (k + 1)) + 1 by omega]
        rfl
    have HCH := Lib.hid hch
    have HCE := Lib.hid hcells
    have HCD := Lib.hid hcd
    clear hch hcells hcd
    have k2 : (k : Int) ≤ Tryf.prog.arrayLen 45 := by
      have : Tryf.prog.arrayLen 45 = 64 := by kernel_rfl
      omega
    by_cases hsm : n < 8
    · have d0 : (((n / 8 : Nat) : Int) == 0) = true := by rw [beq_iff_eq]; omega
      have hsl : ∀ wq, Sem.run Tryf.prog (Instr.sliceAt 45 (.pointer (some ⟨w.heap.size, 0, none⟩)) (some (.int .i64 k)) none none) wq = .ok (.slice (some ⟨w.heap.size, k, none⟩) (64 - k) (64 - k)) wq := by
        intro wq
        rw [run_sliceAt_array_l _ _ _ (by kernel_rfl) _ _ k0 k2]
        have e1 : Tryf.prog.arrayLen 45 = 64 := by kernel_rfl
        have e2 : (sizeOf (Tryf.prog.elem 45)).run Tryf.prog wq = .ok 1 wq := by kernel_rfl
        rw [e1, e2]
        simp only [Result.andThen, slicedAt, Int.toNat_natCast]
        rw [if_neg (by omega), addr_add]
        simp
      have hdx : digs 8 x = n % 8 :: ds := by rw [hd.out, digs_lt hsm]; rfl
      have hcv : Sem.run Tryf.prog (convert 46 9 (.slice (some ⟨w.heap.size, k, none⟩) (64 - k) (64 - k))) (wr.setCell ⟨w.heap.size, k, none⟩ (.int .u8 ((ch.toNat : Nat) : Int))) = .ok (.string ⟨((digs 8 x).map (dch loDigits)).toArray⟩) (wr.setCell ⟨w.heap.size, k, none⟩ (.int .u8 ((ch.toNat : Nat) : Int))) := by
        rw [hdx, run_convert_bytes_string _ _ _ 5 _ _ _ (by kernel_rfl) (by kernel_rfl) (by kernel_rfl)]
        refine bytes_of_cells ?_ (by simp; omega)
        intro j hj
        rw [cell_of_block ho.own (k + j), HCE.out (k + j) (by omega) (by simp at hj; omega)]
        simp
      have hdl : 2 + (digs 8 x).length ≤ 9223372036854775807 := by rw [hdx]; simp; omega
      have Hdx := Lib.hid hdx
      clear hdx
      go_wp2_with fail
      go_ret
      refine ⟨rfl, ?_⟩
      exact ⟨ho.os.trans hlow.os, ho.tape.trans hlow.tape, ho.output.trans hlow.output, Nat.le_trans hlow.size ho.size, fun j hj => (ho.others j (Nat.lt_of_lt_of_le hj hlow.size) (by omega)).trans (hlow.block j hj)⟩
    · have d0 : (((n / 8 : Nat) : Int) == 0) = false := by rw [beq_eq_false_iff_ne]; omega
      have hk1 : 1 ≤ k := by
        by_cases hk : k = 0
        · subst hk; simp at hn; omega
        · omega
      have hn2 : n / 8 < 2 ^ k := by
        have : (2 : Nat) ^ (k + 1) = 2 ^ k * 2 := Nat.pow_succ 2 k
        omega
      go_wp2_with fail
      go_roundg k
      case measure => omega
      case rel =>
        refine ⟨n / 8, k, n % 8 :: ds, by go_num, rfl, rfl, hn2, hk1, by omega, ⟨?_, ⟨_, T, ho.own, by simpa using hcs, HCE.out⟩, by simp; omega⟩, Lib.hid ?_⟩
        · exact ⟨ho.os.trans hlow.os, ho.tape.trans hlow.tape, ho.output.trans hlow.output, Nat.le_trans hlow.size ho.size, fun j hj => (ho.others j (Nat.lt_of_lt_of_le hj hlow.size) (by omega)).trans (hlow.block j hj)⟩
        · rw [hd.out, digs_ge (by decide) (by omega)]; simp

set_option maxHeartbeats 4000000 in
set_option maxRecDepth 100000 in
theorem zzRender_2uL (x : Nat) (hx : x < 18446744073709551616) (w : World) :
    Calls Tryf.prog 9 #[.int .u64 x, .int .u8 2, .bool true, .bool false] w fun e w' => e = .returned (.string ((⟨#[48, 79]⟩ : ByteArray) ++ ⟨((digs 8 x).map (dch loDigits)).toArray⟩)) ∧ Below w.heap.size w w' := by
  go_enter Tryf.func9, Tryf.ntmps9
  go_wp2_with fail
  go_loopg [0, 13] 64 (fun g xv iv wr => ∃ (n i : Nat) (ds : List Nat), xv = .int .u64 n ∧ iv = .int .i64 i ∧ g = i ∧ n < 2 ^ i ∧ 1 ≤ i ∧ i ≤ 64 ∧ Buf w wr loDigits i ds ∧ Hid (digs 8 x = digs 8 n ++ ds))
  case atStart => exact ⟨x, 64, [], rfl, rfl, rfl, by simpa using hx, by decide, by decide, ⟨(Below.refl _ _).alloc (Nat.le_refl _) _, ⟨_, _, heap_alloc_at rfl, rfl, fun j h1 h2 => by omega⟩, rfl⟩, Lib.hid (by simp)⟩
  case round =>
    obtain ⟨n, i, ds, rfl, rfl, hg, hn, hi1, hi2, hbuf, hd⟩ := hrel
    obtain ⟨hlow, ⟨c, T, hc, hcs, hcd⟩, hlen⟩ := hbuf
    have fz := free_of_block hc
    have l0 : w.heap.size < wr.heap.size := (Array.getElem?_eq_some_iff.1 hc).1
    obtain ⟨k, rfl⟩ : ∃ k, i = k + 1 := ⟨i - 1, by omega⟩
    have ki : ((k + 1 : Nat) : Int) - 1 = (k : Int) := by omega
    have kw : IntKind.i64.wrap (((k + 1 : Nat) : Int) - 1) = (k : Int) := by rw [IntKind.wrap_i64]; omega
    have k0 : (0 : Int) ≤ (k : Int) := by omega
    have k1 : (k : Int) < 64 := by omega
    obtain ⟨v0, hv0⟩ : ∃ v, wr.cell? ⟨w.heap.size, k, none⟩ = some v := ⟨_, (cell_of_block hc k).trans (Array.getElem?_eq_getElem (by omega))⟩
    have HC := Lib.hid hc
    clear hc
    have uw : IntKind.u64.wrap ((n : Int) / 8) = ((n / 8 : Nat) : Int) := by
      have : n < 18446744073709551616 := Nat.lt_of_lt_of_le hn (by exact Nat.pow_le_pow_right (by decide) hi2)
      rw [IntKind.wrap_u64]; omega
    obtain ⟨ch, hch⟩ : ∃ ch : UInt8, ch = dch loDigits (n % 8) := ⟨_, rfl⟩
    have hch2 : ∀ h, (⟨#[48, 49, 50, 51, 52, 53, 54, 55, 56, 57, 97, 98, 99, 100, 101, 102]⟩ : ByteArray)[n % 8]'h = ch := by
      intro h
      rw [hch]
      unfold dch loDigits
      simp [Array.getD, ByteArray.getElem_eq_getElem_data]
      omega
    have ho := (OnlyL.refl HC.out).setCell k (.int .u8 ((ch.toNat : Nat) : Int))
    have hcells : ∀ j, k ≤ j → j < 64 → (c.setIfInBounds k (.int .u8 ((ch.toNat : Nat) : Int)))[j]? = some (.int .u8 ((dch loDigits ((n % 8 :: ds).getD (j - k) 0)).toNat : Nat)) := by
      intro j h1 h2
      by_cases hjk : j = k
      · subst hjk
        rw [Array.getElem?_setIfInBounds_self_of_lt (by omega), hch]
        simp
      · rw [Array.getElem?_setIfInBounds_ne (by omega), hcd j (by omega) h2]
        rw [show j - k = (j - (k + 1)) + 1 by omega]
        rfl
    have HCH := Lib.hid hch
    have HCE := Lib.hid hcells
    have HCD := Lib.hid hcd
    clear hch hcells hcd
    have k2 : (k : Int) ≤ Tryf.prog.arrayLen 45 := by
      have : Tryf.prog.arrayLen 45 = 64 := by kernel_rfl
      omega
    by_cases hsm : n < 8
    · have d0 : (((n / 8 : Nat) : Int) == 0) = true := by rw [beq_iff_eq]; omega
      have hsl : ∀ wq, Sem.run Tryf.prog (Instr.sliceAt 45 (.pointer (some ⟨w.heap.size, 0, none⟩)) (some (.int .i64 k)) none none) wq = .ok (.slice (some ⟨w.heap.size, k, none⟩) (64 - k) (64 - k)) wq := by
        intro wq
        rw [run_sliceAt_array_l _ _ _ (by kernel_rfl) _ _ k0 k2]
        have e1 : Tryf.prog.arrayLen 45 = 64 := by kernel_rfl
        have e2 : (sizeOf (Tryf.prog.elem 45)).run Tryf.prog wq = .ok 1 wq := by kernel_rfl
        rw [e1, e2]
        simp only [Result.andThen, slicedAt, Int.toNat_natCast]
        rw [if_neg (by omega), addr_add]
        simp
      have hdx : digs 8 x = n % 8 :: ds := by rw [hd.out, digs_lt hsm]; rfl
      have hcv : Sem.run Tryf.prog (convert 46 9 (.slice (some ⟨w.heap.size, k, none⟩) (64 - k) (64 - k))) (wr.setCell ⟨w.heap.size, k, none⟩ (.int .u8 ((ch.toNat : Nat) : Int))) = .ok (.string ⟨((digs 8 x).map (dch loDigits)).toArray⟩) (wr.setCell ⟨w.heap.size, k, none⟩ (.int .u8 ((ch.toNat : Nat) : Int))) := by
        rw [hdx, run_convert_bytes_string _ _ _ 5 _ _ _ (by kernel_rfl) (by kernel_rfl) (by kernel_rfl)]
        refine bytes_of_cells ?_ (by simp; omega)
        intro j hj
        rw [cell_of_block ho.own (k + j), HCE.out (k + j) (by omega) (by simp at hj; omega)]
        simp
      have hdl : 2 + (digs 8 x).length ≤ 9223372036854775807 := by rw [hdx]; simp; omega
      have Hdx := Lib.hid hdx
      clear hdx
      go_wp2_with fail
      go_ret
      refine ⟨rfl, ?_⟩
      exact ⟨ho.os.trans hlow.os, ho.tape.trans hlow.tape, ho.output.trans hlow.output, Nat.le_trans hlow.size ho.size, fun j hj => (ho.others j (Nat.lt_of_lt_of_le hj hlow.size) (by omega)).trans (hlow.block j hj)⟩
    · have d0 : (((n / 8 : Nat) : Int) == 0) = false := by rw [beq_eq_false_iff_ne]; omega
      have hk1 : 1 ≤ k := by
        by_cases hk : k = 0
        · subst hk; simp at hn; omega
        · omega
      have hn2 : n / 8 < 2 ^ k := by
        have : (2 : Nat) ^ (k + 1) = 2 ^ k * 2 := Nat.pow_succ 2 k
        omega
      go_wp2_with fail
      go_roundg k
      case measure => omega
      case rel =>
        refine ⟨n / 8, k, n % 8 :: ds, by go_num, rfl, rfl, hn2, hk1, by omega, ⟨?_, ⟨_, T, ho.own, by simpa using hcs, HCE.out⟩, by simp; omega⟩, Lib.hid ?_⟩
        · exact ⟨ho.os.trans hlow.os, ho.tape.trans hlow.tape, ho.output.trans hlow.output, Nat.le_trans hlow.size ho.size, fun j hj => (ho.others j (Nat.lt_of_lt_of_le hj hlow.size) (by omega)).trans (hlow.block j hj)⟩
        · rw [hd.out, digs_ge (by decide) (by omega)]; simp

set_option maxHeartbeats 4000000 in
set_option maxRecDepth 100000 in
theorem zzRender_2lU (x : Nat) (hx : x < 18446744073709551616) (w : World) :
    Calls Tryf.prog 9 #[.int .u64 x, .int .u8 2, .bool false, .bool true] w fun e w' => e = .returned (.string ((⟨#[48, 111]⟩ : ByteArray) ++ ⟨((digs 8 x).map (dch upDigits)).toArray⟩)) ∧ Below w.heap.size w w' := by
  go_enter Tryf.func9, Tryf.ntmps9
  go_wp2_with fail
  go_loopg [0, 13] 64 (fun g xv iv wr => ∃ (n i : Nat) (ds : List Nat), xv = .int .u64 n ∧ iv = .int .i64 i ∧ g = i ∧ n < 2 ^ i ∧ 1 ≤ i ∧ i ≤ 64 ∧ Buf w wr upDigits i ds ∧ Hid (digs 8 x = digs 8 n ++ ds))
  case atStart => exact ⟨x, 64, [], rfl, rfl, rfl, by simpa using hx, by decide, by decide, ⟨(Below.refl _ _).alloc (Nat.le_refl _) _, ⟨_, _, heap_alloc_at rfl, rfl, fun j h1 h2 => by omega⟩, rfl⟩, Lib.hid (by simp)⟩
  case round =>
    obtain ⟨n, i, ds, rfl, rfl, hg, hn, hi1, hi2, hbuf, hd⟩ := hrel
    obtain ⟨hlow, ⟨c, T, hc, hcs, hcd⟩, hlen⟩ := hbuf
    have fz := free_of_block hc
    have l0 : w.heap.size < wr.heap.size := (Array.getElem?_eq_some_iff.1 hc).1
    obtain ⟨k, rfl⟩ : ∃ k, i = k + 1 := ⟨i - 1, by omega⟩
    have ki : ((k + 1 : Nat) : Int) - 1 = (k : Int) := by omega
    have kw : IntKind.i64.wrap (((k + 1 : Nat) : Int) - 1) = (k : Int) := by rw [IntKind.wrap_i64]; omega
    have k0 : (0 : Int) ≤ (k : Int) := by omega
    have k1 : (k : Int) < 64 := by omega
    obtain ⟨v0, hv0⟩ : ∃ v, wr.cell? ⟨w.heap.size, k, none⟩ = some v := ⟨_, (cell_of_block hc k).trans (Array.getElem?_eq_getElem (by omega))⟩
    have HC := Lib.hid hc
    clear hc
    have uw : IntKind.u64.wrap ((n : Int) / 8) = ((n / 8 : Nat) : Int) := by
      have : n < 18446744073709551616 := Nat.lt_of_lt_of_le hn (by exact Nat.pow_le_pow_right (by decide) hi2)
      rw [IntKind.wrap_u64]; omega
    obtain ⟨ch, hch⟩ : ∃ ch : UInt8, ch = dch upDigits (n % 8) := ⟨_, rfl⟩
    have hch2 : ∀ h, (⟨#[48, 49, 50, 51, 52, 53, 54, 55, 56, 57, 65, 66, 67, 68, 69, 70]⟩ : ByteArray)[n % 8]'h = ch := by
      intro h
      rw [hch]
      unfold dch upDigits
      simp [Array.getD, ByteArray.getElem_eq_getElem_data]
      omega
    have ho := (OnlyL.refl HC.out).setCell k (.int .u8 ((ch.toNat : Nat) : Int))
    have hcells : ∀ j, k ≤ j → j < 64 → (c.setIfInBounds k (.int .u8 ((ch.toNat : Nat) : Int)))[j]? = some (.int .u8 ((dch upDigits ((n % 8 :: ds).getD (j - k) 0)).toNat : Nat)) := by
      intro j h1 h2
      by_cases hjk : j = k
      · subst hjk
        rw [Array.getElem?_setIfInBounds_self_of_lt (by omega), hch]
        simp
      · rw [Array.getElem?_setIfInBounds_ne (by omega), hcd j (by omega) h2]
        rw [show j - k = (j - (k + 1)) + 1 by omega]
        rfl
    have HCH := Lib.hid hch
    have HCE := Lib.hid hcells
    have HCD := Lib.hid hcd
    clear hch hcells hcd
    have k2 : (k : Int) ≤ Tryf.prog.arrayLen 45 := by
      have : Tryf.prog.arrayLen 45 = 64 := by kernel_rfl
      omega
    by_cases hsm : n < 8
    · have d0 : (((n / 8 : Nat) : Int) == 0) = true := by rw [beq_iff_eq]; omega
      have hsl : ∀ wq, Sem.run Tryf.prog (Instr.sliceAt 45 (.pointer (some ⟨w.heap.size, 0, none⟩)) (some (.int .i64 k)) none none) wq = .ok (.slice (some ⟨w.heap.size, k, none⟩) (64 - k) (64 - k)) wq := by
        intro wq
        rw [run_sliceAt_array_l _ _ _ (by kernel_rfl) _ _ k0 k2]
        have e1 : Tryf.prog.arrayLen 45 = 64 := by kernel_rfl
        have e2 : (sizeOf (Tryf.prog.elem 45)).run Tryf.prog wq = .ok 1 wq := by kernel_rfl
        rw [e1, e2]
        simp only [Result.andThen, slicedAt, Int.toNat_natCast]
        rw [if_neg (by omega), addr_add]
        simp
      have hdx : digs 8 x = n % 8 :: ds := by rw [hd.out, digs_lt hsm]; rfl
      have hcv : Sem.run Tryf.prog (convert 46 9 (.slice (some ⟨w.heap.size, k, none⟩) (64 - k) (64 - k))) (wr.setCell ⟨w.heap.size, k, none⟩ (.int .u8 ((ch.toNat : Nat) : Int))) = .ok (.string ⟨((digs 8 x).map (dch upDigits)).toArray⟩) (wr.setCell ⟨w.heap.size, k, none⟩ (.int .u8 ((ch.toNat : Nat) : Int))) := by
        rw [hdx, run_convert_bytes_string _ _ _ 5 _ _ _ (by kernel_rfl) (by kernel_rfl) (by kernel_rfl)]
        refine bytes_of_cells ?_ (by simp; omega)
        intro j hj
        rw [cell_of_block ho.own (k + j), HCE.out (k + j) (by omega) (by simp at hj; omega)]
        simp
      have hdl : 2 + (digs 8 x).length ≤ 9223372036854775807 := by rw [hdx]; simp; omega
      have Hdx := Lib.hid hdx
      clear hdx
      go_wp2_with fail
      go_ret
      refine ⟨rfl, ?_⟩
      exact ⟨ho.os.trans hlow.os, ho.tape.trans hlow.tape, ho.output.trans hlow.output, Nat.le_trans hlow.size ho.size, fun j hj => (ho.others j (Nat.lt_of_lt_of_le hj hlow.size) (by omega)).trans (hlow.block j hj)⟩
    · have d0 : (((n / 8 : Nat) : Int) == 0) = false := by rw [beq_eq_false_iff_ne]; omega
      have hk1 : 1 ≤ k := by
        by_cases hk : k = 0
        · subst hk; simp at hn; omega
        · omega
      have hn2 : n / 8 < 2 ^ k := by
        have : (2 : Nat) ^ (k + 1) = 2 ^ k * 2 := Nat.pow_succ 2 k
        omega
      go_wp2_with fail
      go_roundg k
      case measure => omega
      case rel =>
        refine ⟨n / 8, k, n % 8 :: ds, by go_num, rfl, rfl, hn2, hk1, by omega, ⟨?_, ⟨_, T, ho.own, by simpa using hcs, HCE.out⟩, by simp; omega⟩, Lib.hid ?_⟩
        · exact ⟨ho.os.trans hlow.os, ho.tape.trans hlow.tape, ho.output.trans hlow.output, Nat.le_trans hlow.size ho.size, fun j hj => (ho.others j (Nat.lt_of_lt_of_le hj hlow.size) (by omega)).trans (hlow.block j hj)⟩
        · rw [hd.out, digs_ge (by decide) (by omega)]; simp

set_option maxHeartbeats 4000000 in
set_option maxRecDepth 100000 in
theorem zzRender_2uU (x : Nat) (hx : x < 18446744073709551616) (w : World) :
    Calls Tryf.prog 9 #[.int .u64 x, .int .u8 2, .bool true, .bool true] w fun e w' => e = .returned (.string ((⟨#[48, 79]⟩ : ByteArray) ++ ⟨((digs 8 x).map (dch upDigits)).toArray⟩)) ∧ Below w.heap.size w w' := by
  go_enter Tryf.func9, Tryf.ntmps9
  go_wp2_with fail
  go_loopg [0, 13] 64 (fun g xv iv wr => ∃ (n i : Nat) (ds : List Nat), xv = .int .u64 n ∧ iv = .int .i64 i ∧ g = i ∧ n < 2 ^ i ∧ 1 ≤ i ∧ i ≤ 64 ∧ Buf w wr upDigits i ds ∧ Hid (digs 8 x = digs 8 n ++ ds))
  case atStart => exact ⟨x, 64, [], rfl, rfl, rfl, by simpa using hx, by decide, by decide, ⟨(Below.refl _ _).alloc (Nat.le_refl _) _, ⟨_, _, heap_alloc_at rfl, rfl, fun j h1 h2 => by omega⟩, rfl⟩, Lib.hid (by simp)⟩
  case round =>
    obtain ⟨n, i, ds, rfl, rfl, hg, hn, hi1, hi2, hbuf, hd⟩ := hrel
    obtain ⟨hlow, ⟨c, T, hc, hcs, hcd⟩, hlen⟩ := hbuf
    have fz := free_of_block hc
    have l0 : w.heap.size < wr.heap.size := (Array.getElem?_eq_some_iff.1 hc).1
    obtain ⟨k, rfl⟩ : ∃ k, i = k + 1 := ⟨i - 1, by omega⟩
    have ki : ((k + 1 : Nat) : Int) - 1 = (k : Int) := by omega
    have kw : IntKind.i64.wrap (((k + 1 : Nat) : Int) - 1) = (k : Int) := by rw [IntKind.wrap_i64]; omega
    have k0 : (0 : Int) ≤ (k : Int) := by omega
    have k1 : (k : Int) < 64 := by omega
    obtain ⟨v0, hv0⟩ : ∃ v, wr.cell? ⟨w.heap.size, k, none⟩ = some v := ⟨_, (cell_of_block hc k).trans (Array.getElem?_eq_getElem (by omega))⟩
    have HC := Lib.hid hc
    clear hc
    have uw : IntKind.u64.wrap ((n : Int) / 8) = ((n / 8 : Nat) : Int) := by
      have : n < 18446744073709551616 := Nat.lt_of_lt_of_le hn (by exact Nat.pow_le_pow_right (by decide) hi2)
      rw [IntKind.wrap_u64]; omega
    obtain ⟨ch, hch⟩ : ∃ ch : UInt8, ch = dch upDigits (n % 8) := ⟨_, rfl⟩
    have hch2 : ∀ h, (⟨#[48, 49, 50, 51, 52, 53, 54, 55, 56, 57, 65, 66, 67, 68, 69, 70]⟩ : ByteArray)[n % 8]'h = ch := by
      intro h
      rw [hch]
      unfold dch upDigits
      simp [Array.getD, ByteArray.getElem_eq_getElem_data]
      omega
    have ho := (OnlyL.refl HC.out).setCell k (.int .u8 ((ch.toNat : Nat) : Int))
    have hcells : ∀ j, k ≤ j → j < 64 → (c.setIfInBounds k (.int .u8 ((ch.toNat : Nat) : Int)))[j]? = some (.int .u8 ((dch upDigits ((n % 8 :: ds).getD (j - k) 0)).toNat : Nat)) := by
      intro j h1 h2
      by_cases hjk : j = k
      · subst hjk
        rw [Array.getElem?_setIfInBounds_self_of_lt (by omega), hch]
        simp
      · rw [Array.getElem?_setIfInBounds_ne (by omega), hcd j (by omega) h2]
        rw [show j - k = (j - (k + 1)) + 1 by omega]
        rfl
    have HCH := Lib.hid hch
    have HCE := Lib.hid hcells
    have HCD := Lib.hid hcd
    clear hch hcells hcd
    have k2 : (k : Int) ≤ Tryf.prog.arrayLen 45 := by
      have : Tryf.prog.arrayLen 45 = 64 := by kernel_rfl
      omega
    by_cases hsm : n < 8
    · have d0 : (((n / 8 : Nat) : Int) == 0) = true := by rw [beq_iff_eq]; omega
      have hsl : ∀ wq, Sem.run Tryf.prog (Instr.sliceAt 45 (.pointer (some ⟨w.heap.size, 0, none⟩)) (some (.int .i64 k)) none none) wq = .ok (.slice (some ⟨w.heap.size, k, none⟩) (64 - k) (64 - k)) wq := by
        intro wq
        rw [run_sliceAt_array_l _ _ _ (by kernel_rfl) _ _ k0 k2]
        have e1 : Tryf.prog.arrayLen 45 = 64 := by kernel_rfl
        have e2 : (sizeOf (Tryf.prog.elem 45)).run Tryf.prog wq = .ok 1 wq := by kernel_rfl
        rw [e1, e2]
        simp only [Result.andThen, slicedAt, Int.toNat_natCast]
        rw [if_neg (by omega), addr_add]
        simp
      have hdx : digs 8 x = n % 8 :: ds := by rw [hd.out, digs_lt hsm]; rfl
      have hcv : Sem.run Tryf.prog (convert 46 9 (.slice (some ⟨w.heap.size, k, none⟩) (64 - k) (64 - k))) (wr.setCell ⟨w.heap.size, k, none⟩ (.int .u8 ((ch.toNat : Nat) : Int))) = .ok (.string ⟨((digs 8 x).map (dch upDigits)).toArray⟩) (wr.setCell ⟨w.heap.size, k, none⟩ (.int .u8 ((ch.toNat : Nat) : Int))) := by
        rw [hdx, run_convert_bytes_string _ _ _ 5 _ _ _ (by kernel_rfl) (by kernel_rfl) (by kernel_rfl)]
        refine bytes_of_cells ?_ (by simp; omega)
        intro j hj
        rw [cell_of_block ho.own (k + j), HCE.out (k + j) (by omega) (by simp at hj; omega)]
        simp
      have hdl : 2 + (digs 8 x).length ≤ 9223372036854775807 := by rw [hdx]; simp; omega
      have Hdx := Lib.hid hdx
      clear hdx
      go_wp2_with fail
      go_ret
      refine ⟨rfl, ?_⟩
      exact ⟨ho.os.trans hlow.os, ho.tape.trans hlow.tape, ho.output.trans hlow.output, Nat.le_trans hlow.size ho.size, fun j hj => (ho.others j (Nat.lt_of_lt_of_le hj hlow.size) (by omega)).trans (hlow.block j hj)⟩
    · have d0 : (((n / 8 : Nat) : Int) == 0) = false := by rw [beq_eq_false_iff_ne]; omega
      have hk1 : 1 ≤ k := by
        by_cases hk : k = 0
        · subst hk; simp at hn; omega
        · omega
      have hn2 : n / 8 < 2 ^ k := by
        have : (2 : Nat) ^ (k + 1) = 2 ^ k * 2 := Nat.pow_succ 2 k
        omega
      go_wp2_with fail
      go_roundg k
      case measure => omega
      case rel =>
        refine ⟨n / 8, k, n % 8 :: ds, by go_num, rfl, rfl, hn2, hk1, by omega, ⟨?_, ⟨_, T, ho.own, by simpa using hcs, HCE.out⟩, by simp; omega⟩, Lib.hid ?_⟩
        · exact ⟨ho.os.trans hlow.os, ho.tape.trans hlow.tape, ho.output.trans hlow.output, Nat.le_trans hlow.size ho.size, fun j hj => (ho.others j (Nat.lt_of_lt_of_le hj hlow.size) (by omega)).trans (hlow.block j hj)⟩
        · rw [hd.out, digs_ge (by decide) (by omega)]; simp

set_option maxHeartbeats 4000000 in
set_option maxRecDepth 100000 in
theorem zzRender_3lL (x : Nat) (hx : x < 18446744073709551616) (w : World) :
    Calls Tryf.prog 9 #[.int .u64 x, .int .u8 3, .bool false, .bool false] w fun e w' => e = .returned (.string ((⟨#[48, 98]⟩ : ByteArray) ++ ⟨((digs 2 x).map (dch loDigits)).toArray⟩)) ∧ Below w.heap.size w w' := by
  go_enter Tryf.func9, Tryf.ntmps9
  go_wp2_with fail
  go_loopg [0, 13] 64 (fun g xv iv wr => ∃ (n i : Nat) (ds : List Nat), xv = .int .u64 n ∧ iv = .int .i64 i ∧ g = i ∧ n < 2 ^ i ∧ 1 ≤ i ∧ i ≤ 64 ∧ Buf w wr loDigits i ds ∧ Hid (digs 2 x = digs 2 n ++ ds))
  case atStart => exact ⟨x, 64, [], rfl, rfl, rfl, by simpa using hx, by decide, by decide, ⟨(Below.refl _ _).alloc (Nat.le_refl _) _, ⟨_, _, heap_alloc_at rfl, rfl, fun j h1 h2 => by omega⟩, rfl⟩, Lib.hid (by simp)⟩
  case round =>
    obtain ⟨n, i, ds, rfl, rfl, hg, hn, hi1, hi2, hbuf, hd⟩ := hrel
    obtain ⟨hlow, ⟨c, T, hc, hcs, hcd⟩, hlen⟩ := hbuf
    have fz := free_of_block hc
    have l0 : w.heap.size < wr.heap.size := (Array.getElem?_eq_some_iff.1 hc).1
    obtain ⟨k, rfl⟩ : ∃ k, i = k + 1 := ⟨i - 1, by omega⟩
    have ki : ((k + 1 : Nat) : Int) - 1 = (k : Int) := by omega
    have kw : IntKind.i64.wrap (((k + 1 : Nat) : Int) - 1) = (k : Int) := by rw [IntKind.wrap_i64]; omega
    have k0 : (0 : Int) ≤ (k : Int) := by omega
    have k1 : (k : Int) < 64 := by omega
    obtain ⟨v0, hv0⟩ : ∃ v, wr.cell? ⟨w.heap.size, k, none⟩ = some v := ⟨_, (cell_of_block hc k).trans (Array.getElem?_eq_getElem (by omega))⟩
    have HC := Lib.hid hc
    clear hc
    have uw : IntKind.u64.wrap ((n : Int) / 2) = ((n / 2 : Nat) : Int) := by
      have : n < 18446744073709551616 := Nat.lt_of_lt_of_le hn (by exact Nat.pow_le_pow_right (by decide) hi2)
      rw [IntKind.wrap_u64]; omega
    obtain ⟨ch, hch⟩ : ∃ ch : UInt8, ch = dch loDigits (n % 2) := ⟨_, rfl⟩
    have hch2 : ∀ h, (⟨#[48, 49, 50, 51, 52, 53, 54, 55, 56, 57, 97, 98, 99, 100, 101, 102]⟩ : ByteArray)[n % 2]'h = ch := by
      intro h
      rw [hch]
      unfold dch loDigits
      simp [Array.getD, ByteArray.getElem_eq_getElem_data]
      omega
    have ho := (OnlyL.refl HC.out).setCell k (.int .u8 ((ch.toNat : Nat) : Int))
    have hcells : ∀ j, k ≤ j → j < 64 → (c.setIfInBounds k (.int .u8 ((ch.toNat : Nat) : Int)))[j]? = some (.int .u8 ((dch loDigits ((n % 2 :: ds).getD (j - k) 0)).toNat : Nat)) := by
      intro j h1 h2
      by_cases hjk : j = k
      · subst hjk
        rw [Array.getElem?_setIfInBounds_self_of_lt (by omega), hch]
        simp
      · rw [Array.getElem?_setIfInBounds_ne (by omega), hcd j (by omega) h2]
        rw [show j - k = (j - (k + 1)) + 1 by omega]
        rfl
    have HCH := Lib.hid hch
    have HCE := Lib.hid hcells
    have HCD := Lib.hid hcd
    clear hch hcells hcd
    have k2 : (k : Int) ≤ Tryf.prog.arrayLen 45 := by
      have : Tryf.prog.arrayLen 45 = 64 := by kernel_rfl
      omega
    by_cases hsm : n < 2
    · have d0 : (((n / 2 : Nat) : Int) == 0) = true := by rw [beq_iff_eq]; omega
      have hsl : ∀ wq, Sem.run Tryf.prog (Instr.sliceAt 45 (.pointer (some ⟨w.heap.size, 0, none⟩)) (some (.int .i64 k)) none none) wq = .ok (.slice (some ⟨w.heap.size, k, none⟩) (64 - k) (64 - k)) wq := by
        intro wq
        rw [run_sliceAt_array_l _ _ _ (by kernel_rfl) _ _ k0 k2]
        have e1 : Tryf.prog.arrayLen 45 = 64 := by kernel_rfl
        have e2 : (sizeOf (Tryf.prog.elem 45)).run Tryf.prog wq = .ok 1 wq := by kernel_rfl
        rw [e1, e2]
        simp only [Result.andThen, slicedAt, Int.toNat_natCast]
        rw [if_neg (by omega), addr_add]
        simp
      have hdx : digs 2 x = n % 2 :: ds := by rw [hd.out, digs_lt hsm]; rfl
      have hcv : Sem.run Tryf.prog (convert 46 9 (.slice (some ⟨w.heap.size, k, none⟩) (64 - k) (64 - k))) (wr.setCell ⟨w.heap.size, k, none⟩ (.int .u8 ((ch.toNat : Nat) : Int))) = .ok (.string ⟨((digs 2 x).map (dch loDigits)).toArray⟩) (wr.setCell ⟨w.heap.size, k, none⟩ (.int .u8 ((ch.toNat : Nat) : Int))) := by
        rw [hdx, run_convert_bytes_string _ _ _ 5 _ _ _ (by kernel_rfl) (by kernel_rfl) (by kernel_rfl)]
        refine bytes_of_cells ?_ (by simp; omega)
        intro j hj
        rw [cell_of_block ho.own (k + j), HCE.out (k + j) (by omega) (by simp at hj; omega)]
        simp
      have hdl : 2 + (digs 2 x).length ≤ 9223372036854775807 := by rw [hdx]; simp; omega
      have Hdx := Lib.hid hdx
      clear hdx
      go_wp2_with fail
      go_ret
      refine ⟨rfl, ?_⟩
      exact ⟨ho.os.trans hlow.os, ho.tape.trans hlow.tape, ho.output.trans hlow.output, Nat.le_trans hlow.size ho.size, fun j hj => (ho.others j (Nat.lt_of_lt_of_le hj hlow.size) (by omega)).trans (hlow.block j hj)⟩
    · have d0 : (((n / 2 : Nat) : Int) == 0) = false := by rw [beq_eq_false_iff_ne]; omega
      have hk1 : 1 ≤ k := by
        by_cases hk : k = 0
        · subst hk; simp at hn; omega
        · omega
      have hn2 : n / 2 < 2 ^ k := by
        have : (2 : Nat) ^ (k + 1) = 2 ^ k * 2 := Nat.pow_succ 2 k
        omega
      go_wp2_with fail
      go_roundg k
      case measure => omega
      case rel =>
        refine ⟨n / 2, k, n % 2 :: ds, by go_num, rfl, rfl, hn2, hk1, by omega, ⟨?_, ⟨_, T, ho.own, by simpa using hcs, HCE.out⟩, by simp; omega⟩, Lib.hid ?_⟩
        · exact ⟨ho.os.trans hlow.os, ho.tape.trans hlow.tape, ho.output.trans hlow.output, Nat.le_trans hlow.size ho.size, fun j hj => (ho.others j (Nat.lt_of_lt_of_le hj hlow.size) (by omega)).trans (hlow.block j hj)⟩
        · rw [hd.out, digs_ge (by decide) (by omega)]; simp

set_option maxHeartbeats 4000000 in
set_option maxRecDepth 100000 in
theorem zzRender_3uL (x : Nat) (hx : x < 18446744073709551616) (w : World) :
    Calls Tryf.prog 9 #[.int .u64 x, .int .u8 3, .bool true, .bool false] w fun e w' => e = .returned (.string ((⟨#[48, 66]⟩ : ByteArray) ++ ⟨((digs 2 x).map (dch loDigits)).toArray⟩)) ∧ Below w.heap.size w w' := by
  go_enter Tryf.func9, Tryf.ntmps9
  go_wp2_with fail
  go_loopg [0, 13] 64 (fun g xv iv wr => ∃ (n i : Nat) (ds : List Nat), xv = .int .u64 n ∧ iv = .int .i64 i ∧ g = i ∧ n < 2 ^ i ∧ 1 ≤ i ∧ i ≤ 64 ∧ Buf w wr loDigits i ds ∧ Hid (digs 2 x = digs 2 n ++ ds))
  case atStart => exact ⟨x, 64, [], rfl, rfl, rfl, by simpa using hx, by decide, by decide, ⟨(Below.refl _ _).alloc (Nat.le_refl _) _, ⟨_, _, heap_alloc_at rfl, rfl, fun j h1 h2 => by omega⟩, rfl⟩, Lib.hid (by simp)⟩
  case round =>
    obtain ⟨n, i, ds, rfl, rfl, hg, hn, hi1, hi2, hbuf, hd⟩ := hrel
    obtain ⟨hlow, ⟨c, T, hc, hcs, hcd⟩, hlen⟩ := hbuf
    have fz := free_of_block hc
    have l0 : w.heap.size < wr.heap.size := (Array.getElem?_eq_some_iff.1 hc).1
    obtain ⟨k, rfl⟩ : ∃ k, i = k + 1 := ⟨i - 1, by omega⟩
    have ki : ((k + 1 : Nat) : Int) - 1 = (k : Int) := by omega
    have kw : IntKind.i64.wrap (((k + 1 : Nat) : Int) - 1) = (k : Int) := by rw [IntKind.wrap_i64]; omega
    have k0 : (0 : Int) ≤ (k : Int) := by omega
    have k1 : (k : Int) < 64 := by omega
    obtain ⟨v0, hv0⟩ : ∃ v, wr.cell? ⟨w.heap.size, k, none⟩ = some v := ⟨_, (cell_of_block hc k).trans (Array.getElem?_eq_getElem (by omega))⟩
    have HC := Lib.hid hc
    clear hc
    have uw : IntKind.u64.wrap ((n : Int) / 2) = ((n / 2 : Nat) : Int) := by
      have : n < 18446744073709551616 := Nat.lt_of_lt_of_le hn (by exact Nat.pow_le_pow_right (by decide) hi2)
      rw [IntKind.wrap_u64]; omega
    obtain ⟨ch, hch⟩ : ∃ ch : UInt8, ch = dch loDigits (n % 2) := ⟨_, rfl⟩
    have hch2 : ∀ h, (⟨#[48, 49, 50, 51, 52, 53, 54, 55, 56, 57, 97, 98, 99, 100, 101, 102]⟩ : ByteArray)[n % 2]'h = ch := by
      intro h
      rw [hch]
      unfold dch loDigits
      simp [Array.getD, ByteArray.getElem_eq_getElem_data]
      omega
    have ho := (OnlyL.refl HC.out).setCell k (.int .u8 ((ch.toNat : Nat) : Int))
    have hcells : ∀ j, k ≤ j → j < 64 → (c.setIfInBounds k (.int .u8 ((ch.toNat : Nat) : Int)))[j]? = some (.int .u8 ((dch loDigits ((n % 2 :: ds).getD (j - k) 0)).toNat : Nat)) := by
      intro j h1 h2
      by_cases hjk : j = k
      · subst hjk
        rw [Array.getElem?_setIfInBounds_self_of_lt (by omega), hch]
        simp
      · rw [Array.getElem?_setIfInBounds_ne (by omega), hcd j (by omega) h2]
        rw [show j - k = (j - (k + 1)) + 1 by omega]
        rfl
    have HCH := Lib.hid hch
    have HCE := Lib.hid hcells
    have HCD := Lib.hid hcd
    clear hch hcells hcd
    have k2 : (k : Int) ≤ Tryf.prog.arrayLen 45 := by
      have : Tryf.prog.arrayLen 45 = 64 := by kernel_rfl
      omega
    by_cases hsm : n < 2
    · have d0 : (((n / 2 : Nat) : Int) == 0) = true := by rw [beq_iff_eq]; omega
      have hsl : ∀ wq, Sem.run Tryf.prog (Instr.sliceAt 45 (.pointer (some ⟨w.heap.size, 0, none⟩)) (some (.int .i64 k)) none none) wq = .ok (.slice (some ⟨w.heap.size, k, none⟩) (64 - k) (64 - k)) wq := by
        intro wq
        rw [run_sliceAt_array_l _ _ _ (by kernel_rfl) _ _ k0 k2]
        have e1 : Tryf.prog.arrayLen 45 = 64 := by kernel_rfl
        have e2 : (sizeOf (Tryf.prog.elem 45)).run Tryf.prog wq = .ok 1 wq := by kernel_rfl
        rw [e1, e2]
        simp only [Result.andThen, slicedAt, Int.toNat_natCast]
        rw [if_neg (by omega), addr_add]
        simp
      have hdx : digs 2 x = n % 2 :: ds := by rw [hd.out, digs_lt hsm]; rfl
      have hcv : Sem.run Tryf.prog (convert 46 9 (.slice (some ⟨w.heap.size, k, none⟩) (64 - k) (64 - k))) (wr.setCell ⟨w.heap.size, k, none⟩ (.int .u8 ((ch.toNat : Nat) : Int))) = .ok (.string ⟨((digs 2 x).map (dch loDigits)).toArray⟩) (wr.setCell ⟨w.heap.size, k, none⟩ (.int .u8 ((ch.toNat : Nat) : Int))) := by
        rw [hdx, run_convert_bytes_string _ _ _ 5 _ _ _ (by kernel_rfl) (by kernel_rfl) (by kernel_rfl)]
        refine bytes_of_cells ?_ (by simp; omega)
        intro j hj
        rw [cell_of_block ho.own (k + j), HCE.out (k + j) (by omega) (by simp at hj; omega)]
        simp
      have hdl : 2 + (digs 2 x).length ≤ 9223372036854775807 := by rw [hdx]; simp; omega
      have Hdx := Lib.hid hdx
      clear hdx
      go_wp2_with fail
      go_ret
      refine ⟨rfl, ?_⟩
      exact ⟨ho.os.trans hlow.os, ho.tape.trans hlow.tape, ho.output.trans hlow.output, Nat.le_trans hlow.size ho.size, fun j hj => (ho.others j (Nat.lt_of_lt_of_le hj hlow.size) (by omega)).trans (hlow.block j hj)⟩
    · have d0 : (((n / 2 : Nat) : Int) == 0) = false := by rw [beq_eq_false_iff_ne]; omega
      have hk1 : 1 ≤ k := by
        by_cases hk : k = 0
        · subst hk; simp at hn; omega
        · omega
      have hn2 : n / 2 < 2 ^ k := by
        have : (2 : Nat) ^ (k + 1) = 2 ^ k * 2 := Nat.pow_succ 2 k
        omega
      go_wp2_with fail
      go_roundg k
      case measure => omega
      case rel =>
        refine ⟨n / 2, k, n % 2 :: ds, by go_num, rfl, rfl, hn2, hk1, by omega, ⟨?_, ⟨_, T, ho.own, by simpa using hcs, HCE.out⟩, by simp; omega⟩, Lib.hid ?_⟩
        · exact ⟨ho.os.trans hlow.os, ho.tape.trans hlow.tape, ho.output.trans hlow.output, Nat.le_trans hlow.size ho.size, fun j hj => (ho.others j (Nat.lt_of_lt_of_le hj hlow.size) (by omega)).trans (hlow.block j hj)⟩
        · rw [hd.out, digs_ge (by decide) (by omega)]; simp

set_option maxHeartbeats 4000000 in
set_option maxRecDepth 100000 in
theorem zzRender_3lU (x : Nat) (hx : x < 18446744073709551616) (w : World) :
    Calls Tryf.prog 9 #[.int .u64 x, .int .u8 3, .bool false, .bool true] w fun e w' => e = .returned (.string ((⟨#[48, 98]⟩ : ByteArray) ++ ⟨((digs 2 x).map (dch upDigits)).toArray⟩)) ∧ Below w.heap.size w w' := by
  go_enter Tryf.func9, Tryf.ntmps9
  go_wp2_with fail
  go_loopg [0, 13] 64 (fun g xv iv wr => ∃ (n i : Nat) (ds : List Nat), xv = .int .u64 n ∧ iv = .int .i64 i ∧ g = i ∧ n < 2 ^ i ∧ 1 ≤ i ∧ i ≤ 64 ∧ Buf w wr upDigits i ds ∧ Hid (digs 2 x = digs 2 n ++ ds))
  case atStart => exact ⟨x, 64, [], rfl, rfl, rfl, by simpa using hx, by decide, by decide, ⟨(Below.refl _ _).alloc (Nat.le_refl _) _, ⟨_, _, heap_alloc_at rfl, rfl, fun j h1 h2 => by omega⟩, rfl⟩, Lib.hid (by simp)⟩
  case round =>
    obtain ⟨n, i, ds, rfl, rfl, hg, hn, hi1, hi2, hbuf, hd⟩ := hrel
    obtain ⟨hlow, ⟨c, T, hc, hcs, hcd⟩, hlen⟩ := hbuf
    have fz := free_of_block hc
    have l0 : w.heap.size < wr.heap.size := (Array.getElem?_eq_some_iff.1 hc).1
    obtain ⟨k, rfl⟩ : ∃ k, i = k + 1 := ⟨i - 1, by omega⟩
    have ki : ((k + 1 : Nat) : Int) - 1 = (k : Int) := by omega
    have kw : IntKind.i64.wrap (((k + 1 : Nat) : Int) - 1) = (k : Int) := by rw [IntKind.wrap_i64]; omega
    have k0 : (0 : Int) ≤ (k : Int) := by omega
    have k1 : (k : Int) < 64 := by omega
    obtain ⟨v0, hv0⟩ : ∃ v, wr.cell? ⟨w.heap.size, k, none⟩ = some v := ⟨_, (cell_of_block hc k).trans (Array.getElem?_eq_getElem (by omega))⟩
    have HC := Lib.hid hc
    clear hc
    have uw : IntKind.u64.wrap ((n : Int) / 2) = ((n / 2 : Nat) : Int) := by
      have : n < 18446744073709551616 := Nat.lt_of_lt_of_le hn (by exact Nat.pow_le_pow_right (by decide) hi2)
      rw [IntKind.wrap_u64]; omega
    obtain ⟨ch, hch⟩ : ∃ ch : UInt8, ch = dch upDigits (n % 2) := ⟨_, rfl⟩
    have hch2 : ∀ h, (⟨#[48, 49, 50, 51, 52, 53, 54, 55, 56, 57, 65, 66, 67, 68, 69, 70]⟩ : ByteArray)[n % 2]'h = ch := by
      intro h
      rw [hch]
      unfold dch upDigits
      simp [Array.getD, ByteArray.getElem_eq_getElem_data]
      omega
    have ho := (OnlyL.refl HC.out).setCell k (.int .u8 ((ch.toNat : Nat) : Int))
    have hcells : ∀ j, k ≤ j → j < 64 → (c.setIfInBounds k (.int .u8 ((ch.toNat : Nat) : Int)))[j]? = some (.int .u8 ((dch upDigits ((n % 2 :: ds).getD (j - k) 0)).toNat : Nat)) := by
      intro j h1 h2
      by_cases hjk : j = k
      · subst hjk
        rw [Array.getElem?_setIfInBounds_self_of_lt (by omega), hch]
        simp
      · rw [Array.getElem?_setIfInBounds_ne (by omega), hcd j (by omega) h2]
        rw [show j - k = (j - (k + 1)) + 1 by omega]
        rfl
    have HCH := Lib.hid hch
    have HCE := Lib.hid hcells
    have HCD := Lib.hid hcd
    clear hch hcells hcd
    have k2 : (k : Int) ≤ Tryf.prog.arrayLen 45 := by
      have : Tryf.prog.arrayLen 45 = 64 := by kernel_rfl
      omega
    by_cases hsm : n < 2
    · have d0 : (((n / 2 : Nat) : Int) == 0) = true := by rw [beq_iff_eq]; omega
      have hsl : ∀ wq, Sem.run Tryf.prog (Instr.sliceAt 45 (.pointer (some ⟨w.heap.size, 0, none⟩)) (some (.int .i64 k)) none none) wq = .ok (.slice (some ⟨w.heap.size, k, none⟩) (64 - k) (64 - k)) wq := by
        intro wq
        rw [run_sliceAt_array_l _ _ _ (by kernel_rfl) _ _ k0 k2]
        have e1 : Tryf.prog.arrayLen 45 = 64 := by kernel_rfl
        have e2 : (sizeOf (Tryf.prog.elem 45)).run Tryf.prog wq = .ok 1 wq := by kernel_rfl
        rw [e1, e2]
        simp only [Result.andThen, slicedAt, Int.toNat_natCast]
        rw [if_neg (by omega), addr_add]
        simp
      have hdx : digs 2 x = n % 2 :: ds := by rw [hd.out, digs_lt hsm]; rfl
      have hcv : Sem.run Tryf.prog (convert 46 9 (.slice (some ⟨w.heap.size, k, none⟩) (64 - k) (64 - k))) (wr.setCell ⟨w.heap.size, k, none⟩ (.int .u8 ((ch.toNat : Nat) : Int))) = .ok (.string ⟨((digs 2 x).map (dch upDigits)).toArray⟩) (wr.setCell ⟨w.heap.size, k, none⟩ (.int .u8 ((ch.toNat : Nat) : Int))) := by
        rw [hdx, run_convert_bytes_string _ _ _ 5 _ _ _ (by kernel_rfl) (by kernel_rfl) (by kernel_rfl)]
        refine bytes_of_cells ?_ (by simp; omega)
        intro j hj
        rw [cell_of_block ho.own (k + j), HCE.out (k + j) (by omega) (by simp at hj; omega)]
        simp
      have hdl : 2 + (digs 2 x).length ≤ 9223372036854775807 := by rw [hdx]; simp; omega
      have Hdx := Lib.hid hdx
      clear hdx
      go_wp2_with fail
      go_ret
      refine ⟨rfl, ?_⟩
      exact ⟨ho.os.trans hlow.os, ho.tape.trans hlow.tape, ho.output.trans hlow.output, Nat.le_trans hlow.size ho.size, fun j hj => (ho.others j (Nat.lt_of_lt_of_le hj hlow.size) (by omega)).trans (hlow.block j hj)⟩
    · have d0 : (((n / 2 : Nat) : Int) == 0) = false := by rw [beq_eq_false_iff_ne]; omega
      have hk1 : 1 ≤ k := by
        by_cases hk : k = 0
        · subst hk; simp at hn; omega
        · omega
      have hn2 : n / 2 < 2 ^ k := by
        have : (2 : Nat) ^ (k + 1) = 2 ^ k * 2 := Nat.pow_succ 2 k
        omega
      go_wp2_with fail
      go_roundg k
      case measure => omega
      case rel =>
        refine ⟨n / 2, k, n % 2 :: ds, by go_num, rfl, rfl, hn2, hk1, by omega, ⟨?_, ⟨_, T, ho.own, by simpa using hcs, HCE.out⟩, by simp; omega⟩, Lib.hid ?_⟩
        · exact ⟨ho.os.trans hlow.os, ho.tape.trans hlow.tape, ho.output.trans hlow.output, Nat.le_trans hlow.size ho.size, fun j hj => (ho.others j (Nat.lt_of_lt_of_le hj hlow.size) (by omega)).trans (hlow.block j hj)⟩
        · rw [hd.out, digs_ge (by decide) (by omega)]; simp

set_option maxHeartbeats 4000000 in
set_option maxRecDepth 100000 in
theorem zzRender_3uU (x : Nat) (hx : x < 18446744073709551616) (w : World) :
    Calls Tryf.prog 9 #[.int .u64 x, .int .u8 3, .bool true, .bool true] w fun e w' => e = .returned (.string ((⟨#[48, 66]⟩ : ByteArray) ++ ⟨((digs 2 x).map (dch upDigits)).toArray⟩)) ∧ Below w.heap.size w w' := by
  go_enter Tryf.func9, Tryf.ntmps9
  go_wp2_with fail
  go_loopg [0, 13] 64 (fun g xv iv wr => ∃ (n i : Nat) (ds : List Nat), xv = .int .u64 n ∧ iv = .int .i64 i ∧ g = i ∧ n < 2 ^ i ∧ 1 ≤ i ∧ i ≤ 64 ∧ Buf w wr upDigits i ds ∧ Hid (digs 2 x = digs 2 n ++ ds))
  case atStart => exact ⟨x, 64, [], rfl, rfl, rfl, by simpa using hx, by decide, by decide, ⟨(Below.refl _ _).alloc (Nat.le_refl _) _, ⟨_, _, heap_alloc_at rfl, rfl, fun j h1 h2 => by omega⟩, rfl⟩, Lib.hid (by simp)⟩
  case round =>
    obtain ⟨n, i, ds, rfl, rfl, hg, hn, hi1, hi2, hbuf, hd⟩ := hrel
    obtain ⟨hlow, ⟨c, T, hc, hcs, hcd⟩, hlen⟩ := hbuf
    have fz := free_of_block hc
    have l0 : w.heap.size < wr.heap.size := (Array.getElem?_eq_some_iff.1 hc).1
    obtain ⟨k, rfl⟩ : ∃ k, i = k + 1 := ⟨i - 1, by omega⟩
    have ki : ((k + 1 : Nat) : Int) - 1 = (k : Int) := by omega
    have kw : IntKind.i64.wrap (((k + 1 : Nat) : Int) - 1) = (k : Int) := by rw [IntKind.wrap_i64]; omega
    have k0 : (0 : Int) ≤ (k : Int) := by omega
    have k1 : (k : Int) < 64 := by omega
    obtain ⟨v0, hv0⟩ : ∃ v, wr.cell? ⟨w.heap.size, k, none⟩ = some v := ⟨_, (cell_of_block hc k).trans (Array.getElem?_eq_getElem (by omega))⟩
    have HC := Lib.hid hc
    clear hc
    have uw : IntKind.u64.wrap ((n : Int) / 2) = ((n / 2 : Nat) : Int) := by
      have : n < 18446744073709551616 := Nat.lt_of_lt_of_le hn (by exact Nat.pow_le_pow_right (by decide) hi2)
      rw [IntKind.wrap_u64]; omega
    obtain ⟨ch, hch⟩ : ∃ ch : UInt8, ch = dch upDigits (n % 2) := ⟨_, rfl⟩
    have hch2 : ∀ h, (⟨#[48, 49, 50, 51, 52, 53, 54, 55, 56, 57, 65, 66, 67, 68, 69, 70]⟩ : ByteArray)[n % 2]'h = ch := by
      intro h
      rw [hch]
      unfold dch upDigits
      simp [Array.getD, ByteArray.getElem_eq_getElem_data]
      omega
    have ho := (OnlyL.refl HC.out).setCell k (.int .u8 ((ch.toNat : Nat) : Int))
    have hcells : ∀ j, k ≤ j → j < 64 → (c.setIfInBounds k (.int .u8 ((ch.toNat : Nat) : Int)))[j]? = some (.int .u8 ((dch upDigits ((n % 2 :: ds).getD (j - k) 0)).toNat : Nat)) := by
      intro j h1 h2
      by_cases hjk : j = k
      · subst hjk
        rw [Array.getElem?_setIfInBounds_self_of_lt (by omega), hch]
        simp
      · rw [Array.getElem?_setIfInBounds_ne (by omega), hcd j (by omega) h2]
        rw [show j - k = (j - (k + 1)) + 1 by omega]
        rfl
    have HCH := Lib.hid hch
    have HCE := Lib.hid hcells
    have HCD := Lib.hid hcd
    clear hch hcells hcd
    have k2 : (k : Int) ≤ Tryf.prog.arrayLen 45 := by
      have : Tryf.prog.arrayLen 45 = 64 := by kernel_rfl
      omega
    by_cases hsm : n < 2
    · have d0 : (((n / 2 : Nat) : Int) == 0) = true := by rw [beq_iff_eq]; omega
      have hsl : ∀ wq, Sem.run Tryf.prog (Instr.sliceAt 45 (.pointer (some ⟨w.heap.size, 0, none⟩)) (some (.int .i64 k)) none none) wq = .ok (.slice (some ⟨w.heap.size, k, none⟩) (64 - k) (64 - k)) wq := by
        intro wq
        rw [run_sliceAt_array_l _ _ _ (by kernel_rfl) _ _ k0 k2]
        have e1 : Tryf.prog.arrayLen 45 = 64 := by kernel_rfl
        have e2 : (sizeOf (Tryf.prog.elem 45)).run Tryf.prog wq = .ok 1 wq := by kernel_rfl
        rw [e1, e2]
        simp only [Result.andThen, slicedAt, Int.toNat_natCast]
        rw [if_neg (by omega), addr_add]
        simp
      have hdx : digs 2 x = n % 2 :: ds := by rw [hd.out, digs_lt hsm]; rfl
      have hcv : Sem.run Tryf.prog (convert 46 9 (.slice (some ⟨w.heap.size, k, none⟩) (64 - k) (64 - k))) (wr.setCell ⟨w.heap.size, k, none⟩ (.int .u8 ((ch.toNat : Nat) : Int))) = .ok (.string ⟨((digs 2 x).map (dch upDigits)).toArray⟩) (wr.setCell ⟨w.heap.size, k, none⟩ (.int .u8 ((ch.toNat : Nat) : Int))) := by
        rw [hdx, run_convert_bytes_string _ _ _ 5 _ _ _ (by kernel_rfl) (by kernel_rfl) (by kernel_rfl)]
        refine bytes_of_cells ?_ (by simp; omega)
        intro j hj
        rw [cell_of_block ho.own (k + j), HCE.out (k + j) (by omega) (by simp at hj; omega)]
        simp
      have hdl : 2 + (digs 2 x).length ≤ 9223372036854775807 := by rw [hdx]; simp; omega
      have Hdx := Lib.hid hdx
      clear hdx
      go_wp2_with fail
      go_ret
      refine ⟨rfl, ?_⟩
      exact ⟨ho.os.trans hlow.os, ho.tape.trans hlow.tape, ho.output.trans hlow.output, Nat.le_trans hlow.size ho.size, fun j hj => (ho.others j (Nat.lt_of_lt_of_le hj hlow.size) (by omega)).trans (hlow.block j hj)⟩
    · have d0 : (((n / 2 : Nat) : Int) == 0) = false := by rw [beq_eq_false_iff_ne]; omega
      have hk1 : 1 ≤ k := by
        by_cases hk : k = 0
        · subst hk; simp at hn; omega
        · omega
      have hn2 : n / 2 < 2 ^ k := by
        have : (2 : Nat) ^ (k + 1) = 2 ^ k * 2 := Nat.pow_succ 2 k
        omega
      go_wp2_with fail
      go_roundg k
      case measure => omega
      case rel =>
        refine ⟨n / 2, k, n % 2 :: ds, by go_num, rfl, rfl, hn2, hk1, by omega, ⟨?_, ⟨_, T, ho.own, by simpa using hcs, HCE.out⟩, by simp; omega⟩, Lib.hid ?_⟩
        · exact ⟨ho.os.trans hlow.os, ho.tape.trans hlow.tape, ho.output.trans hlow.output, Nat.le_trans hlow.size ho.size, fun j hj => (ho.others j (Nat.lt_of_lt_of_le hj hlow.size) (by omega)).trans (hlow.block j hj)⟩
        · rw [hd.out, digs_ge (by decide) (by omega)]; simp

end Go.Proofs.YtdpdgppjeekcmaaFmt
